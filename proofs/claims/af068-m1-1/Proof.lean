import JvmDerived
import JvmDerived.Pilot.@@N@@Statement
import JvmDerived.Pilot.@@N@@Code
set_option linter.unusedVariables false
set_option linter.unusedSimpArgs false
namespace Jvm.Pilot.@@N@@
open Jvm Jvm.ClassFile Sem Op Lib Jvm.Free Jvm.Stand Jvm.LawKit Jvm.RoadKit Bundle Jvm.Pilot.@@N@@.Jvm.D
section OwnKit
variable {p : Program} {l : Launch} {e : Env} {R : Room} {s : State} {m : MethodId} {args : Array Value} {below : List Frame} {meth : Method} {c : Code} {T : State} {locs : List Loc} {cells slots : Nat} {Z : State} {a0 : Array Value} {h h' : Heap}
/-- the run from t comes to the method's end, where Q holds -/
def own_Go (p : Program) (e : Env) (below : List Frame) (s : State) (Q : Option Value → Heap → List Loc → Prop) (k n : Nat) (t : State) : Prop :=
  ∃ s₂ o, Steps p.tables e below t s₂ ∧ s₂.status = .running ∧ Ended s₂ below o ∧ ∃ v L, o = .returned v ∧ Q v s₂.heap L ∧ FrameEnd s o s₂ L k n
theorem own_go {Q : Option Value → Heap → List Loc → Prop} {k n : Nat} {t t' : State} (st : ∀ u, Steps p.tables e below t' u → Steps p.tables e below t u) (G : own_Go p e below s Q k n t') : own_Go p e below s Q k n t := by
  obtain ⟨s2, o, h1, r⟩ := G
  exact ⟨s2, o, st _ h1, r⟩
theorem own_ret {Q : Option Value → Heap → List Loc → Prop} {k n : Nat} (X : Stand p l e R s m args below meth c T locs cells slots) (hx : p.tables.exec = Jvm.exec) (hlk : meth.locks = false) {pc : Nat} {Ls : Array Slot} {w : Value} {t : FieldType} {i : Instr} {rest : List Value} (hret : meth.sig.returnType = some t) (hn : narrow t w = w)
    (hi : (i = .ireturn ∧ (t = .int ∨ t = .boolean ∨ t = .byte ∨ t = .char ∨ t = .short) ∧ ∃ z, w = .int z) ∨ (i = .lreturn ∧ t = .long ∧ ∃ z, w = .long z) ∨ (i = .dreturn ∧ t = .double ∧ ∃ z, w = .double z) ∨ (i = .freturn ∧ t = .float ∧ ∃ z, w = .float z) ∨ (i = .areturn ∧ t.isReference = true ∧ w.isRef = true))
    (hd : decode c.code pc = .ok (i, 1)) (hk : cells ≤ k) (hs : slots ≤ n) (hq : Q (some w) T.heap locs) : own_Go p e below s Q k n (T.setTop (mkF m pc Ls (w :: rest))) := by
  obtain ⟨fs, hr, hrun, hended, hW, hsame⟩ := X.leave (v := some w) (fun q => by rw [hret] at q; cases q) hlk
  exact ⟨_, _, retOut X hx hret hn hi hd hr, hrun, hended, _, _, rfl, hq, ⟨_, rfl⟩, hW, hsame.mono hk hs⟩
theorem own_retI {Q : Option Value → Heap → List Loc → Prop} {k n : Nat} (X : Stand p l e R s m args below meth c T locs cells slots) (hx : p.tables.exec = Jvm.exec) (hlk : meth.locks = false) {pc : Nat} {Ls : Array Slot} {z : Int32} {rest : List Value} (hret : meth.sig.returnType = some .int)
    (hd : decode c.code pc = .ok (.ireturn, 1)) (hk : cells ≤ k) (hs : slots ≤ n) (hq : Q (some (.int z)) T.heap locs) : own_Go p e below s Q k n (T.setTop (mkF m pc Ls (.int z :: rest))) :=
  own_ret X hx hlk hret rfl (Or.inl ⟨rfl, Or.inl rfl, z, rfl⟩) hd hk hs hq
theorem own_retZ {Q : Option Value → Heap → List Loc → Prop} {k n : Nat} (X : Stand p l e R s m args below meth c T locs cells slots) (hx : p.tables.exec = Jvm.exec) (hlk : meth.locks = false) {pc : Nat} {Ls : Array Slot} {z : Int32} {rest : List Value} (hret : meth.sig.returnType = some .boolean)
    (hd : decode c.code pc = .ok (.ireturn, 1)) (hz : z = 0 ∨ z = 1) (hk : cells ≤ k) (hs : slots ≤ n) (hq : Q (some (.int z)) T.heap locs) : own_Go p e below s Q k n (T.setTop (mkF m pc Ls (.int z :: rest))) :=
  own_ret X hx hlk hret (by rcases hz with rfl | rfl <;> rfl) (Or.inl ⟨rfl, Or.inr (Or.inl rfl), z, rfl⟩) hd hk hs hq
theorem own_retJ {Q : Option Value → Heap → List Loc → Prop} {k n : Nat} (X : Stand p l e R s m args below meth c T locs cells slots) (hx : p.tables.exec = Jvm.exec) (hlk : meth.locks = false) {pc : Nat} {Ls : Array Slot} {z : Int64} {rest : List Value} (hret : meth.sig.returnType = some .long)
    (hd : decode c.code pc = .ok (.lreturn, 1)) (hk : cells ≤ k) (hs : slots ≤ n) (hq : Q (some (.long z)) T.heap locs) : own_Go p e below s Q k n (T.setTop (mkF m pc Ls (.long z :: rest))) :=
  own_ret X hx hlk hret rfl (Or.inr (Or.inl ⟨rfl, rfl, z, rfl⟩)) hd hk hs hq
theorem own_retR {Q : Option Value → Heap → List Loc → Prop} {k n : Nat} (X : Stand p l e R s m args below meth c T locs cells slots) (hx : p.tables.exec = Jvm.exec) (hlk : meth.locks = false) {pc : Nat} {Ls : Array Slot} {w : Value} {t : FieldType} {rest : List Value} (hret : meth.sig.returnType = some t) (ht : t.isReference = true) (hw : w.isRef = true) (hnr : narrow t w = w)
    (hd : decode c.code pc = .ok (.areturn, 1)) (hk : cells ≤ k) (hs : slots ≤ n) (hq : Q (some w) T.heap locs) : own_Go p e below s Q k n (T.setTop (mkF m pc Ls (w :: rest))) :=
  own_ret X hx hlk hret hnr (Or.inr (Or.inr (Or.inr (Or.inr ⟨rfl, ht, hw⟩)))) hd hk hs hq
theorem own_retV {Q : Option Value → Heap → List Loc → Prop} {k n : Nat} (X : Stand p l e R s m args below meth c T locs cells slots) (hx : p.tables.exec = Jvm.exec) (hlk : meth.locks = false) {pc : Nat} {Ls : Array Slot} (hret : meth.sig.returnType = none)
    (hd : decode c.code pc = .ok (.return_, 1)) (hk : cells ≤ k) (hs : slots ≤ n) (hq : Q none T.heap locs) : own_Go p e below s Q k n (T.setTop (mkF m pc Ls [])) := by
  obtain ⟨fs, hr, hrun, hended, hW, hsame⟩ := X.leave (v := none) (fun _ => rfl) hlk
  exact ⟨_, _, X.returnOut hx hret hd hr, hrun, hended, _, _, rfl, hq, ⟨_, rfl⟩, hW, hsame.mono hk hs⟩
/-- a body's contract: handed as', at a heap h0, it ends as Q says -/
abbrev own_Met (l : Launch) (Z : State) (y : MethodName) (bytes : ByteArray) (maxL : Nat) (ret : Option FieldType) (rm : Room) (ws : List Jvm.Cond) (as' : Array Value) (h0 : Heap) (Q : Option Value → Heap → List Loc → Prop) : Prop :=
  MetFree l y (head1 (Jvm.Cond.code y bytes maxL ret :: ws) rm) (fun a U => a = as' ∧ Z.Warmed39 U.vm ∧ U.heap = h0) (fun _ _ _ _ _ => True) (fun _ U o U' => ∃ v L, o = .returned v ∧ Q v U'.heap L ∧ FrameEnd U o U' L rm.cells rm.slots)
theorem own_enter {y : MethodName} {bytes : ByteArray} {maxL : Nat} {ret : Option FieldType} {rm : Room} {ws : List Jvm.Cond} {as' : Array Value} {h0 : Heap} {Q : Option Value → Heap → List Loc → Prop} (hpl : plainFor y = true)
    (body : ∀ (p : Program) (e : Env) (s : State) (m : MethodId) (below : List Frame) (meth : Method) (c : Code) (s₁ : State), p.tables.exec = Jvm.exec → c.code = bytes → c.maxLocals = maxL → s.vm.findClass y.cls = some m.cls → meth.name = y.name → meth.locks = false → meth.sig.returnType = ret → Z.Warmed39 s.vm →
      Stand p l e rm s m as' below meth c s₁ [] 0 0 → s₁.heap = h0 → own_Go p e below s Q rm.cells rm.slots (s₁.setTop (entryFrame m as' maxL))) : own_Met l Z y bytes maxL ret rm ws as' h0 Q := by
  refine MetFree.of_bodySF hpl hisR ?_
  intro p e s m args below meth c s₁ Bd hml0 hP hK
  obtain ⟨rfl, hZ, hh⟩ := hP
  exact body p e s m below meth c s₁ Bd.exec Bd.bytes hml0 (findClass_of_methodNamed Bd.named) (name_of_methodNamed Bd.named Bd.method).1 Bd.notSynchronized Bd.returns hZ (Stand.of_body Bd) (by rw [← hh, Bd.state]; rfl)
/-- a static call by the callee's contract -/
theorem own_static {Q Q' : Option Value → Heap → List Loc → Prop} {k n : Nat} (X : Stand p l e R s m args below meth c T locs cells slots) (hx : p.tables.exec = Jvm.exec) (hZ : Z.Warmed39 s.vm) {own : String} {index : Nat} {y : MethodName} {bytes : ByteArray} {maxL : Nat} {ret : Option FieldType} {rm : Room}
    (hown : s.vm.findClass own = some m.cls) (w1 : (Cond.methodLink own index y).before a0 Z = true) (w2 : (Cond.static y).before a0 Z = true) (w3 : (Cond.initialized y.cls).before a0 Z = true) (w4 : (Cond.code y bytes maxL ret).before a0 Z = true)
    (hy : y.cls ≠ "java/lang/invoke/MethodHandle" ∧ y.cls ≠ "java/lang/invoke/VarHandle") (eT : T.heap = h) {argsL rest : List Value} (hM : own_Met l Z y bytes maxL ret rm [] argsL.toArray h Q) (W : Nat) (hf : rm.frames + 1 ≤ R.frames) (hl : W + (maxL + 11) + rm.locals ≤ R.locals) (hc : cells + rm.cells ≤ R.cells) (hsl : slots + rm.slots ≤ R.slots)
    {pc pc' : Nat} {Ls : Array Slot} {st : List Value} (hsize : Ls.size = c.maxLocals) {ps : List FieldType} {rt : Option FieldType} (hdesc : parseMethodDescriptor y.desc = some ⟨ps, rt⟩) (hlen : argsL.length = ps.length) (hst : st = argsL.reverse ++ rest) (hW : (rest.map fun v => v.category).sum ≤ W) (hd : decode c.code pc = .ok (.invokestatic index, 3)) (hpc : pc + 3 = pc')
    (go : ∀ (v : Option Value) (T' : State) (L : List Loc), Stand p l e R s m args below meth c T' (locs ++ L) (cells + rm.cells) (slots + rm.slots) → Q v T'.heap L → own_Go p e below s Q' k n (T'.setTop (mkF m pc' Ls (v.toList ++ rest)))) : own_Go p e below s Q' k n (T.setTop (mkF m pc Ls st)) := by
  subst hpc
  obtain ⟨v, _, ⟨T', L', k', n'⟩, -, X', ⟨L, hQ, hl', hk', hn'⟩, stp⟩ := Jvm.LawKit.callS X hx hown (mvT hZ w1) (mvT hZ w2) (mvT hZ w3) (mvT hZ w4) hy (backOf (W := W) hM hZ w4 w3 hf hl) (g := mkF m pc Ls st) rfl hsize (argsL := argsL) (rest := rest) (lenOf hdesc hlen) hst (by show 2 * 0 + _ ≤ _; omega) hd (fun _ _ => ⟨rfl, eT, hc, hsl⟩)
  dsimp only [Pt.U, Pt.locs, Pt.cells, Pt.slots] at X' hl' hk' hn' stp hQ
  subst hl' hk' hn'
  exact own_go stp (go v T' L X' hQ)
/-- a constructor by its contract -/
theorem own_init {Q Q' : Option Value → Heap → List Loc → Prop} {k n : Nat} (X : Stand p l e R s m args below meth c T locs cells slots) (hx : p.tables.exec = Jvm.exec) (hZ : Z.Warmed39 s.vm) {own : String} {index : Nat} {y : MethodName} {bytes : ByteArray} {maxL : Nat} {rm : Room} (hyi : y.name = "<init>")
    (hown : s.vm.findClass own = some m.cls) (w1 : (Cond.methodLink own index y).before a0 Z = true) (w2 : (Cond.instanceMethod y).before a0 Z = true) (w3 : (Cond.initialized y.cls).before a0 Z = true) (w4 : (Cond.code y bytes maxL none).before a0 Z = true)
    (hy : y.cls ≠ "java/lang/invoke/MethodHandle" ∧ y.cls ≠ "java/lang/invoke/VarHandle") (eT : T.heap = h) {a : Addr} {argsL rest : List Value} (hM : own_Met l Z y bytes maxL none rm [] (.ref a :: argsL).toArray h Q) (W : Nat) (hf : rm.frames + 1 ≤ R.frames) (hl : W + (maxL + 11) + rm.locals ≤ R.locals) (hc : cells + rm.cells ≤ R.cells) (hsl : slots + rm.slots ≤ R.slots)
    {pc pc' : Nat} {Ls : Array Slot} {st : List Value} (hsize : Ls.size = c.maxLocals) {ps : List FieldType} {rt : Option FieldType} (hdesc : parseMethodDescriptor y.desc = some ⟨ps, rt⟩) (hlen : argsL.length = ps.length) (hst : st = argsL.reverse ++ .ref a :: rest) (hW : (rest.map fun v => v.category).sum ≤ W) (hd : decode c.code pc = .ok (.invokespecial index, 3)) (hpc : pc + 3 = pc')
    (go : ∀ (v : Option Value) (T' : State) (L : List Loc), Stand p l e R s m args below meth c T' (locs ++ L) (cells + rm.cells) (slots + rm.slots) → Q v T'.heap L → own_Go p e below s Q' k n (T'.setTop (mkF m pc' Ls (v.toList ++ rest)))) : own_Go p e below s Q' k n (T.setTop (mkF m pc Ls st)) := by
  subst hpc
  obtain ⟨v, _, ⟨T', L', k', n'⟩, -, X', ⟨L, hQ, hl', hk', hn'⟩, stp⟩ := X.specialBack hx hyi hown (mvT hZ w1) (mvT hZ w2) (mvT hZ w4) hy (backOf (W := W) hM hZ w4 w3 hf hl) (g := mkF m pc Ls st) rfl hsize (Steps.refl _) (a := a) (argsL := argsL) (rest := rest) (lenOf hdesc hlen) hst (by show 2 * 0 + _ ≤ _; omega) hd (fun _ _ => ⟨rfl, eT, hc, hsl⟩)
  dsimp only [Pt.U, Pt.locs, Pt.cells, Pt.slots] at X' hl' hk' hn' stp hQ
  subst hl' hk' hn'
  exact own_go (fun _ q => stp.trans q) (go v T' L X' hQ)
/-- an instance method by its contract: the receiver is exactly of the class C, which selects z -/
theorem own_virtual {Q Q' : Option Value → Heap → List Loc → Prop} {k n : Nat} (X : Stand p l e R s m args below meth c T locs cells slots) (hx : p.tables.exec = Jvm.exec) (hZ : Z.Warmed39 s.vm) {own C : String} {index : Nat} {y : MethodName} {bytes : ByteArray} {maxL : Nat} {ret : Option FieldType} {rm : Room}
    (hown : s.vm.findClass own = some m.cls) (w1 : (Cond.methodLink own index y).before a0 Z = true) (w2 : (Cond.declares y).before a0 Z = true) (w3 : (Cond.selects C y y).before a0 Z = true) (w5 : (Cond.instanceMethod y).before a0 Z = true) (w6 : (Cond.initialized y.cls).before a0 Z = true) (w4 : (Cond.code y bytes maxL ret).before a0 Z = true)
    (hy : y.cls ≠ "java/lang/invoke/MethodHandle" ∧ y.cls ≠ "java/lang/invoke/VarHandle") (eT : T.heap = h) {a : Addr} (E : Exa Z h a C) {argsL rest : List Value} (hM : own_Met l Z y bytes maxL ret rm [] (.ref a :: argsL).toArray h Q) (W : Nat) (hf : rm.frames + 1 ≤ R.frames) (hl : W + (maxL + 11) + rm.locals ≤ R.locals) (hc : cells + rm.cells ≤ R.cells) (hsl : slots + rm.slots ≤ R.slots)
    {pc pc' : Nat} {Ls : Array Slot} {st : List Value} (hsize : Ls.size = c.maxLocals) {ps : List FieldType} {rt : Option FieldType} (hdesc : parseMethodDescriptor y.desc = some ⟨ps, rt⟩) (hlen : argsL.length = ps.length) (hst : st = argsL.reverse ++ .ref a :: rest) (hW : (rest.map fun v => v.category).sum ≤ W) (hd : decode c.code pc = .ok (.invokevirtual index, 3)) (hpc : pc + 3 = pc')
    (go : ∀ (v : Option Value) (T' : State) (L : List Loc), Stand p l e R s m args below meth c T' (locs ++ L) (cells + rm.cells) (slots + rm.slots) → Q v T'.heap L → own_Go p e below s Q' k n (T'.setTop (mkF m pc' Ls (v.toList ++ rest)))) : own_Go p e below s Q' k n (T.setTop (mkF m pc Ls st)) := by
  subst hpc
  obtain ⟨cq, kq, qa, qb, qc⟩ := isOf hZ eT E
  obtain ⟨v, _, ⟨T', L', k', n'⟩, -, X', ⟨L, hQ, hl', hk', hn'⟩, stp⟩ := X.virtualBack hx (z := y) hown (mvT hZ w1) (mvT hZ w2) (notFace_of_selects (args := #[]) (mvT hZ w3)) (mvT hZ w3) (mvT hZ w5) hy (backOf (W := W) hM hZ w4 w6 hf hl) qa qc (g := mkF m pc Ls st) rfl hsize (Steps.refl _) (argsL := argsL) (rest := rest) (lenOf hdesc hlen) hst (by show 2 * 0 + _ ≤ _; omega) hd (fun _ _ => ⟨rfl, eT, hc, hsl⟩)
  dsimp only [Pt.U, Pt.locs, Pt.cells, Pt.slots] at X' hl' hk' hn' stp hQ
  subst hl' hk' hn'
  exact own_go (fun _ q => stp.trans q) (go v T' L X' hQ)
/-- an array of n places that hold F 0, F 1 .. -/
def own_Ar (Z : State) (h : Heap) (a : Addr) (ty : FieldType) (n : Nat) (F : Nat → Value) : Prop := n < 2 ^ 31 ∧ ∃ c : Cell, Arr Z h a c ty ∧ c.slots.size = n ∧ ∀ j, j < n → c.slots[j]? = some (F j)
section ArFacts
variable {a b : Addr} {ty : FieldType} {F G : Nat → Value} {nn : Nat} {sl : Nat} {v : Value} {ws : List Addr}
theorem own_Ar.lt (A : own_Ar Z h a ty nn F) : a < h.size := by obtain ⟨-, c, A, -⟩ := A; exact A.lt
theorem own_Ar.ext (A : own_Ar Z h a ty nn F) (E : Ext h h') : own_Ar Z h' a ty nn F := by obtain ⟨q, c, A, r⟩ := A; exact ⟨q, c, A.ext E, r⟩
theorem own_Ar.other (A : own_Ar Z h a ty nn F) (W : Wr h h' b sl v) (q : a ≠ b) : own_Ar Z h' a ty nn F := by obtain ⟨q0, c, A, r⟩ := A; exact ⟨q0, c, A.other W q, r⟩
theorem own_Ar.keep (A : own_Ar Z h a ty nn F) (K : Keep h h' ws) (q : a ∉ ws) : own_Ar Z h' a ty nn F := by obtain ⟨q0, c, A, r⟩ := A; exact ⟨q0, c, ⟨K.2.1 a c A.1 q, A.2⟩, r⟩
theorem own_Ar.eqv (A : own_Ar Z h a ty nn F) (q : ∀ j, j < nn → F j = G j) : own_Ar Z h a ty nn G := by obtain ⟨q0, c, A, r, r2⟩ := A; exact ⟨q0, c, A, r, fun j hj => by rw [r2 j hj, q j hj]⟩
theorem own_Ar.set (A : own_Ar Z h a ty nn F) (W : Wr h h' a sl v) : own_Ar Z h' a ty nn (fun j => if j = sl then v else F j) := by
  obtain ⟨q0, c, A, r, r2⟩ := A
  refine ⟨q0, _, A.same W, by rw [sz_set]; exact r, fun j hj => ?_⟩
  by_cases q : j = sl
  · subst q
    simp [Cell.setSlot, r, hj]
  · have q' : sl ≠ j := fun x => q x.symm
    simp only [if_neg q]
    rw [← r2 j hj]
    simp [Cell.setSlot, Array.getElem?_setIfInBounds, q']
theorem own_Ar.new {k : ClassId} {z : Int32} (A : Arr Z h a (newA k ty z) ty) (q : ¬ z < 0) (hz : z.toNatClampNeg = nn) : own_Ar Z h a ty nn (fun _ => defaultValue ty) := by
  subst hz
  refine ⟨(back32 q).2, _, A, sz_new _ _ _, fun j hj => ?_⟩
  simp [newA, hj]
end ArFacts
theorem own_inb {c : Cell} {n i : Nat} {z : Int32} (hs : c.slots.size = n) (hz : z.toInt = (i : Int)) (hi : i < n) : ¬ (z < 0 ∨ c.slots.size ≤ z.toNatClampNeg) ∧ z.toNatClampNeg = i := by
  have h1 : z.toNatClampNeg = i := by rw [Int32.toNatClampNeg, hz]; rfl
  refine ⟨?_, h1⟩
  rintro (q | q)
  · rw [Int32.lt_iff_toInt_lt, hz] at q
    have : (0 : Int32).toInt = 0 := rfl
    omega
  · rw [h1, hs] at q
    omega
theorem own_lt {x y : Int32} (q : x.toInt < y.toInt) : x < y := Int32.lt_iff_toInt_lt.mpr q
theorem own_nlt {x y : Int32} (q : y.toInt ≤ x.toInt) : ¬ x < y := fun r => by rw [Int32.lt_iff_toInt_lt] at r; omega
theorem own_ltI {x y : Int32} (q : x < y) : x.toInt < y.toInt := Int32.lt_iff_toInt_lt.mp q
theorem own_nltI {x y : Int32} (q : ¬ x < y) : y.toInt ≤ x.toInt := by rw [Int32.lt_iff_toInt_lt] at q; omega
theorem own_eq {x y : Int32} (q : x.toInt = y.toInt) : x = y := Int32.toInt_inj.mp q
theorem own_ne {x y : Int32} (q : x.toInt ≠ y.toInt) : ¬ x = y := fun r => q (by rw [r])
theorem own_neI {x y : Int32} (q : ¬ x = y) : x.toInt ≠ y.toInt := fun r => q (own_eq r)
/-- the read of an int out of an array -/
theorem own_iaload {Q : Option Value → Heap → List Loc → Prop} {k n : Nat} (X : Stand p l e R s m args below meth c T locs cells slots) (hx : p.tables.exec = Jvm.exec) (hZ : Z.Warmed39 s.vm) (eT : T.heap = h) {a : Addr} {nn i : Nat} {F : Nat → Value} {x z : Int32} (A : own_Ar Z h a .int nn F) (hz : z.toInt = (i : Int)) (hi : i < nn) (hF : F i = .int x)
    {pc pc' : Nat} {Ls : Array Slot} {rest : List Value} (hd : decode c.code pc = .ok (.iaload, 1)) (hpc : pc + 1 = pc') (go : own_Go p e below s Q k n (T.setTop (mkF m pc' Ls (.int x :: rest)))) : own_Go p e below s Q k n (T.setTop (mkF m pc Ls (.int z :: .ref a :: rest))) := by
  subst hpc
  obtain ⟨-, c, A, r, r2⟩ := A
  obtain ⟨q1, q2⟩ := own_inb r hz hi
  exact own_go (X.iaload hx (j := z) (v := .int x) (by rw [eT]; exact A.1) (State.isArrayOf_alike hZ.alike A.2.1) A.2.2 q1 (by rw [q2, r2 i hi, hF]) (g := mkF m pc Ls (.int z :: .ref a :: rest)) rfl rfl hd) go
theorem own_laload {Q : Option Value → Heap → List Loc → Prop} {k n : Nat} (X : Stand p l e R s m args below meth c T locs cells slots) (hx : p.tables.exec = Jvm.exec) (hZ : Z.Warmed39 s.vm) (eT : T.heap = h) {a : Addr} {nn i : Nat} {F : Nat → Value} {x : Int64} {z : Int32} (A : own_Ar Z h a .long nn F) (hz : z.toInt = (i : Int)) (hi : i < nn) (hF : F i = .long x)
    {pc pc' : Nat} {Ls : Array Slot} {rest : List Value} (hd : decode c.code pc = .ok (.laload, 1)) (hpc : pc + 1 = pc') (go : own_Go p e below s Q k n (T.setTop (mkF m pc' Ls (.long x :: rest)))) : own_Go p e below s Q k n (T.setTop (mkF m pc Ls (.int z :: .ref a :: rest))) := by
  subst hpc
  obtain ⟨-, c, A, r, r2⟩ := A
  obtain ⟨q1, q2⟩ := own_inb r hz hi
  exact own_go (X.laload hx (j := z) (v := .long x) (by rw [eT]; exact A.1) (State.isArrayOf_alike hZ.alike A.2.1) A.2.2 q1 (by rw [q2, r2 i hi, hF]) (g := mkF m pc Ls (.int z :: .ref a :: rest)) rfl rfl hd) go
theorem own_iastore {Q : Option Value → Heap → List Loc → Prop} {k n : Nat} (X : Stand p l e R s m args below meth c T locs cells slots) (hx : p.tables.exec = Jvm.exec) (hZ : Z.Warmed39 s.vm) (eT : T.heap = h) {a : Addr} {nn i : Nat} {F : Nat → Value} {x z : Int32} (A : own_Ar Z h a .int nn F) (hz : z.toInt = (i : Int)) (hi : i < nn)
    {pc pc' : Nat} {Ls : Array Slot} {rest : List Value} (hd : decode c.code pc = .ok (.iastore, 1)) (hpc : pc + 1 = pc') (go : ∀ T' h', Stand p l e R s m args below meth c T' (locs ++ [⟨a, i⟩]) cells slots → T'.heap = h' → Wr h h' a i (.int x) → own_Ar Z h' a .int nn (fun j => if j = i then .int x else F j) → own_Go p e below s Q k n (T'.setTop (mkF m pc' Ls rest))) : own_Go p e below s Q k n (T.setTop (mkF m pc Ls (.int x :: .int z :: .ref a :: rest))) := by
  subst hpc
  have A' := A
  obtain ⟨-, c, A, r, r2⟩ := A
  obtain ⟨q1, q2⟩ := own_inb r hz hi
  obtain ⟨T', h', X', e', W', st⟩ := stI X hx hZ eT A (j := z) (x := x) q1 (g := mkF m pc Ls (.int x :: .int z :: .ref a :: rest)) rfl rfl hd
  rw [q2] at X' W'
  exact own_go st (go T' h' X' e' W' (A'.set W'))
theorem own_lastore {Q : Option Value → Heap → List Loc → Prop} {k n : Nat} (X : Stand p l e R s m args below meth c T locs cells slots) (hx : p.tables.exec = Jvm.exec) (hZ : Z.Warmed39 s.vm) (eT : T.heap = h) {a : Addr} {nn i : Nat} {F : Nat → Value} {x : Int64} {z : Int32} (A : own_Ar Z h a .long nn F) (hz : z.toInt = (i : Int)) (hi : i < nn)
    {pc pc' : Nat} {Ls : Array Slot} {rest : List Value} (hd : decode c.code pc = .ok (.lastore, 1)) (hpc : pc + 1 = pc') (go : ∀ T' h', Stand p l e R s m args below meth c T' (locs ++ [⟨a, i⟩]) cells slots → T'.heap = h' → Wr h h' a i (.long x) → own_Ar Z h' a .long nn (fun j => if j = i then .long x else F j) → own_Go p e below s Q k n (T'.setTop (mkF m pc' Ls rest))) : own_Go p e below s Q k n (T.setTop (mkF m pc Ls (.long x :: .int z :: .ref a :: rest))) := by
  subst hpc
  have A' := A
  obtain ⟨-, c, A, r, r2⟩ := A
  obtain ⟨q1, q2⟩ := own_inb r hz hi
  obtain ⟨T', h', X', e', W', st⟩ := stJ X hx hZ eT A (j := z) (x := x) q1 (g := mkF m pc Ls (.long x :: .int z :: .ref a :: rest)) rfl rfl hd
  rw [q2] at X' W'
  exact own_go st (go T' h' X' e' W' (A'.set W'))
theorem own_length {Q : Option Value → Heap → List Loc → Prop} {k n : Nat} (X : Stand p l e R s m args below meth c T locs cells slots) (hx : p.tables.exec = Jvm.exec) (hZ : Z.Warmed39 s.vm) (eT : T.heap = h) {a : Addr} {nn : Nat} {ty : FieldType} {F : Nat → Value} {z : Int32} (A : own_Ar Z h a ty nn F) (hz : z.toInt = (nn : Int))
    {pc pc' : Nat} {Ls : Array Slot} {rest : List Value} (hd : decode c.code pc = .ok (.arraylength, 1)) (hpc : pc + 1 = pc') (go : own_Go p e below s Q k n (T.setTop (mkF m pc' Ls (.int z :: rest)))) : own_Go p e below s Q k n (T.setTop (mkF m pc Ls (.ref a :: rest))) := by
  subst hpc
  obtain ⟨q, c, A, r, r2⟩ := A
  have hz' : c.slots.size.toInt32 = z := own_eq (by rw [r, hz]; exact len_toInt q)
  subst hz'
  exact own_go (X.arraylength hx (by rw [eT]; exact A.1) (State.isArrayOf_alike hZ.alike A.2.1) (g := mkF m pc Ls (.ref a :: rest)) rfl rfl hd) go
end OwnKit
theorem pd_0 : parseMethodDescriptor "(JJ)J" = some ⟨[.long, .long], some .long⟩ := by decide +kernel
theorem pd_1 : parseMethodDescriptor "()V" = some ⟨[], none⟩ := by decide +kernel
theorem pd_2 : parseMethodDescriptor "(I)[J" = some ⟨[.int], some (.array .long)⟩ := by decide +kernel
theorem pd_3 : parseMethodDescriptor "([J[J)V" = some ⟨[(.array .long), (.array .long)], none⟩ := by decide +kernel
theorem pd_4 : parseMethodDescriptor "()I" = some ⟨[], some .int⟩ := by decide +kernel
theorem pd_5 : parseMethodDescriptor "(JJZ)J" = some ⟨[.long, .long, .boolean], some .long⟩ := by decide +kernel

theorem own_inc {z : Int32} {i : Nat} (h : z.toInt = (i : Int)) (hi : i < 1000000) : (z + (1 : Int32)).toInt = ((i + 1 : Nat) : Int) := by
  have h1 := c_iadd z 1
  have h2 := rng32 (z + 1)
  have e1 : (1 : Int32).toInt = 1 := rfl
  rw [h, e1] at h1
  omega
def own_min (x y : Int64) : Int64 := if y < x then y else x
def own_max (x y : Int64) : Int64 := if x < y then y else x
def own_low (x y : Int64) (b : Int32) : Int64 := if b = 0 then x else if own_min x y = own_max x y then (if own_max x y = 9223372036854775807 then own_min x y - 1 else own_min x y) else own_min x y
def own_high (x y : Int64) (b : Int32) : Int64 := if b = 0 then x else if own_min x y = own_max x y then (if own_max x y = 9223372036854775807 then own_max x y else own_max x y + 1) else own_max x y
def own_R (lo hi : Nat → Int64) (n : Nat) (r : Int32) : Prop := (∃ i, i < n ∧ r.toInt = (i : Int) ∧ lo i < hi i ∧ ∀ j, j < i → ¬ lo j < hi j) ∨ (r = -1 ∧ ∀ j, j < n → ¬ lo j < hi j)
theorem own_open (x y : Int64) (b : Int32) : own_low x y b < own_high x y b ↔ b ≠ 0 := by
  unfold own_low own_high
  by_cases hb : b = 0
  · simp [hb, Int64.lt_irrefl]
  · rw [if_neg hb, if_neg hb]
    refine ⟨fun _ => hb, fun _ => ?_⟩
    have hm : (own_min x y).toInt ≤ (own_max x y).toInt := by
      unfold own_min own_max
      by_cases h1 : y < x
      · rw [if_pos h1, if_neg (fun q => by rw [Int64.lt_iff_toInt_lt] at h1 q; omega)]
        rw [Int64.lt_iff_toInt_lt] at h1; omega
      · rw [if_neg h1]
        by_cases h2 : x < y
        · rw [if_pos h2]; rw [Int64.lt_iff_toInt_lt] at h2; omega
        · rw [if_neg h2]; omega
    by_cases he : own_min x y = own_max x y
    · rw [if_pos he, if_pos he]
      by_cases hM : own_max x y = 9223372036854775807
      · rw [if_pos hM, if_pos hM, he, hM]; decide
      · rw [if_neg hM, if_neg hM, he]
        have h1 := c_ladd (own_max x y) 1
        have h2 := rng64 (own_max x y)
        have h3 := rng64 (own_max x y + 1)
        have h4 : (own_max x y).toInt ≠ 9223372036854775807 := fun q => hM (Int64.toInt_inj.mp (by rw [q]; rfl))
        have e1 : (1 : Int64).toInt = 1 := rfl
        rw [Int64.lt_iff_toInt_lt]; omega
    · rw [if_neg he, if_neg he]
      have : (own_min x y).toInt ≠ (own_max x y).toInt := fun q => he (Int64.toInt_inj.mp q)
      rw [Int64.lt_iff_toInt_lt]; omega
def own_lo (q0 q1 q2 q3 q4 : Int64) (b0 b1 b2 : Int32) (j : Nat) : Int64 := if j = 0 then own_low q0 q3 b0 else if j = 1 then own_low q1 q4 b1 else own_low q2 q3 b2
def own_hi (q0 q1 q2 q3 q4 : Int64) (b0 b1 b2 : Int32) (j : Nat) : Int64 := if j = 0 then own_high q0 q3 b0 else if j = 1 then own_high q1 q4 b1 else own_high q2 q3 b2
def own_exp (k : Nat) (b0 b1 b2 : Int32) : Int32 := if 0 < k ∧ b0 ≠ 0 then 0 else if 1 < k ∧ b1 ≠ 0 then 1 else if 2 < k ∧ b2 ≠ 0 then 2 else -1
theorem own_final {q0 q1 q2 q3 q4 : Int64} {b0 b1 b2 r : Int32} {k : Nat} (hb0 : b0 = 0 ∨ b0 = 1) (hb1 : b1 = 0 ∨ b1 = 1) (hb2 : b2 = 0 ∨ b2 = 1) (hk : k ≤ 3) (h : own_R (own_lo q0 q1 q2 q3 q4 b0 b1 b2) (own_hi q0 q1 q2 q3 q4 b0 b1 b2) k r) : r = own_exp k b0 b1 b2 := by
  have g0 : own_lo q0 q1 q2 q3 q4 b0 b1 b2 0 < own_hi q0 q1 q2 q3 q4 b0 b1 b2 0 ↔ b0 ≠ 0 := own_open _ _ _
  have g1 : own_lo q0 q1 q2 q3 q4 b0 b1 b2 1 < own_hi q0 q1 q2 q3 q4 b0 b1 b2 1 ↔ b1 ≠ 0 := own_open _ _ _
  have g2 : own_lo q0 q1 q2 q3 q4 b0 b1 b2 2 < own_hi q0 q1 q2 q3 q4 b0 b1 b2 2 ↔ b2 ≠ 0 := own_open _ _ _
  generalize own_lo q0 q1 q2 q3 q4 b0 b1 b2 = lo at *
  generalize own_hi q0 q1 q2 q3 q4 b0 b1 b2 = hi at *
  unfold own_exp
  rcases h with ⟨i, hi', hr, hl, hno⟩ | ⟨rfl, hno⟩
  · have : i = 0 ∨ i = 1 ∨ i = 2 := by omega
    rcases this with rfl | rfl | rfl
    · rw [if_pos ⟨by omega, g0.mp hl⟩]; exact own_eq hr
    · rw [if_neg (fun q => hno 0 (by decide) (g0.mpr q.2)), if_pos ⟨by omega, g1.mp hl⟩]; exact own_eq hr
    · rw [if_neg (fun q => hno 0 (by decide) (g0.mpr q.2)), if_neg (fun q => hno 1 (by decide) (g1.mpr q.2)), if_pos ⟨by omega, g2.mp hl⟩]; exact own_eq hr
  · rw [if_neg (fun q => hno 0 q.1 (g0.mpr q.2)), if_neg (fun q => hno 1 q.1 (g1.mpr q.2)), if_neg (fun q => hno 2 q.1 (g2.mpr q.2))]
theorem own_four (x : Int32) : (((x.toUInt32 >>> ((3 : Int32) &&& 31).toUInt32).toInt32) &&& (3 : Int32)) = 0 ∨ (((x.toUInt32 >>> ((3 : Int32) &&& 31).toUInt32).toInt32) &&& (3 : Int32)) = 1 ∨ (((x.toUInt32 >>> ((3 : Int32) &&& 31).toUInt32).toInt32) &&& (3 : Int32)) = 2 ∨ (((x.toUInt32 >>> ((3 : Int32) &&& 31).toUInt32).toInt32) &&& (3 : Int32)) = 3 := by
  have h := c_and ((x.toUInt32 >>> ((3 : Int32) &&& 31).toUInt32).toInt32) 3 (by decide)
  have e3 : (3 : Int32).toInt = 3 := rfl
  generalize (((x.toUInt32 >>> ((3 : Int32) &&& 31).toUInt32).toInt32) &&& (3 : Int32)) = y at *
  have : y.toInt = 0 ∨ y.toInt = 1 ∨ y.toInt = 2 ∨ y.toInt = 3 := by omega
  rcases this with q | q | q | q
  · exact Or.inl (own_eq q)
  · exact Or.inr (Or.inl (own_eq q))
  · exact Or.inr (Or.inr (Or.inl (own_eq q)))
  · exact Or.inr (Or.inr (Or.inr (own_eq q)))
theorem d8_0 : decode jdk_29_method_70_code 0 = .ok (.lload_n 0, 1) := by decide +kernel
theorem d8_1 : decode jdk_29_method_70_code 1 = .ok (.lload_n 2, 1) := by decide +kernel
theorem d8_2 : decode jdk_29_method_70_code 2 = .ok (.lcmp, 1) := by decide +kernel
theorem d8_3 : decode jdk_29_method_70_code 3 = .ok (.ifCond .gt 7, 3) := by decide +kernel
theorem d8_6 : decode jdk_29_method_70_code 6 = .ok (.lload_n 0, 1) := by decide +kernel
theorem d8_7 : decode jdk_29_method_70_code 7 = .ok (.goto 4, 3) := by decide +kernel
theorem d8_10 : decode jdk_29_method_70_code 10 = .ok (.lload_n 2, 1) := by decide +kernel
theorem d8_11 : decode jdk_29_method_70_code 11 = .ok (.lreturn, 1) := by decide +kernel
def Q8 (Z : State) (x : Int64) (y : Int64) (h0 : Heap) (n0 : Nat) (v : Option Value) (h : Heap) (L : List Loc) : Prop := v = some (.long (own_min x y)) ∧ Fr n0 L ∧ h = h0
theorem ef_8 (m : MethodId) (x0 : Int64) (x1 : Int64) : entryFrame m #[(.long x0), (.long x1)] 4 = mkF m 0 #[.val (.long x0), .second, .val (.long x1), .second] [] := by first | (simp [entryFrame, mkF, argsToLocals, Value.category]; done) | rfl
set_option maxRecDepth 65536 in
set_option maxHeartbeats 40000000 in
theorem rm8 (l : Launch) (Z : State) (a0 : Array Value) (hw : ∀ d ∈ tables_1, d.before a0 Z = true) (ws : List Jvm.Cond) (x : Int64) (y : Int64) (h0 : Heap) (n0 : Nat) (Z0 : n0 ≤ h0.size)  :
    own_Met l Z (⟨"java/lang/Math", "min", "(JJ)J"⟩ : MethodName) jdk_29_method_70_code 4 (some .long) ({ frames := 0, cells := 0, slots := 0, locals := 0 } : Room) ws #[(.long x), (.long y)] h0 (Q8 Z x y h0 n0) := by
  refine own_enter (Jvm.Free.JP.mathPlain rfl (by decide +kernel)) ?_
  intro p e s m below meth c s₁ hx hby hml hown hnm hlk hret hZ X0 e0
  have N0 := Fr.nil n0
  refine own_go (fun _ q => castTop (ef_8 m x y) q) ?_
  show own_Go _ _ _ _ _ _ _ (s₁.setTop (mkF m 0 #[.val (.long x), .second, .val (.long y), .second] []))
  refine own_go (fun _ q => XS.lloadN X0.here hx rfl (hb hby d8_0) rfl q) ?_
  show own_Go _ _ _ _ _ _ _ (s₁.setTop (mkF m 1 #[.val (.long x), .second, .val (.long y), .second] [(.long x)]))
  refine own_go (fun _ q => XS.lloadN X0.here hx rfl (hb hby d8_1) rfl q) ?_
  show own_Go _ _ _ _ _ _ _ (s₁.setTop (mkF m 2 #[.val (.long x), .second, .val (.long y), .second] [(.long y), (.long x)]))
  refine own_go (fun _ q => XS.lcmp X0.here hx rfl (hb hby d8_2) rfl q) ?_
  show own_Go _ _ _ _ _ _ _ (s₁.setTop (mkF m 3 #[.val (.long x), .second, .val (.long y), .second] [(.int (lcmpW x y))]))
  by_cases hc3_1 : y < x
  · refine own_go (fun _ q => XS.ifYes X0.here hx rfl (pc0 := 3) (pc' := 10) rfl (hb hby d8_3) rfl ((if0 _ _).trans (tlt ((lw_gt _ _).mpr hc3_1)).2.2.1) (by decide) (by decide) q) ?_
    show own_Go _ _ _ _ _ _ _ (s₁.setTop (mkF m 10 #[.val (.long x), .second, .val (.long y), .second] []))
    refine own_go (fun _ q => XS.lloadN X0.here hx rfl (hb hby d8_10) rfl q) ?_
    show own_Go _ _ _ _ _ _ _ (s₁.setTop (mkF m 11 #[.val (.long x), .second, .val (.long y), .second] [(.long y)]))
    exact own_retJ X0 hx hlk hret (hb hby d8_11) (by decide) (by decide) ⟨by simp [own_min, *], N0, e0⟩
  · refine own_go (fun _ q => XS.ifNo X0.here hx rfl (hb hby d8_3) rfl ((if0 _ _).trans (flt (fun q => hc3_1 ((lw_gt _ _).mp q))).2.2.1) q) ?_
    show own_Go _ _ _ _ _ _ _ (s₁.setTop (mkF m 6 #[.val (.long x), .second, .val (.long y), .second] []))
    refine own_go (fun _ q => XS.lloadN X0.here hx rfl (hb hby d8_6) rfl q) ?_
    show own_Go _ _ _ _ _ _ _ (s₁.setTop (mkF m 7 #[.val (.long x), .second, .val (.long y), .second] [(.long x)]))
    refine own_go (fun _ q => XS.goto X0.here hx rfl (pc0 := 7) (pc' := 11) rfl (hb hby d8_7) (by decide) (by decide) q) ?_
    show own_Go _ _ _ _ _ _ _ (s₁.setTop (mkF m 11 #[.val (.long x), .second, .val (.long y), .second] [(.long x)]))
    exact own_retJ X0 hx hlk hret (hb hby d8_11) (by decide) (by decide) ⟨by simp [own_min, *], N0, e0⟩
theorem d9_0 : decode jdk_29_method_66_code 0 = .ok (.lload_n 0, 1) := by decide +kernel
theorem d9_1 : decode jdk_29_method_66_code 1 = .ok (.lload_n 2, 1) := by decide +kernel
theorem d9_2 : decode jdk_29_method_66_code 2 = .ok (.lcmp, 1) := by decide +kernel
theorem d9_3 : decode jdk_29_method_66_code 3 = .ok (.ifCond .lt 7, 3) := by decide +kernel
theorem d9_6 : decode jdk_29_method_66_code 6 = .ok (.lload_n 0, 1) := by decide +kernel
theorem d9_7 : decode jdk_29_method_66_code 7 = .ok (.goto 4, 3) := by decide +kernel
theorem d9_10 : decode jdk_29_method_66_code 10 = .ok (.lload_n 2, 1) := by decide +kernel
theorem d9_11 : decode jdk_29_method_66_code 11 = .ok (.lreturn, 1) := by decide +kernel
def Q9 (Z : State) (x : Int64) (y : Int64) (h0 : Heap) (n0 : Nat) (v : Option Value) (h : Heap) (L : List Loc) : Prop := v = some (.long (own_max x y)) ∧ Fr n0 L ∧ h = h0
theorem ef_9 (m : MethodId) (x0 : Int64) (x1 : Int64) : entryFrame m #[(.long x0), (.long x1)] 4 = mkF m 0 #[.val (.long x0), .second, .val (.long x1), .second] [] := by first | (simp [entryFrame, mkF, argsToLocals, Value.category]; done) | rfl
set_option maxRecDepth 65536 in
set_option maxHeartbeats 40000000 in
theorem rm9 (l : Launch) (Z : State) (a0 : Array Value) (hw : ∀ d ∈ tables_1, d.before a0 Z = true) (ws : List Jvm.Cond) (x : Int64) (y : Int64) (h0 : Heap) (n0 : Nat) (Z0 : n0 ≤ h0.size)  :
    own_Met l Z (⟨"java/lang/Math", "max", "(JJ)J"⟩ : MethodName) jdk_29_method_66_code 4 (some .long) ({ frames := 0, cells := 0, slots := 0, locals := 0 } : Room) ws #[(.long x), (.long y)] h0 (Q9 Z x y h0 n0) := by
  refine own_enter (Jvm.Free.JP.mathPlain rfl (by decide +kernel)) ?_
  intro p e s m below meth c s₁ hx hby hml hown hnm hlk hret hZ X0 e0
  have N0 := Fr.nil n0
  refine own_go (fun _ q => castTop (ef_9 m x y) q) ?_
  show own_Go _ _ _ _ _ _ _ (s₁.setTop (mkF m 0 #[.val (.long x), .second, .val (.long y), .second] []))
  refine own_go (fun _ q => XS.lloadN X0.here hx rfl (hb hby d9_0) rfl q) ?_
  show own_Go _ _ _ _ _ _ _ (s₁.setTop (mkF m 1 #[.val (.long x), .second, .val (.long y), .second] [(.long x)]))
  refine own_go (fun _ q => XS.lloadN X0.here hx rfl (hb hby d9_1) rfl q) ?_
  show own_Go _ _ _ _ _ _ _ (s₁.setTop (mkF m 2 #[.val (.long x), .second, .val (.long y), .second] [(.long y), (.long x)]))
  refine own_go (fun _ q => XS.lcmp X0.here hx rfl (hb hby d9_2) rfl q) ?_
  show own_Go _ _ _ _ _ _ _ (s₁.setTop (mkF m 3 #[.val (.long x), .second, .val (.long y), .second] [(.int (lcmpW x y))]))
  by_cases hc3_1 : x < y
  · refine own_go (fun _ q => XS.ifYes X0.here hx rfl (pc0 := 3) (pc' := 10) rfl (hb hby d9_3) rfl ((if0 _ _).trans (tlt ((lw_lt _ _).mpr hc3_1)).1) (by decide) (by decide) q) ?_
    show own_Go _ _ _ _ _ _ _ (s₁.setTop (mkF m 10 #[.val (.long x), .second, .val (.long y), .second] []))
    refine own_go (fun _ q => XS.lloadN X0.here hx rfl (hb hby d9_10) rfl q) ?_
    show own_Go _ _ _ _ _ _ _ (s₁.setTop (mkF m 11 #[.val (.long x), .second, .val (.long y), .second] [(.long y)]))
    exact own_retJ X0 hx hlk hret (hb hby d9_11) (by decide) (by decide) ⟨by simp [own_max, *], N0, e0⟩
  · refine own_go (fun _ q => XS.ifNo X0.here hx rfl (hb hby d9_3) rfl ((if0 _ _).trans (flt (fun q => hc3_1 ((lw_lt _ _).mp q))).1) q) ?_
    show own_Go _ _ _ _ _ _ _ (s₁.setTop (mkF m 6 #[.val (.long x), .second, .val (.long y), .second] []))
    refine own_go (fun _ q => XS.lloadN X0.here hx rfl (hb hby d9_6) rfl q) ?_
    show own_Go _ _ _ _ _ _ _ (s₁.setTop (mkF m 7 #[.val (.long x), .second, .val (.long y), .second] [(.long x)]))
    refine own_go (fun _ q => XS.goto X0.here hx rfl (pc0 := 7) (pc' := 11) rfl (hb hby d9_7) (by decide) (by decide) q) ?_
    show own_Go _ _ _ _ _ _ _ (s₁.setTop (mkF m 11 #[.val (.long x), .second, .val (.long y), .second] [(.long x)]))
    exact own_retJ X0 hx hlk hret (hb hby d9_11) (by decide) (by decide) ⟨by simp [own_max, *], N0, e0⟩
theorem d6_0 : decode method_4_code 0 = .ok (.iload 4, 2) := by decide +kernel
theorem d6_2 : decode method_4_code 2 = .ok (.ifCond .ne 5, 3) := by decide +kernel
theorem d6_5 : decode method_4_code 5 = .ok (.lload_n 0, 1) := by decide +kernel
theorem d6_6 : decode method_4_code 6 = .ok (.lreturn, 1) := by decide +kernel
theorem d6_7 : decode method_4_code 7 = .ok (.lload_n 0, 1) := by decide +kernel
theorem d6_8 : decode method_4_code 8 = .ok (.lload_n 2, 1) := by decide +kernel
theorem d6_9 : decode method_4_code 9 = .ok (.invokestatic 29, 3) := by decide +kernel
theorem d6_12 : decode method_4_code 12 = .ok (.lstore 5, 2) := by decide +kernel
theorem d6_14 : decode method_4_code 14 = .ok (.lload_n 0, 1) := by decide +kernel
theorem d6_15 : decode method_4_code 15 = .ok (.lload_n 2, 1) := by decide +kernel
theorem d6_16 : decode method_4_code 16 = .ok (.invokestatic 35, 3) := by decide +kernel
theorem d6_19 : decode method_4_code 19 = .ok (.lstore 7, 2) := by decide +kernel
theorem d6_21 : decode method_4_code 21 = .ok (.lload 5, 2) := by decide +kernel
theorem d6_23 : decode method_4_code 23 = .ok (.lload 7, 2) := by decide +kernel
theorem d6_25 : decode method_4_code 25 = .ok (.lcmp, 1) := by decide +kernel
theorem d6_26 : decode method_4_code 26 = .ok (.ifCond .ne 17, 3) := by decide +kernel
theorem d6_29 : decode method_4_code 29 = .ok (.lload 7, 2) := by decide +kernel
theorem d6_31 : decode method_4_code 31 = .ok (.ldc2_w 40, 3) := by decide +kernel
theorem d6_34 : decode method_4_code 34 = .ok (.lcmp, 1) := by decide +kernel
theorem d6_35 : decode method_4_code 35 = .ok (.ifCond .ne 8, 3) := by decide +kernel
theorem d6_38 : decode method_4_code 38 = .ok (.lload 5, 2) := by decide +kernel
theorem d6_40 : decode method_4_code 40 = .ok (.lconst 1, 1) := by decide +kernel
theorem d6_41 : decode method_4_code 41 = .ok (.lsub, 1) := by decide +kernel
theorem d6_42 : decode method_4_code 42 = .ok (.lreturn, 1) := by decide +kernel
theorem d6_43 : decode method_4_code 43 = .ok (.lload 5, 2) := by decide +kernel
theorem d6_45 : decode method_4_code 45 = .ok (.lreturn, 1) := by decide +kernel
def Q6 (Z : State) (x : Int64) (y : Int64) (b : Int32) (h0 : Heap) (n0 : Nat) (v : Option Value) (h : Heap) (L : List Loc) : Prop := v = some (.long (own_low x y b)) ∧ Fr n0 L ∧ h = h0
theorem ef_6 (m : MethodId) (x0 : Int64) (x1 : Int64) (x2 : Int32) : entryFrame m #[(.long x0), (.long x1), (.int x2)] 9 = mkF m 0 #[.val (.long x0), .second, .val (.long x1), .second, .val (.int x2), .unset, .unset, .unset, .unset] [] := by first | (simp [entryFrame, mkF, argsToLocals, Value.category]; done) | rfl
set_option maxRecDepth 65536 in
set_option maxHeartbeats 40000000 in
theorem rm6 (l : Launch) (Z : State) (a0 : Array Value) (hw : ∀ d ∈ tables_1, d.before a0 Z = true) (ws : List Jvm.Cond) (x : Int64) (y : Int64) (b : Int32) (h0 : Heap) (n0 : Nat) (Z0 : n0 ≤ h0.size)  :
    own_Met l Z (⟨"com/example/slotwright/slotwright/SplitBoxFirstOpenPinLaw", "low", "(JJZ)J"⟩ : MethodName) method_4_code 9 (some .long) ({ frames := 1, cells := 0, slots := 0, locals := 15 } : Room) ws #[(.long x), (.long y), (.int b)] h0 (Q6 Z x y b h0 n0) := by
  refine own_enter (plainFor_of_name (by first | (simp [plainName, overriddenIn]; done) | decide +kernel)) ?_
  intro p e s m below meth c s₁ hx hby hml hown hnm hlk hret hZ X0 e0
  have N0 := Fr.nil n0
  refine own_go (fun _ q => castTop (ef_6 m x y b) q) ?_
  show own_Go _ _ _ _ _ _ _ (s₁.setTop (mkF m 0 #[.val (.long x), .second, .val (.long y), .second, .val (.int b), .unset, .unset, .unset, .unset] []))
  refine own_go (fun _ q => XS.iload X0.here hx rfl (hb hby d6_0) rfl q) ?_
  show own_Go _ _ _ _ _ _ _ (s₁.setTop (mkF m 2 #[.val (.long x), .second, .val (.long y), .second, .val (.int b), .unset, .unset, .unset, .unset] [(.int b)]))
  by_cases hb0 : b = (0 : Int32)
  · refine own_go (fun _ q => XS.ifNo X0.here hx rfl (hb hby d6_2) rfl ((if0 _ _).trans (teq hb0).2) q) ?_
    show own_Go _ _ _ _ _ _ _ (s₁.setTop (mkF m 5 #[.val (.long x), .second, .val (.long y), .second, .val (.int b), .unset, .unset, .unset, .unset] []))
    refine own_go (fun _ q => XS.lloadN X0.here hx rfl (hb hby d6_5) rfl q) ?_
    show own_Go _ _ _ _ _ _ _ (s₁.setTop (mkF m 6 #[.val (.long x), .second, .val (.long y), .second, .val (.int b), .unset, .unset, .unset, .unset] [(.long x)]))
    exact own_retJ X0 hx hlk hret (hb hby d6_6) (by decide) (by decide) ⟨by simp [own_low, *], N0, e0⟩
  · refine own_go (fun _ q => XS.ifYes X0.here hx rfl (pc0 := 2) (pc' := 7) rfl (hb hby d6_2) rfl ((if0 _ _).trans (feq hb0).2) (by decide) (by decide) q) ?_
    show own_Go _ _ _ _ _ _ _ (s₁.setTop (mkF m 7 #[.val (.long x), .second, .val (.long y), .second, .val (.int b), .unset, .unset, .unset, .unset] []))
    refine own_go (fun _ q => XS.lloadN X0.here hx rfl (hb hby d6_7) rfl q) ?_
    show own_Go _ _ _ _ _ _ _ (s₁.setTop (mkF m 8 #[.val (.long x), .second, .val (.long y), .second, .val (.int b), .unset, .unset, .unset, .unset] [(.long x)]))
    refine own_go (fun _ q => XS.lloadN X0.here hx rfl (hb hby d6_8) rfl q) ?_
    show own_Go _ _ _ _ _ _ _ (s₁.setTop (mkF m 9 #[.val (.long x), .second, .val (.long y), .second, .val (.int b), .unset, .unset, .unset, .unset] [(.long y), (.long x)]))
    refine own_static X0 hx hZ hown (hw _ (List.mem_of_getElem? (i := 34) rfl)) (hw _ (List.mem_of_getElem? (i := 35) rfl)) (hw _ (List.mem_of_getElem? (i := 36) rfl)) (hw _ (List.mem_of_getElem? (i := 37) rfl)) (by decide) e0 (argsL := [(.long x), (.long y)]) (rest := []) (rm8 l Z a0 hw [] x y h0 n0 Z0) 0 (by decide) (by decide) (by decide) (by decide) (by rw [hml]; rfl) pd_0 rfl rfl (Nat.le_of_eq rfl) (hb hby d6_9) rfl ?_
    intro v1 T1 L1 X1 hQ1
    obtain ⟨rfl, N1q, e1q⟩ := hQ1
    have N1 := Fr.app N0 N1q
    show own_Go _ _ _ _ _ _ _ (T1.setTop (mkF m 12 #[.val (.long x), .second, .val (.long y), .second, .val (.int b), .unset, .unset, .unset, .unset] [(.long (own_min x y))]))
    refine own_go (fun _ q => XS.lstore X1.here hx rfl (hb hby d6_12) rfl (l' := #[.val (.long x), .second, .val (.long y), .second, .val (.int b), .val (.long (own_min x y)), .second, .unset, .unset]) rfl q) ?_
    show own_Go _ _ _ _ _ _ _ (T1.setTop (mkF m 14 #[.val (.long x), .second, .val (.long y), .second, .val (.int b), .val (.long (own_min x y)), .second, .unset, .unset] []))
    refine own_go (fun _ q => XS.lloadN X1.here hx rfl (hb hby d6_14) rfl q) ?_
    show own_Go _ _ _ _ _ _ _ (T1.setTop (mkF m 15 #[.val (.long x), .second, .val (.long y), .second, .val (.int b), .val (.long (own_min x y)), .second, .unset, .unset] [(.long x)]))
    refine own_go (fun _ q => XS.lloadN X1.here hx rfl (hb hby d6_15) rfl q) ?_
    show own_Go _ _ _ _ _ _ _ (T1.setTop (mkF m 16 #[.val (.long x), .second, .val (.long y), .second, .val (.int b), .val (.long (own_min x y)), .second, .unset, .unset] [(.long y), (.long x)]))
    refine own_static X1 hx hZ hown (hw _ (List.mem_of_getElem? (i := 38) rfl)) (hw _ (List.mem_of_getElem? (i := 39) rfl)) (hw _ (List.mem_of_getElem? (i := 36) rfl)) (hw _ (List.mem_of_getElem? (i := 40) rfl)) (by decide) e1q (argsL := [(.long x), (.long y)]) (rest := []) (rm9 l Z a0 hw [] x y h0 n0 Z0) 0 (by decide) (by decide) (by decide) (by decide) (by rw [hml]; rfl) pd_0 rfl rfl (Nat.le_of_eq rfl) (hb hby d6_16) rfl ?_
    intro v2 T2 L2 X2 hQ2
    obtain ⟨rfl, N2q, e2q⟩ := hQ2
    have N2 := Fr.app N1 N2q
    show own_Go _ _ _ _ _ _ _ (T2.setTop (mkF m 19 #[.val (.long x), .second, .val (.long y), .second, .val (.int b), .val (.long (own_min x y)), .second, .unset, .unset] [(.long (own_max x y))]))
    refine own_go (fun _ q => XS.lstore X2.here hx rfl (hb hby d6_19) rfl (l' := #[.val (.long x), .second, .val (.long y), .second, .val (.int b), .val (.long (own_min x y)), .second, .val (.long (own_max x y)), .second]) rfl q) ?_
    show own_Go _ _ _ _ _ _ _ (T2.setTop (mkF m 21 #[.val (.long x), .second, .val (.long y), .second, .val (.int b), .val (.long (own_min x y)), .second, .val (.long (own_max x y)), .second] []))
    refine own_go (fun _ q => XS.lload X2.here hx rfl (hb hby d6_21) rfl q) ?_
    show own_Go _ _ _ _ _ _ _ (T2.setTop (mkF m 23 #[.val (.long x), .second, .val (.long y), .second, .val (.int b), .val (.long (own_min x y)), .second, .val (.long (own_max x y)), .second] [(.long (own_min x y))]))
    refine own_go (fun _ q => XS.lload X2.here hx rfl (hb hby d6_23) rfl q) ?_
    show own_Go _ _ _ _ _ _ _ (T2.setTop (mkF m 25 #[.val (.long x), .second, .val (.long y), .second, .val (.int b), .val (.long (own_min x y)), .second, .val (.long (own_max x y)), .second] [(.long (own_max x y)), (.long (own_min x y))]))
    refine own_go (fun _ q => XS.lcmp X2.here hx rfl (hb hby d6_25) rfl q) ?_
    show own_Go _ _ _ _ _ _ _ (T2.setTop (mkF m 26 #[.val (.long x), .second, .val (.long y), .second, .val (.int b), .val (.long (own_min x y)), .second, .val (.long (own_max x y)), .second] [(.int (lcmpW (own_min x y) (own_max x y)))]))
    by_cases hc26_3 : (own_min x y) = (own_max x y)
    · refine own_go (fun _ q => XS.ifNo X2.here hx rfl (hb hby d6_26) rfl ((if0 _ _).trans (teq ((lw_eq _ _).mpr hc26_3)).2) q) ?_
      show own_Go _ _ _ _ _ _ _ (T2.setTop (mkF m 29 #[.val (.long x), .second, .val (.long y), .second, .val (.int b), .val (.long (own_min x y)), .second, .val (.long (own_max x y)), .second] []))
      refine own_go (fun _ q => XS.lload X2.here hx rfl (hb hby d6_29) rfl q) ?_
      show own_Go _ _ _ _ _ _ _ (T2.setTop (mkF m 31 #[.val (.long x), .second, .val (.long y), .second, .val (.int b), .val (.long (own_min x y)), .second, .val (.long (own_max x y)), .second] [(.long (own_max x y))]))
      refine own_go (X2.ldc2Long hx hown (mvT hZ (hw _ (List.mem_of_getElem? (i := 41) rfl))) (g := (mkF m 31 #[.val (.long x), .second, .val (.long y), .second, .val (.int b), .val (.long (own_min x y)), .second, .val (.long (own_max x y)), .second] [(.long (own_max x y))])) rfl (hb hby d6_31)) ?_
      show own_Go _ _ _ _ _ _ _ (T2.setTop (mkF m 34 #[.val (.long x), .second, .val (.long y), .second, .val (.int b), .val (.long (own_min x y)), .second, .val (.long (own_max x y)), .second] [(.long (9223372036854775807 : Int64)), (.long (own_max x y))]))
      refine own_go (fun _ q => XS.lcmp X2.here hx rfl (hb hby d6_34) rfl q) ?_
      show own_Go _ _ _ _ _ _ _ (T2.setTop (mkF m 35 #[.val (.long x), .second, .val (.long y), .second, .val (.int b), .val (.long (own_min x y)), .second, .val (.long (own_max x y)), .second] [(.int (lcmpW (own_max x y) (9223372036854775807 : Int64)))]))
      by_cases hc35_4 : (own_max x y) = (9223372036854775807 : Int64)
      · refine own_go (fun _ q => XS.ifNo X2.here hx rfl (hb hby d6_35) rfl ((if0 _ _).trans (teq ((lw_eq _ _).mpr hc35_4)).2) q) ?_
        show own_Go _ _ _ _ _ _ _ (T2.setTop (mkF m 38 #[.val (.long x), .second, .val (.long y), .second, .val (.int b), .val (.long (own_min x y)), .second, .val (.long (own_max x y)), .second] []))
        refine own_go (fun _ q => XS.lload X2.here hx rfl (hb hby d6_38) rfl q) ?_
        show own_Go _ _ _ _ _ _ _ (T2.setTop (mkF m 40 #[.val (.long x), .second, .val (.long y), .second, .val (.int b), .val (.long (own_min x y)), .second, .val (.long (own_max x y)), .second] [(.long (own_min x y))]))
        refine own_go (fun _ q => XS.lconst X2.here hx rfl (hb hby d6_40) q) ?_
        show own_Go _ _ _ _ _ _ _ (T2.setTop (mkF m 41 #[.val (.long x), .second, .val (.long y), .second, .val (.int b), .val (.long (own_min x y)), .second, .val (.long (own_max x y)), .second] [(.long (1 : Int64)), (.long (own_min x y))]))
        refine own_go (fun _ q => XS.lsub X2.here hx rfl (hb hby d6_41) rfl q) ?_
        show own_Go _ _ _ _ _ _ _ (T2.setTop (mkF m 42 #[.val (.long x), .second, .val (.long y), .second, .val (.int b), .val (.long (own_min x y)), .second, .val (.long (own_max x y)), .second] [(.long ((own_min x y) - (1 : Int64)))]))
        exact own_retJ X2 hx hlk hret (hb hby d6_42) (by decide) (by decide) ⟨by simp [own_low, *], N2, e2q⟩
      · refine own_go (fun _ q => XS.ifYes X2.here hx rfl (pc0 := 35) (pc' := 43) rfl (hb hby d6_35) rfl ((if0 _ _).trans (feq (fun q => hc35_4 ((lw_eq _ _).mp q))).2) (by decide) (by decide) q) ?_
        show own_Go _ _ _ _ _ _ _ (T2.setTop (mkF m 43 #[.val (.long x), .second, .val (.long y), .second, .val (.int b), .val (.long (own_min x y)), .second, .val (.long (own_max x y)), .second] []))
        refine own_go (fun _ q => XS.lload X2.here hx rfl (hb hby d6_43) rfl q) ?_
        show own_Go _ _ _ _ _ _ _ (T2.setTop (mkF m 45 #[.val (.long x), .second, .val (.long y), .second, .val (.int b), .val (.long (own_min x y)), .second, .val (.long (own_max x y)), .second] [(.long (own_min x y))]))
        exact own_retJ X2 hx hlk hret (hb hby d6_45) (by decide) (by decide) ⟨by simp [own_low, *], N2, e2q⟩
    · refine own_go (fun _ q => XS.ifYes X2.here hx rfl (pc0 := 26) (pc' := 43) rfl (hb hby d6_26) rfl ((if0 _ _).trans (feq (fun q => hc26_3 ((lw_eq _ _).mp q))).2) (by decide) (by decide) q) ?_
      show own_Go _ _ _ _ _ _ _ (T2.setTop (mkF m 43 #[.val (.long x), .second, .val (.long y), .second, .val (.int b), .val (.long (own_min x y)), .second, .val (.long (own_max x y)), .second] []))
      refine own_go (fun _ q => XS.lload X2.here hx rfl (hb hby d6_43) rfl q) ?_
      show own_Go _ _ _ _ _ _ _ (T2.setTop (mkF m 45 #[.val (.long x), .second, .val (.long y), .second, .val (.int b), .val (.long (own_min x y)), .second, .val (.long (own_max x y)), .second] [(.long (own_min x y))]))
      exact own_retJ X2 hx hlk hret (hb hby d6_45) (by decide) (by decide) ⟨by simp [own_low, *], N2, e2q⟩
theorem d7_0 : decode method_5_code 0 = .ok (.iload 4, 2) := by decide +kernel
theorem d7_2 : decode method_5_code 2 = .ok (.ifCond .ne 5, 3) := by decide +kernel
theorem d7_5 : decode method_5_code 5 = .ok (.lload_n 0, 1) := by decide +kernel
theorem d7_6 : decode method_5_code 6 = .ok (.lreturn, 1) := by decide +kernel
theorem d7_7 : decode method_5_code 7 = .ok (.lload_n 0, 1) := by decide +kernel
theorem d7_8 : decode method_5_code 8 = .ok (.lload_n 2, 1) := by decide +kernel
theorem d7_9 : decode method_5_code 9 = .ok (.invokestatic 29, 3) := by decide +kernel
theorem d7_12 : decode method_5_code 12 = .ok (.lstore 5, 2) := by decide +kernel
theorem d7_14 : decode method_5_code 14 = .ok (.lload_n 0, 1) := by decide +kernel
theorem d7_15 : decode method_5_code 15 = .ok (.lload_n 2, 1) := by decide +kernel
theorem d7_16 : decode method_5_code 16 = .ok (.invokestatic 35, 3) := by decide +kernel
theorem d7_19 : decode method_5_code 19 = .ok (.lstore 7, 2) := by decide +kernel
theorem d7_21 : decode method_5_code 21 = .ok (.lload 5, 2) := by decide +kernel
theorem d7_23 : decode method_5_code 23 = .ok (.lload 7, 2) := by decide +kernel
theorem d7_25 : decode method_5_code 25 = .ok (.lcmp, 1) := by decide +kernel
theorem d7_26 : decode method_5_code 26 = .ok (.ifCond .ne 17, 3) := by decide +kernel
theorem d7_29 : decode method_5_code 29 = .ok (.lload 7, 2) := by decide +kernel
theorem d7_31 : decode method_5_code 31 = .ok (.ldc2_w 40, 3) := by decide +kernel
theorem d7_34 : decode method_5_code 34 = .ok (.lcmp, 1) := by decide +kernel
theorem d7_35 : decode method_5_code 35 = .ok (.ifCond .eq 8, 3) := by decide +kernel
theorem d7_38 : decode method_5_code 38 = .ok (.lload 7, 2) := by decide +kernel
theorem d7_40 : decode method_5_code 40 = .ok (.lconst 1, 1) := by decide +kernel
theorem d7_41 : decode method_5_code 41 = .ok (.ladd, 1) := by decide +kernel
theorem d7_42 : decode method_5_code 42 = .ok (.lreturn, 1) := by decide +kernel
theorem d7_43 : decode method_5_code 43 = .ok (.lload 7, 2) := by decide +kernel
theorem d7_45 : decode method_5_code 45 = .ok (.lreturn, 1) := by decide +kernel
def Q7 (Z : State) (x : Int64) (y : Int64) (b : Int32) (h0 : Heap) (n0 : Nat) (v : Option Value) (h : Heap) (L : List Loc) : Prop := v = some (.long (own_high x y b)) ∧ Fr n0 L ∧ h = h0
theorem ef_7 (m : MethodId) (x0 : Int64) (x1 : Int64) (x2 : Int32) : entryFrame m #[(.long x0), (.long x1), (.int x2)] 9 = mkF m 0 #[.val (.long x0), .second, .val (.long x1), .second, .val (.int x2), .unset, .unset, .unset, .unset] [] := by first | (simp [entryFrame, mkF, argsToLocals, Value.category]; done) | rfl
set_option maxRecDepth 65536 in
set_option maxHeartbeats 40000000 in
theorem rm7 (l : Launch) (Z : State) (a0 : Array Value) (hw : ∀ d ∈ tables_1, d.before a0 Z = true) (ws : List Jvm.Cond) (x : Int64) (y : Int64) (b : Int32) (h0 : Heap) (n0 : Nat) (Z0 : n0 ≤ h0.size)  :
    own_Met l Z (⟨"com/example/slotwright/slotwright/SplitBoxFirstOpenPinLaw", "high", "(JJZ)J"⟩ : MethodName) method_5_code 9 (some .long) ({ frames := 1, cells := 0, slots := 0, locals := 15 } : Room) ws #[(.long x), (.long y), (.int b)] h0 (Q7 Z x y b h0 n0) := by
  refine own_enter (plainFor_of_name (by first | (simp [plainName, overriddenIn]; done) | decide +kernel)) ?_
  intro p e s m below meth c s₁ hx hby hml hown hnm hlk hret hZ X0 e0
  have N0 := Fr.nil n0
  refine own_go (fun _ q => castTop (ef_7 m x y b) q) ?_
  show own_Go _ _ _ _ _ _ _ (s₁.setTop (mkF m 0 #[.val (.long x), .second, .val (.long y), .second, .val (.int b), .unset, .unset, .unset, .unset] []))
  refine own_go (fun _ q => XS.iload X0.here hx rfl (hb hby d7_0) rfl q) ?_
  show own_Go _ _ _ _ _ _ _ (s₁.setTop (mkF m 2 #[.val (.long x), .second, .val (.long y), .second, .val (.int b), .unset, .unset, .unset, .unset] [(.int b)]))
  by_cases hb0 : b = (0 : Int32)
  · refine own_go (fun _ q => XS.ifNo X0.here hx rfl (hb hby d7_2) rfl ((if0 _ _).trans (teq hb0).2) q) ?_
    show own_Go _ _ _ _ _ _ _ (s₁.setTop (mkF m 5 #[.val (.long x), .second, .val (.long y), .second, .val (.int b), .unset, .unset, .unset, .unset] []))
    refine own_go (fun _ q => XS.lloadN X0.here hx rfl (hb hby d7_5) rfl q) ?_
    show own_Go _ _ _ _ _ _ _ (s₁.setTop (mkF m 6 #[.val (.long x), .second, .val (.long y), .second, .val (.int b), .unset, .unset, .unset, .unset] [(.long x)]))
    exact own_retJ X0 hx hlk hret (hb hby d7_6) (by decide) (by decide) ⟨by simp [own_high, *], N0, e0⟩
  · refine own_go (fun _ q => XS.ifYes X0.here hx rfl (pc0 := 2) (pc' := 7) rfl (hb hby d7_2) rfl ((if0 _ _).trans (feq hb0).2) (by decide) (by decide) q) ?_
    show own_Go _ _ _ _ _ _ _ (s₁.setTop (mkF m 7 #[.val (.long x), .second, .val (.long y), .second, .val (.int b), .unset, .unset, .unset, .unset] []))
    refine own_go (fun _ q => XS.lloadN X0.here hx rfl (hb hby d7_7) rfl q) ?_
    show own_Go _ _ _ _ _ _ _ (s₁.setTop (mkF m 8 #[.val (.long x), .second, .val (.long y), .second, .val (.int b), .unset, .unset, .unset, .unset] [(.long x)]))
    refine own_go (fun _ q => XS.lloadN X0.here hx rfl (hb hby d7_8) rfl q) ?_
    show own_Go _ _ _ _ _ _ _ (s₁.setTop (mkF m 9 #[.val (.long x), .second, .val (.long y), .second, .val (.int b), .unset, .unset, .unset, .unset] [(.long y), (.long x)]))
    refine own_static X0 hx hZ hown (hw _ (List.mem_of_getElem? (i := 34) rfl)) (hw _ (List.mem_of_getElem? (i := 35) rfl)) (hw _ (List.mem_of_getElem? (i := 36) rfl)) (hw _ (List.mem_of_getElem? (i := 37) rfl)) (by decide) e0 (argsL := [(.long x), (.long y)]) (rest := []) (rm8 l Z a0 hw [] x y h0 n0 Z0) 0 (by decide) (by decide) (by decide) (by decide) (by rw [hml]; rfl) pd_0 rfl rfl (Nat.le_of_eq rfl) (hb hby d7_9) rfl ?_
    intro v1 T1 L1 X1 hQ1
    obtain ⟨rfl, N1q, e1q⟩ := hQ1
    have N1 := Fr.app N0 N1q
    show own_Go _ _ _ _ _ _ _ (T1.setTop (mkF m 12 #[.val (.long x), .second, .val (.long y), .second, .val (.int b), .unset, .unset, .unset, .unset] [(.long (own_min x y))]))
    refine own_go (fun _ q => XS.lstore X1.here hx rfl (hb hby d7_12) rfl (l' := #[.val (.long x), .second, .val (.long y), .second, .val (.int b), .val (.long (own_min x y)), .second, .unset, .unset]) rfl q) ?_
    show own_Go _ _ _ _ _ _ _ (T1.setTop (mkF m 14 #[.val (.long x), .second, .val (.long y), .second, .val (.int b), .val (.long (own_min x y)), .second, .unset, .unset] []))
    refine own_go (fun _ q => XS.lloadN X1.here hx rfl (hb hby d7_14) rfl q) ?_
    show own_Go _ _ _ _ _ _ _ (T1.setTop (mkF m 15 #[.val (.long x), .second, .val (.long y), .second, .val (.int b), .val (.long (own_min x y)), .second, .unset, .unset] [(.long x)]))
    refine own_go (fun _ q => XS.lloadN X1.here hx rfl (hb hby d7_15) rfl q) ?_
    show own_Go _ _ _ _ _ _ _ (T1.setTop (mkF m 16 #[.val (.long x), .second, .val (.long y), .second, .val (.int b), .val (.long (own_min x y)), .second, .unset, .unset] [(.long y), (.long x)]))
    refine own_static X1 hx hZ hown (hw _ (List.mem_of_getElem? (i := 38) rfl)) (hw _ (List.mem_of_getElem? (i := 39) rfl)) (hw _ (List.mem_of_getElem? (i := 36) rfl)) (hw _ (List.mem_of_getElem? (i := 40) rfl)) (by decide) e1q (argsL := [(.long x), (.long y)]) (rest := []) (rm9 l Z a0 hw [] x y h0 n0 Z0) 0 (by decide) (by decide) (by decide) (by decide) (by rw [hml]; rfl) pd_0 rfl rfl (Nat.le_of_eq rfl) (hb hby d7_16) rfl ?_
    intro v2 T2 L2 X2 hQ2
    obtain ⟨rfl, N2q, e2q⟩ := hQ2
    have N2 := Fr.app N1 N2q
    show own_Go _ _ _ _ _ _ _ (T2.setTop (mkF m 19 #[.val (.long x), .second, .val (.long y), .second, .val (.int b), .val (.long (own_min x y)), .second, .unset, .unset] [(.long (own_max x y))]))
    refine own_go (fun _ q => XS.lstore X2.here hx rfl (hb hby d7_19) rfl (l' := #[.val (.long x), .second, .val (.long y), .second, .val (.int b), .val (.long (own_min x y)), .second, .val (.long (own_max x y)), .second]) rfl q) ?_
    show own_Go _ _ _ _ _ _ _ (T2.setTop (mkF m 21 #[.val (.long x), .second, .val (.long y), .second, .val (.int b), .val (.long (own_min x y)), .second, .val (.long (own_max x y)), .second] []))
    refine own_go (fun _ q => XS.lload X2.here hx rfl (hb hby d7_21) rfl q) ?_
    show own_Go _ _ _ _ _ _ _ (T2.setTop (mkF m 23 #[.val (.long x), .second, .val (.long y), .second, .val (.int b), .val (.long (own_min x y)), .second, .val (.long (own_max x y)), .second] [(.long (own_min x y))]))
    refine own_go (fun _ q => XS.lload X2.here hx rfl (hb hby d7_23) rfl q) ?_
    show own_Go _ _ _ _ _ _ _ (T2.setTop (mkF m 25 #[.val (.long x), .second, .val (.long y), .second, .val (.int b), .val (.long (own_min x y)), .second, .val (.long (own_max x y)), .second] [(.long (own_max x y)), (.long (own_min x y))]))
    refine own_go (fun _ q => XS.lcmp X2.here hx rfl (hb hby d7_25) rfl q) ?_
    show own_Go _ _ _ _ _ _ _ (T2.setTop (mkF m 26 #[.val (.long x), .second, .val (.long y), .second, .val (.int b), .val (.long (own_min x y)), .second, .val (.long (own_max x y)), .second] [(.int (lcmpW (own_min x y) (own_max x y)))]))
    by_cases hc26_3 : (own_min x y) = (own_max x y)
    · refine own_go (fun _ q => XS.ifNo X2.here hx rfl (hb hby d7_26) rfl ((if0 _ _).trans (teq ((lw_eq _ _).mpr hc26_3)).2) q) ?_
      show own_Go _ _ _ _ _ _ _ (T2.setTop (mkF m 29 #[.val (.long x), .second, .val (.long y), .second, .val (.int b), .val (.long (own_min x y)), .second, .val (.long (own_max x y)), .second] []))
      refine own_go (fun _ q => XS.lload X2.here hx rfl (hb hby d7_29) rfl q) ?_
      show own_Go _ _ _ _ _ _ _ (T2.setTop (mkF m 31 #[.val (.long x), .second, .val (.long y), .second, .val (.int b), .val (.long (own_min x y)), .second, .val (.long (own_max x y)), .second] [(.long (own_max x y))]))
      refine own_go (X2.ldc2Long hx hown (mvT hZ (hw _ (List.mem_of_getElem? (i := 41) rfl))) (g := (mkF m 31 #[.val (.long x), .second, .val (.long y), .second, .val (.int b), .val (.long (own_min x y)), .second, .val (.long (own_max x y)), .second] [(.long (own_max x y))])) rfl (hb hby d7_31)) ?_
      show own_Go _ _ _ _ _ _ _ (T2.setTop (mkF m 34 #[.val (.long x), .second, .val (.long y), .second, .val (.int b), .val (.long (own_min x y)), .second, .val (.long (own_max x y)), .second] [(.long (9223372036854775807 : Int64)), (.long (own_max x y))]))
      refine own_go (fun _ q => XS.lcmp X2.here hx rfl (hb hby d7_34) rfl q) ?_
      show own_Go _ _ _ _ _ _ _ (T2.setTop (mkF m 35 #[.val (.long x), .second, .val (.long y), .second, .val (.int b), .val (.long (own_min x y)), .second, .val (.long (own_max x y)), .second] [(.int (lcmpW (own_max x y) (9223372036854775807 : Int64)))]))
      by_cases hc35_4 : (own_max x y) = (9223372036854775807 : Int64)
      · refine own_go (fun _ q => XS.ifYes X2.here hx rfl (pc0 := 35) (pc' := 43) rfl (hb hby d7_35) rfl ((if0 _ _).trans (teq ((lw_eq _ _).mpr hc35_4)).1) (by decide) (by decide) q) ?_
        show own_Go _ _ _ _ _ _ _ (T2.setTop (mkF m 43 #[.val (.long x), .second, .val (.long y), .second, .val (.int b), .val (.long (own_min x y)), .second, .val (.long (own_max x y)), .second] []))
        refine own_go (fun _ q => XS.lload X2.here hx rfl (hb hby d7_43) rfl q) ?_
        show own_Go _ _ _ _ _ _ _ (T2.setTop (mkF m 45 #[.val (.long x), .second, .val (.long y), .second, .val (.int b), .val (.long (own_min x y)), .second, .val (.long (own_max x y)), .second] [(.long (own_max x y))]))
        exact own_retJ X2 hx hlk hret (hb hby d7_45) (by decide) (by decide) ⟨by simp [own_high, *], N2, e2q⟩
      · refine own_go (fun _ q => XS.ifNo X2.here hx rfl (hb hby d7_35) rfl ((if0 _ _).trans (feq (fun q => hc35_4 ((lw_eq _ _).mp q))).1) q) ?_
        show own_Go _ _ _ _ _ _ _ (T2.setTop (mkF m 38 #[.val (.long x), .second, .val (.long y), .second, .val (.int b), .val (.long (own_min x y)), .second, .val (.long (own_max x y)), .second] []))
        refine own_go (fun _ q => XS.lload X2.here hx rfl (hb hby d7_38) rfl q) ?_
        show own_Go _ _ _ _ _ _ _ (T2.setTop (mkF m 40 #[.val (.long x), .second, .val (.long y), .second, .val (.int b), .val (.long (own_min x y)), .second, .val (.long (own_max x y)), .second] [(.long (own_max x y))]))
        refine own_go (fun _ q => XS.lconst X2.here hx rfl (hb hby d7_40) q) ?_
        show own_Go _ _ _ _ _ _ _ (T2.setTop (mkF m 41 #[.val (.long x), .second, .val (.long y), .second, .val (.int b), .val (.long (own_min x y)), .second, .val (.long (own_max x y)), .second] [(.long (1 : Int64)), (.long (own_max x y))]))
        refine own_go (fun _ q => XS.ladd X2.here hx rfl (hb hby d7_41) rfl q) ?_
        show own_Go _ _ _ _ _ _ _ (T2.setTop (mkF m 42 #[.val (.long x), .second, .val (.long y), .second, .val (.int b), .val (.long (own_min x y)), .second, .val (.long (own_max x y)), .second] [(.long ((own_max x y) + (1 : Int64)))]))
        exact own_retJ X2 hx hlk hret (hb hby d7_42) (by decide) (by decide) ⟨by simp [own_high, *], N2, e2q⟩
    · refine own_go (fun _ q => XS.ifYes X2.here hx rfl (pc0 := 26) (pc' := 43) rfl (hb hby d7_26) rfl ((if0 _ _).trans (feq (fun q => hc26_3 ((lw_eq _ _).mp q))).2) (by decide) (by decide) q) ?_
      show own_Go _ _ _ _ _ _ _ (T2.setTop (mkF m 43 #[.val (.long x), .second, .val (.long y), .second, .val (.int b), .val (.long (own_min x y)), .second, .val (.long (own_max x y)), .second] []))
      refine own_go (fun _ q => XS.lload X2.here hx rfl (hb hby d7_43) rfl q) ?_
      show own_Go _ _ _ _ _ _ _ (T2.setTop (mkF m 45 #[.val (.long x), .second, .val (.long y), .second, .val (.int b), .val (.long (own_min x y)), .second, .val (.long (own_max x y)), .second] [(.long (own_max x y))]))
      exact own_retJ X2 hx hlk hret (hb hby d7_45) (by decide) (by decide) ⟨by simp [own_high, *], N2, e2q⟩
theorem d1_0 : decode method_3_code 0 = .ok (.iload_n 0, 1) := by decide +kernel
theorem d1_1 : decode method_3_code 1 = .ok (.ifCond .ne 7, 3) := by decide +kernel
theorem d1_4 : decode method_3_code 4 = .ok (.iconst 0, 1) := by decide +kernel
theorem d1_5 : decode method_3_code 5 = .ok (.newarray .long, 2) := by decide +kernel
theorem d1_7 : decode method_3_code 7 = .ok (.areturn, 1) := by decide +kernel
theorem d1_8 : decode method_3_code 8 = .ok (.iload_n 0, 1) := by decide +kernel
theorem d1_9 : decode method_3_code 9 = .ok (.iconst 1, 1) := by decide +kernel
theorem d1_10 : decode method_3_code 10 = .ok (.if_icmp .ne 7, 3) := by decide +kernel
theorem d1_13 : decode method_3_code 13 = .ok (.iconst 1, 1) := by decide +kernel
theorem d1_14 : decode method_3_code 14 = .ok (.newarray .long, 2) := by decide +kernel
theorem d1_16 : decode method_3_code 16 = .ok (.areturn, 1) := by decide +kernel
theorem d1_17 : decode method_3_code 17 = .ok (.iload_n 0, 1) := by decide +kernel
theorem d1_18 : decode method_3_code 18 = .ok (.iconst 2, 1) := by decide +kernel
theorem d1_19 : decode method_3_code 19 = .ok (.if_icmp .ne 7, 3) := by decide +kernel
theorem d1_22 : decode method_3_code 22 = .ok (.iconst 2, 1) := by decide +kernel
theorem d1_23 : decode method_3_code 23 = .ok (.newarray .long, 2) := by decide +kernel
theorem d1_25 : decode method_3_code 25 = .ok (.areturn, 1) := by decide +kernel
theorem d1_26 : decode method_3_code 26 = .ok (.iconst 3, 1) := by decide +kernel
theorem d1_27 : decode method_3_code 27 = .ok (.newarray .long, 2) := by decide +kernel
theorem d1_29 : decode method_3_code 29 = .ok (.areturn, 1) := by decide +kernel
def Q1 (Z : State) (z : Int32) (k : Nat) (h0 : Heap) (n0 : Nat) (v : Option Value) (h : Heap) (L : List Loc) : Prop := ∃ b : Addr, v = some (.ref b) ∧ Fr n0 L ∧ Ext h0 h ∧ n0 ≤ b ∧ b = h0.size ∧ own_Ar Z h b .long k (fun _ => .long 0)
theorem ef_1 (m : MethodId) (x0 : Int32) : entryFrame m #[(.int x0)] 1 = mkF m 0 #[.val (.int x0)] [] := by first | (simp [entryFrame, mkF, argsToLocals, Value.category]; done) | rfl
set_option maxRecDepth 65536 in
set_option maxHeartbeats 40000000 in
theorem rm1 (l : Launch) (Z : State) (a0 : Array Value) (hw : ∀ d ∈ tables_1, d.before a0 Z = true) (ws : List Jvm.Cond) (z : Int32) (k : Nat) (h0 : Heap) (n0 : Nat) (Z0 : n0 ≤ h0.size) (hz : z.toInt = (k : Int)) (hk : k ≤ 3) :
    own_Met l Z (⟨"com/example/slotwright/slotwright/SplitBoxFirstOpenPinLaw", "sized", "(I)[J"⟩ : MethodName) method_3_code 1 (some (.array .long)) ({ frames := 0, cells := 1, slots := 3, locals := 0 } : Room) ws #[(.int z)] h0 (Q1 Z z k h0 n0) := by
  refine own_enter (plainFor_of_name (by first | (simp [plainName, overriddenIn]; done) | decide +kernel)) ?_
  intro p e s m below meth c s₁ hx hby hml hown hnm hlk hret hZ X0 e0
  have N0 := Fr.nil n0
  refine own_go (fun _ q => castTop (ef_1 m z) q) ?_
  show own_Go _ _ _ _ _ _ _ (s₁.setTop (mkF m 0 #[.val (.int z)] []))
  refine own_go (fun _ q => XS.iloadN X0.here hx rfl (hb hby d1_0) rfl q) ?_
  show own_Go _ _ _ _ _ _ _ (s₁.setTop (mkF m 1 #[.val (.int z)] [(.int z)]))
  by_cases hz0 : z = (0 : Int32)
  · refine own_go (fun _ q => XS.ifNo X0.here hx rfl (hb hby d1_1) rfl ((if0 _ _).trans (teq hz0).2) q) ?_
    show own_Go _ _ _ _ _ _ _ (s₁.setTop (mkF m 4 #[.val (.int z)] []))
    refine own_go (fun _ q => XS.iconst X0.here hx rfl (hb hby d1_4) q) ?_
    show own_Go _ _ _ _ _ _ _ (s₁.setTop (mkF m 5 #[.val (.int z)] [(.int (0 : Int32))]))
    obtain ⟨T1, h1, k1, X1, e1, E1, Aw1, st1⟩ := newP X0 hx hZ (hw _ (List.mem_of_getElem? (i := 4) rfl)) e0 (g := (mkF m 5 #[.val (.int z)] [(.int (0 : Int32))])) rfl (hb hby d1_5) rfl (by decide) (cap := 0) (by decide) (by decide) (by decide) (by decide)
    obtain ⟨b1, g1⟩ : ∃ z, z = h0.size := ⟨_, rfl⟩
    rw [← g1] at Aw1 st1
    have A1 := own_Ar.new (nn := 0) Aw1 (by decide) rfl
    have G1 : n0 ≤ b1 := by have := Z0; omega
    have Z1 : n0 ≤ h1.size := Nat.le_trans Z0 E1.1
    refine own_go st1 ?_
    show own_Go _ _ _ _ _ _ _ (T1.setTop (mkF m 7 #[.val (.int z)] [(.ref b1)]))
    obtain rfl : k = 0 := by have := congrArg Int32.toInt hz0; have e : (0 : Int32).toInt = 0 := rfl; omega
    exact own_retR X1 hx hlk hret rfl rfl rfl (hb hby d1_7) (by decide) (by decide) ⟨b1, rfl, N0, by rw [e1]; exact E1, G1, g1, by rw [e1]; exact A1⟩
  · refine own_go (fun _ q => XS.ifYes X0.here hx rfl (pc0 := 1) (pc' := 8) rfl (hb hby d1_1) rfl ((if0 _ _).trans (feq hz0).2) (by decide) (by decide) q) ?_
    show own_Go _ _ _ _ _ _ _ (s₁.setTop (mkF m 8 #[.val (.int z)] []))
    refine own_go (fun _ q => XS.iloadN X0.here hx rfl (hb hby d1_8) rfl q) ?_
    show own_Go _ _ _ _ _ _ _ (s₁.setTop (mkF m 9 #[.val (.int z)] [(.int z)]))
    refine own_go (fun _ q => XS.iconst X0.here hx rfl (hb hby d1_9) q) ?_
    show own_Go _ _ _ _ _ _ _ (s₁.setTop (mkF m 10 #[.val (.int z)] [(.int (1 : Int32)), (.int z)]))
    by_cases hz1 : z = (1 : Int32)
    · refine own_go (fun _ q => XS.icmpNo X0.here hx rfl (hb hby d1_10) rfl (teq hz1).2 q) ?_
      show own_Go _ _ _ _ _ _ _ (s₁.setTop (mkF m 13 #[.val (.int z)] []))
      refine own_go (fun _ q => XS.iconst X0.here hx rfl (hb hby d1_13) q) ?_
      show own_Go _ _ _ _ _ _ _ (s₁.setTop (mkF m 14 #[.val (.int z)] [(.int (1 : Int32))]))
      obtain ⟨T2, h2, k2, X2, e2, E2, Aw2, st2⟩ := newP X0 hx hZ (hw _ (List.mem_of_getElem? (i := 4) rfl)) e0 (g := (mkF m 14 #[.val (.int z)] [(.int (1 : Int32))])) rfl (hb hby d1_14) rfl (by decide) (cap := 1) (by decide) (by decide) (by decide) (by decide)
      obtain ⟨b2, g2⟩ : ∃ z, z = h0.size := ⟨_, rfl⟩
      rw [← g2] at Aw2 st2
      have A2 := own_Ar.new (nn := 1) Aw2 (by decide) rfl
      have G2 : n0 ≤ b2 := by have := Z0; omega
      have Z2 : n0 ≤ h2.size := Nat.le_trans Z0 E2.1
      refine own_go st2 ?_
      show own_Go _ _ _ _ _ _ _ (T2.setTop (mkF m 16 #[.val (.int z)] [(.ref b2)]))
      obtain rfl : k = 1 := by have := congrArg Int32.toInt hz1; have e : (1 : Int32).toInt = 1 := rfl; omega
      exact own_retR X2 hx hlk hret rfl rfl rfl (hb hby d1_16) (by decide) (by decide) ⟨b2, rfl, N0, by rw [e2]; exact E2, G2, g2, by rw [e2]; exact A2⟩
    · refine own_go (fun _ q => XS.icmpYes X0.here hx rfl (pc0 := 10) (pc' := 17) rfl (hb hby d1_10) rfl (feq hz1).2 (by decide) (by decide) q) ?_
      show own_Go _ _ _ _ _ _ _ (s₁.setTop (mkF m 17 #[.val (.int z)] []))
      refine own_go (fun _ q => XS.iloadN X0.here hx rfl (hb hby d1_17) rfl q) ?_
      show own_Go _ _ _ _ _ _ _ (s₁.setTop (mkF m 18 #[.val (.int z)] [(.int z)]))
      refine own_go (fun _ q => XS.iconst X0.here hx rfl (hb hby d1_18) q) ?_
      show own_Go _ _ _ _ _ _ _ (s₁.setTop (mkF m 19 #[.val (.int z)] [(.int (2 : Int32)), (.int z)]))
      by_cases hz2 : z = (2 : Int32)
      · refine own_go (fun _ q => XS.icmpNo X0.here hx rfl (hb hby d1_19) rfl (teq hz2).2 q) ?_
        show own_Go _ _ _ _ _ _ _ (s₁.setTop (mkF m 22 #[.val (.int z)] []))
        refine own_go (fun _ q => XS.iconst X0.here hx rfl (hb hby d1_22) q) ?_
        show own_Go _ _ _ _ _ _ _ (s₁.setTop (mkF m 23 #[.val (.int z)] [(.int (2 : Int32))]))
        obtain ⟨T3, h3, k3, X3, e3, E3, Aw3, st3⟩ := newP X0 hx hZ (hw _ (List.mem_of_getElem? (i := 4) rfl)) e0 (g := (mkF m 23 #[.val (.int z)] [(.int (2 : Int32))])) rfl (hb hby d1_23) rfl (by decide) (cap := 2) (by decide) (by decide) (by decide) (by decide)
        obtain ⟨b3, g3⟩ : ∃ z, z = h0.size := ⟨_, rfl⟩
        rw [← g3] at Aw3 st3
        have A3 := own_Ar.new (nn := 2) Aw3 (by decide) rfl
        have G3 : n0 ≤ b3 := by have := Z0; omega
        have Z3 : n0 ≤ h3.size := Nat.le_trans Z0 E3.1
        refine own_go st3 ?_
        show own_Go _ _ _ _ _ _ _ (T3.setTop (mkF m 25 #[.val (.int z)] [(.ref b3)]))
        obtain rfl : k = 2 := by have := congrArg Int32.toInt hz2; have e : (2 : Int32).toInt = 2 := rfl; omega
        exact own_retR X3 hx hlk hret rfl rfl rfl (hb hby d1_25) (by decide) (by decide) ⟨b3, rfl, N0, by rw [e3]; exact E3, G3, g3, by rw [e3]; exact A3⟩
      · refine own_go (fun _ q => XS.icmpYes X0.here hx rfl (pc0 := 19) (pc' := 26) rfl (hb hby d1_19) rfl (feq hz2).2 (by decide) (by decide) q) ?_
        show own_Go _ _ _ _ _ _ _ (s₁.setTop (mkF m 26 #[.val (.int z)] []))
        refine own_go (fun _ q => XS.iconst X0.here hx rfl (hb hby d1_26) q) ?_
        show own_Go _ _ _ _ _ _ _ (s₁.setTop (mkF m 27 #[.val (.int z)] [(.int (3 : Int32))]))
        obtain ⟨T4, h4, k4, X4, e4, E4, Aw4, st4⟩ := newP X0 hx hZ (hw _ (List.mem_of_getElem? (i := 4) rfl)) e0 (g := (mkF m 27 #[.val (.int z)] [(.int (3 : Int32))])) rfl (hb hby d1_27) rfl (by decide) (cap := 3) (by decide) (by decide) (by decide) (by decide)
        obtain ⟨b4, g4⟩ : ∃ z, z = h0.size := ⟨_, rfl⟩
        rw [← g4] at Aw4 st4
        have A4 := own_Ar.new (nn := 3) Aw4 (by decide) rfl
        have G4 : n0 ≤ b4 := by have := Z0; omega
        have Z4 : n0 ≤ h4.size := Nat.le_trans Z0 E4.1
        refine own_go st4 ?_
        show own_Go _ _ _ _ _ _ _ (T4.setTop (mkF m 29 #[.val (.int z)] [(.ref b4)]))
        obtain rfl : k = 3 := by have := own_neI hz0; have := own_neI hz1; have := own_neI hz2; have e0 : (0 : Int32).toInt = 0 := rfl; have e1 : (1 : Int32).toInt = 1 := rfl; have e2 : (2 : Int32).toInt = 2 := rfl; omega
        exact own_retR X4 hx hlk hret rfl rfl rfl (hb hby d1_29) (by decide) (by decide) ⟨b4, rfl, N0, by rw [e4]; exact E4, G4, g4, by rw [e4]; exact A4⟩
theorem d3_0 : decode jdk_30_method_1_code 0 = .ok (.aload_n 0, 1) := by decide +kernel
theorem d3_1 : decode jdk_30_method_1_code 1 = .ok (.invokespecial 1, 3) := by decide +kernel
theorem d3_4 : decode jdk_30_method_1_code 4 = .ok (.return_, 1) := by decide +kernel
def Q3 (Z : State) (a : Addr) (h0 : Heap) (n0 : Nat) (v : Option Value) (h : Heap) (L : List Loc) : Prop := v = none ∧ Fr n0 L ∧ h = h0
theorem ef_3 (m : MethodId) (x0 : Addr) : entryFrame m #[(.ref x0)] 1 = mkF m 0 #[.val (.ref x0)] [] := by first | (simp [entryFrame, mkF, argsToLocals, Value.category]; done) | rfl
set_option maxRecDepth 65536 in
set_option maxHeartbeats 40000000 in
theorem rm3 (l : Launch) (Z : State) (a0 : Array Value) (hw : ∀ d ∈ tables_1, d.before a0 Z = true) (ws : List Jvm.Cond) (a : Addr) (h0 : Heap) (n0 : Nat) (Z0 : n0 ≤ h0.size)  :
    own_Met l Z (⟨"java/lang/Record", "<init>", "()V"⟩ : MethodName) jdk_30_method_1_code 1 none ({ frames := 1, cells := 0, slots := 0, locals := 12 } : Room) ws #[(.ref a)] h0 (Q3 Z a h0 n0) := by
  refine own_enter (plainFor_of_name (by first | (simp [plainName, overriddenIn]; done) | decide +kernel)) ?_
  intro p e s m below meth c s₁ hx hby hml hown hnm hlk hret hZ X0 e0
  have N0 := Fr.nil n0
  refine own_go (fun _ q => castTop (ef_3 m a) q) ?_
  show own_Go _ _ _ _ _ _ _ (s₁.setTop (mkF m 0 #[.val (.ref a)] []))
  refine own_go (fun _ q => XS.aloadN X0.here hx rfl (hb hby d3_0) rfl rfl q) ?_
  show own_Go _ _ _ _ _ _ _ (s₁.setTop (mkF m 1 #[.val (.ref a)] [(.ref a)]))
  obtain ⟨T1, X1, e1, st1⟩ := initO X0 hx hZ hown (hw _ (List.mem_of_getElem? (i := 16) rfl)) (hw _ (List.mem_of_getElem? (i := 17) rfl)) (hw _ (List.mem_of_getElem? (i := 18) rfl)) e0 (g := (mkF m 1 #[.val (.ref a)] [(.ref a)])) rfl (by rw [hml]; rfl) rfl (hb hby d3_1) (by decide) (W := 0) (by show 2 * 0 + _ ≤ _; exact Nat.le_of_eq rfl) (by decide)
  refine own_go st1 ?_
  show own_Go _ _ _ _ _ _ _ (T1.setTop (mkF m 4 #[.val (.ref a)] []))
  exact own_retV X1 hx hlk hret (hb hby d3_4) (by decide) (by decide) ⟨rfl, N0, e1⟩
theorem d2_0 : decode prog_36_method_1_code 0 = .ok (.aload_n 0, 1) := by decide +kernel
theorem d2_1 : decode prog_36_method_1_code 1 = .ok (.invokespecial 1, 3) := by decide +kernel
theorem d2_4 : decode prog_36_method_1_code 4 = .ok (.aload_n 0, 1) := by decide +kernel
theorem d2_5 : decode prog_36_method_1_code 5 = .ok (.aload_n 1, 1) := by decide +kernel
theorem d2_6 : decode prog_36_method_1_code 6 = .ok (.putfield 7, 3) := by decide +kernel
theorem d2_9 : decode prog_36_method_1_code 9 = .ok (.aload_n 0, 1) := by decide +kernel
theorem d2_10 : decode prog_36_method_1_code 10 = .ok (.aload_n 2, 1) := by decide +kernel
theorem d2_11 : decode prog_36_method_1_code 11 = .ok (.putfield 13, 3) := by decide +kernel
theorem d2_14 : decode prog_36_method_1_code 14 = .ok (.return_, 1) := by decide +kernel
def Q2 (Z : State) (a : Addr) (u1 : Addr) (u2 : Addr) (h0 : Heap) (n0 : Nat) (v : Option Value) (h : Heap) (L : List Loc) : Prop := v = none ∧ Fr n0 L ∧ Keep h0 h [a] ∧ Exa Z h a "com/example/slotwright/slotwright/SplitBox" ∧ Fld Z h a "com/example/slotwright/slotwright/SplitBox" "least" "[J" (.ref u1) ∧ Fld Z h a "com/example/slotwright/slotwright/SplitBox" "most" "[J" (.ref u2)
theorem ef_2 (m : MethodId) (x0 : Addr) (x1 : Addr) (x2 : Addr) : entryFrame m #[(.ref x0), (.ref x1), (.ref x2)] 3 = mkF m 0 #[.val (.ref x0), .val (.ref x1), .val (.ref x2)] [] := by first | (simp [entryFrame, mkF, argsToLocals, Value.category]; done) | rfl
set_option maxRecDepth 65536 in
set_option maxHeartbeats 40000000 in
theorem rm2 (l : Launch) (Z : State) (a0 : Array Value) (hw : ∀ d ∈ tables_1, d.before a0 Z = true) (ws : List Jvm.Cond) (a : Addr) (u1 : Addr) (u2 : Addr) (h0 : Heap) (n0 : Nat) (Z0 : n0 ≤ h0.size) (Ea : Exa Z h0 a "com/example/slotwright/slotwright/SplitBox") (F1 : Fld Z h0 a "com/example/slotwright/slotwright/SplitBox" "least" "[J" .null) (F2 : Fld Z h0 a "com/example/slotwright/slotwright/SplitBox" "most" "[J" .null) (ga : n0 ≤ a) :
    own_Met l Z (⟨"com/example/slotwright/slotwright/SplitBox", "<init>", "([J[J)V"⟩ : MethodName) prog_36_method_1_code 3 none ({ frames := 2, cells := 0, slots := 0, locals := 24 } : Room) ws #[(.ref a), (.ref u1), (.ref u2)] h0 (Q2 Z a u1 u2 h0 n0) := by
  refine own_enter (plainFor_of_name (by first | (simp [plainName, overriddenIn]; done) | decide +kernel)) ?_
  intro p e s m below meth c s₁ hx hby hml hown hnm hlk hret hZ X0 e0
  have N0 := Fr.nil n0
  refine own_go (fun _ q => castTop (ef_2 m a u1 u2) q) ?_
  show own_Go _ _ _ _ _ _ _ (s₁.setTop (mkF m 0 #[.val (.ref a), .val (.ref u1), .val (.ref u2)] []))
  refine own_go (fun _ q => XS.aloadN X0.here hx rfl (hb hby d2_0) rfl rfl q) ?_
  show own_Go _ _ _ _ _ _ _ (s₁.setTop (mkF m 1 #[.val (.ref a), .val (.ref u1), .val (.ref u2)] [(.ref a)]))
  refine own_init X0 hx hZ rfl hown (hw _ (List.mem_of_getElem? (i := 11) rfl)) (hw _ (List.mem_of_getElem? (i := 12) rfl)) (hw _ (List.mem_of_getElem? (i := 14) rfl)) (hw _ (List.mem_of_getElem? (i := 15) rfl)) (by decide) e0 (a := a) (argsL := []) (rest := []) (rm3 l Z a0 hw [] a h0 n0 Z0) 0 (by decide) (by decide) (by decide) (by decide) (by rw [hml]; rfl) pd_1 rfl rfl (Nat.le_of_eq rfl) (hb hby d2_1) rfl ?_
  intro v1 T1 L1 X1 hQ1
  obtain ⟨rfl, N1q, e1q⟩ := hQ1
  have N1 := Fr.app N0 N1q
  show own_Go _ _ _ _ _ _ _ (T1.setTop (mkF m 4 #[.val (.ref a), .val (.ref u1), .val (.ref u2)] []))
  refine own_go (fun _ q => XS.aloadN X1.here hx rfl (hb hby d2_4) rfl rfl q) ?_
  show own_Go _ _ _ _ _ _ _ (T1.setTop (mkF m 5 #[.val (.ref a), .val (.ref u1), .val (.ref u2)] [(.ref a)]))
  refine own_go (fun _ q => XS.aloadN X1.here hx rfl (hb hby d2_5) rfl rfl q) ?_
  show own_Go _ _ _ _ _ _ _ (T1.setTop (mkF m 6 #[.val (.ref a), .val (.ref u1), .val (.ref u2)] [(.ref u1), (.ref a)]))
  obtain ⟨T2, h2, X2, e2, W2, st2⟩ := putF X1 hx hZ hown (host := "") (Or.inl (hw _ (List.mem_of_getElem? (i := 19) rfl))) Via.refl e1q F1 Ea (Or.inr ⟨(hw _ (List.mem_of_getElem? (i := 20) rfl)), rfl, hnm⟩) (hw _ (List.mem_of_getElem? (i := 6) rfl)) (ty := (.array .long)) (by decide) rfl rfl (g := (mkF m 6 #[.val (.ref a), .val (.ref u1), .val (.ref u2)] [(.ref u1), (.ref a)])) rfl rfl (hb hby d2_6)
  have N2 := Fr.snoc X2 N1 ga
  have Fw2 := F1.same W2
  have Z2 : n0 ≤ h2.size := by rw [W2.size]; exact Z0
  refine own_go st2 ?_
  show own_Go _ _ _ _ _ _ _ (T2.setTop (mkF m 9 #[.val (.ref a), .val (.ref u1), .val (.ref u2)] []))
  refine own_go (fun _ q => XS.aloadN X2.here hx rfl (hb hby d2_9) rfl rfl q) ?_
  show own_Go _ _ _ _ _ _ _ (T2.setTop (mkF m 10 #[.val (.ref a), .val (.ref u1), .val (.ref u2)] [(.ref a)]))
  refine own_go (fun _ q => XS.aloadN X2.here hx rfl (hb hby d2_10) rfl rfl q) ?_
  show own_Go _ _ _ _ _ _ _ (T2.setTop (mkF m 11 #[.val (.ref a), .val (.ref u1), .val (.ref u2)] [(.ref u2), (.ref a)]))
  have f4 := (F2.other W2 (Or.inr (slot_ne (Or.inr (hw _ (List.mem_of_getElem? (i := 22) rfl))) (Or.inr (hw _ (List.mem_of_getElem? (i := 20) rfl))) (by decide) (t := (.array .long)) (t' := (.array .long)) (by decide) (by decide))))
  have f5 := (Ea.wr W2)
  obtain ⟨T3, h3, X3, e3, W3, st3⟩ := putF X2 hx hZ hown (host := "") (Or.inl (hw _ (List.mem_of_getElem? (i := 21) rfl))) Via.refl e2 f4 f5 (Or.inr ⟨(hw _ (List.mem_of_getElem? (i := 22) rfl)), rfl, hnm⟩) (hw _ (List.mem_of_getElem? (i := 6) rfl)) (ty := (.array .long)) (by decide) rfl rfl (g := (mkF m 11 #[.val (.ref a), .val (.ref u1), .val (.ref u2)] [(.ref u2), (.ref a)])) rfl rfl (hb hby d2_11)
  have N3 := Fr.snoc X3 N2 ga
  have Fw3 := f4.same W3
  have Z3 : n0 ≤ h3.size := by rw [W3.size]; exact Z2
  refine own_go st3 ?_
  show own_Go _ _ _ _ _ _ _ (T3.setTop (mkF m 14 #[.val (.ref a), .val (.ref u1), .val (.ref u2)] []))
  have K : Keep h0 h3 [a] := ((Keep.refl h0 [a]).wr W2 (Or.inl (List.mem_singleton.mpr rfl))).wr W3 (Or.inl (List.mem_singleton.mpr rfl))
  have f6 := (f5.wr W3)
  have f7 := (Fw2.other W3 (Or.inr (slot_ne (Or.inr (hw _ (List.mem_of_getElem? (i := 20) rfl))) (Or.inr (hw _ (List.mem_of_getElem? (i := 22) rfl))) (by decide) (t := (.array .long)) (t' := (.array .long)) (by decide) (by decide))))
  subst e3
  exact own_retV X3 hx hlk hret (hb hby d2_14) (by decide) (by decide) ⟨rfl, N3, K, f6, f7, Fw3⟩
theorem d5_0 : decode prog_36_method_4_code 0 = .ok (.iconst 0, 1) := by decide +kernel
theorem d5_1 : decode prog_36_method_4_code 1 = .ok (.istore_n 1, 1) := by decide +kernel
theorem d5_2 : decode prog_36_method_4_code 2 = .ok (.iload_n 1, 1) := by decide +kernel
theorem d5_3 : decode prog_36_method_4_code 3 = .ok (.aload_n 0, 1) := by decide +kernel
theorem d5_4 : decode prog_36_method_4_code 4 = .ok (.getfield 7, 3) := by decide +kernel
theorem d5_7 : decode prog_36_method_4_code 7 = .ok (.arraylength, 1) := by decide +kernel
theorem d5_8 : decode prog_36_method_4_code 8 = .ok (.if_icmp .ge 27, 3) := by decide +kernel
theorem d5_11 : decode prog_36_method_4_code 11 = .ok (.aload_n 0, 1) := by decide +kernel
theorem d5_12 : decode prog_36_method_4_code 12 = .ok (.getfield 7, 3) := by decide +kernel
theorem d5_15 : decode prog_36_method_4_code 15 = .ok (.iload_n 1, 1) := by decide +kernel
theorem d5_16 : decode prog_36_method_4_code 16 = .ok (.laload, 1) := by decide +kernel
theorem d5_17 : decode prog_36_method_4_code 17 = .ok (.aload_n 0, 1) := by decide +kernel
theorem d5_18 : decode prog_36_method_4_code 18 = .ok (.getfield 13, 3) := by decide +kernel
theorem d5_21 : decode prog_36_method_4_code 21 = .ok (.iload_n 1, 1) := by decide +kernel
theorem d5_22 : decode prog_36_method_4_code 22 = .ok (.laload, 1) := by decide +kernel
theorem d5_23 : decode prog_36_method_4_code 23 = .ok (.lcmp, 1) := by decide +kernel
theorem d5_24 : decode prog_36_method_4_code 24 = .ok (.ifCond .ge 5, 3) := by decide +kernel
theorem d5_27 : decode prog_36_method_4_code 27 = .ok (.iload_n 1, 1) := by decide +kernel
theorem d5_28 : decode prog_36_method_4_code 28 = .ok (.ireturn, 1) := by decide +kernel
theorem d5_29 : decode prog_36_method_4_code 29 = .ok (.iinc 1 1, 3) := by decide +kernel
theorem d5_32 : decode prog_36_method_4_code 32 = .ok (.goto (-30), 3) := by decide +kernel
theorem d5_35 : decode prog_36_method_4_code 35 = .ok (.iconst (-1), 1) := by decide +kernel
theorem d5_36 : decode prog_36_method_4_code 36 = .ok (.ireturn, 1) := by decide +kernel
def Q5 (Z : State) (a : Addr) (u1 : Addr) (u2 : Addr) (lo : Nat → Int64) (hi : Nat → Int64) (n : Nat) (h0 : Heap) (n0 : Nat) (v : Option Value) (h : Heap) (L : List Loc) : Prop := ∃ r : Int32, v = some (.int r) ∧ Fr n0 L ∧ h = h0 ∧ own_R lo hi n r
theorem ef_5 (m : MethodId) (x0 : Addr) : entryFrame m #[(.ref x0)] 2 = mkF m 0 #[.val (.ref x0), .unset] [] := by first | (simp [entryFrame, mkF, argsToLocals, Value.category]; done) | rfl
set_option maxRecDepth 65536 in
set_option maxHeartbeats 40000000 in
theorem rm5 (l : Launch) (Z : State) (a0 : Array Value) (hw : ∀ d ∈ tables_1, d.before a0 Z = true) (ws : List Jvm.Cond) (a : Addr) (u1 : Addr) (u2 : Addr) (lo : Nat → Int64) (hi : Nat → Int64) (n : Nat) (h0 : Heap) (n0 : Nat) (Z0 : n0 ≤ h0.size) (F1 : Fld Z h0 a "com/example/slotwright/slotwright/SplitBox" "least" "[J" (.ref u1)) (F2 : Fld Z h0 a "com/example/slotwright/slotwright/SplitBox" "most" "[J" (.ref u2)) (A1 : own_Ar Z h0 u1 .long n (fun j => .long (lo j))) (A2 : own_Ar Z h0 u2 .long n (fun j => .long (hi j))) (hn : n ≤ 3) (zn : Int32) (hzn : zn.toInt = (n : Int)) :
    own_Met l Z (⟨"com/example/slotwright/slotwright/SplitBox", "firstOpen", "()I"⟩ : MethodName) prog_36_method_4_code 2 (some .int) ({ frames := 0, cells := 0, slots := 0, locals := 0 } : Room) ws #[(.ref a)] h0 (Q5 Z a u1 u2 lo hi n h0 n0) := by
  refine own_enter (plainFor_of_name (by first | (simp [plainName, overriddenIn]; done) | decide +kernel)) ?_
  intro p e s m below meth c s₁ hx hby hml hown hnm hlk hret hZ X0 e0
  have N0 := Fr.nil n0
  refine own_go (fun _ q => castTop (ef_5 m a) q) ?_
  show own_Go _ _ _ _ _ _ _ (s₁.setTop (mkF m 0 #[.val (.ref a), .unset] []))
  refine own_go (fun _ q => XS.iconst X0.here hx rfl (hb hby d5_0) q) ?_
  show own_Go _ _ _ _ _ _ _ (s₁.setTop (mkF m 1 #[.val (.ref a), .unset] [(.int (0 : Int32))]))
  refine own_go (fun _ q => XS.istoreN X0.here hx rfl (hb hby d5_1) rfl (l' := #[.val (.ref a), .val (.int (0 : Int32))]) rfl q) ?_
  show own_Go _ _ _ _ _ _ _ (s₁.setTop (mkF m 2 #[.val (.ref a), .val (.int (0 : Int32))] []))
  have loop : ∀ (k i : Nat) (zi : Int32) (T : State), i + k = n → zi.toInt = (i : Int) → (∀ j, j < i → ¬ lo j < hi j) → Stand p l e ({ frames := 0, cells := 0, slots := 0, locals := 0 } : Room) s m #[(.ref a)] below meth c T [] 0 0 → T.heap = h0 → own_Go p e below s (Q5 Z a u1 u2 lo hi n h0 n0) 0 0 (T.setTop (mkF m 2 #[.val (.ref a), .val (.int zi)] [])) := by
    intro k
    induction k with
    | zero =>
      intro i zi T hk hz hno X eT
      refine own_go (fun _ q => XS.iloadN X.here hx rfl (hb hby d5_2) rfl q) ?_
      show own_Go _ _ _ _ _ _ _ (T.setTop (mkF m 3 #[.val (.ref a), .val (.int zi)] [(.int zi)]))
      refine own_go (fun _ q => XS.aloadN X.here hx rfl (hb hby d5_3) rfl rfl q) ?_
      show own_Go _ _ _ _ _ _ _ (T.setTop (mkF m 4 #[.val (.ref a), .val (.int zi)] [(.ref a), (.int zi)]))
      obtain ⟨T1, X1, e1, st1⟩ := getF X hx hZ hown (host := "") (Or.inl (hw _ (List.mem_of_getElem? (i := 19) rfl))) Via.refl eT F1 (g := (mkF m 4 #[.val (.ref a), .val (.int zi)] [(.ref a), (.int zi)])) rfl rfl (hb hby d5_4)
      refine own_go st1 ?_
      show own_Go _ _ _ _ _ _ _ (T1.setTop (mkF m 7 #[.val (.ref a), .val (.int zi)] [(.ref u1), (.int zi)]))
      refine own_length (z := zn) X1 hx hZ e1 A1 hzn (hb hby d5_7) rfl ?_
      show own_Go _ _ _ _ _ _ _ (T1.setTop (mkF m 8 #[.val (.ref a), .val (.int zi)] [(.int zn), (.int zi)]))
      refine own_go (fun _ q => XS.icmpYes X1.here hx rfl (pc0 := 8) (pc' := 35) rfl (hb hby d5_8) rfl (flt (own_nlt (x := zi) (y := zn) (by omega))).2.1 (by decide) (by decide) q) ?_
      show own_Go _ _ _ _ _ _ _ (T1.setTop (mkF m 35 #[.val (.ref a), .val (.int zi)] []))
      refine own_go (fun _ q => XS.iconst X1.here hx rfl (hb hby d5_35) q) ?_
      show own_Go _ _ _ _ _ _ _ (T1.setTop (mkF m 36 #[.val (.ref a), .val (.int zi)] [(.int (-1 : Int32))]))
      obtain rfl : i = n := by omega
      exact own_retI X1 hx hlk hret (hb hby d5_36) (by decide) (by decide) ⟨_, rfl, N0, e1, Or.inr ⟨rfl, hno⟩⟩
    | succ k ih =>
      intro i zi T hk hz hno X eT
      refine own_go (fun _ q => XS.iloadN X.here hx rfl (hb hby d5_2) rfl q) ?_
      show own_Go _ _ _ _ _ _ _ (T.setTop (mkF m 3 #[.val (.ref a), .val (.int zi)] [(.int zi)]))
      refine own_go (fun _ q => XS.aloadN X.here hx rfl (hb hby d5_3) rfl rfl q) ?_
      show own_Go _ _ _ _ _ _ _ (T.setTop (mkF m 4 #[.val (.ref a), .val (.int zi)] [(.ref a), (.int zi)]))
      obtain ⟨T2, X2, e2, st2⟩ := getF X hx hZ hown (host := "") (Or.inl (hw _ (List.mem_of_getElem? (i := 19) rfl))) Via.refl eT F1 (g := (mkF m 4 #[.val (.ref a), .val (.int zi)] [(.ref a), (.int zi)])) rfl rfl (hb hby d5_4)
      refine own_go st2 ?_
      show own_Go _ _ _ _ _ _ _ (T2.setTop (mkF m 7 #[.val (.ref a), .val (.int zi)] [(.ref u1), (.int zi)]))
      refine own_length (z := zn) X2 hx hZ e2 A1 hzn (hb hby d5_7) rfl ?_
      show own_Go _ _ _ _ _ _ _ (T2.setTop (mkF m 8 #[.val (.ref a), .val (.int zi)] [(.int zn), (.int zi)]))
      refine own_go (fun _ q => XS.icmpNo X2.here hx rfl (hb hby d5_8) rfl (tlt (own_lt (x := zi) (y := zn) (by omega))).2.1 q) ?_
      show own_Go _ _ _ _ _ _ _ (T2.setTop (mkF m 11 #[.val (.ref a), .val (.int zi)] []))
      refine own_go (fun _ q => XS.aloadN X2.here hx rfl (hb hby d5_11) rfl rfl q) ?_
      show own_Go _ _ _ _ _ _ _ (T2.setTop (mkF m 12 #[.val (.ref a), .val (.int zi)] [(.ref a)]))
      obtain ⟨T3, X3, e3, st3⟩ := getF X2 hx hZ hown (host := "") (Or.inl (hw _ (List.mem_of_getElem? (i := 19) rfl))) Via.refl e2 F1 (g := (mkF m 12 #[.val (.ref a), .val (.int zi)] [(.ref a)])) rfl rfl (hb hby d5_12)
      refine own_go st3 ?_
      show own_Go _ _ _ _ _ _ _ (T3.setTop (mkF m 15 #[.val (.ref a), .val (.int zi)] [(.ref u1)]))
      refine own_go (fun _ q => XS.iloadN X3.here hx rfl (hb hby d5_15) rfl q) ?_
      show own_Go _ _ _ _ _ _ _ (T3.setTop (mkF m 16 #[.val (.ref a), .val (.int zi)] [(.int zi), (.ref u1)]))
      refine own_laload X3 hx hZ e3 A1 hz (by omega) rfl (hb hby d5_16) rfl ?_
      show own_Go _ _ _ _ _ _ _ (T3.setTop (mkF m 17 #[.val (.ref a), .val (.int zi)] [(.long (lo i))]))
      refine own_go (fun _ q => XS.aloadN X3.here hx rfl (hb hby d5_17) rfl rfl q) ?_
      show own_Go _ _ _ _ _ _ _ (T3.setTop (mkF m 18 #[.val (.ref a), .val (.int zi)] [(.ref a), (.long (lo i))]))
      obtain ⟨T4, X4, e4, st4⟩ := getF X3 hx hZ hown (host := "") (Or.inl (hw _ (List.mem_of_getElem? (i := 21) rfl))) Via.refl e3 F2 (g := (mkF m 18 #[.val (.ref a), .val (.int zi)] [(.ref a), (.long (lo i))])) rfl rfl (hb hby d5_18)
      refine own_go st4 ?_
      show own_Go _ _ _ _ _ _ _ (T4.setTop (mkF m 21 #[.val (.ref a), .val (.int zi)] [(.ref u2), (.long (lo i))]))
      refine own_go (fun _ q => XS.iloadN X4.here hx rfl (hb hby d5_21) rfl q) ?_
      show own_Go _ _ _ _ _ _ _ (T4.setTop (mkF m 22 #[.val (.ref a), .val (.int zi)] [(.int zi), (.ref u2), (.long (lo i))]))
      refine own_laload X4 hx hZ e4 A2 hz (by omega) rfl (hb hby d5_22) rfl ?_
      show own_Go _ _ _ _ _ _ _ (T4.setTop (mkF m 23 #[.val (.ref a), .val (.int zi)] [(.long (hi i)), (.long (lo i))]))
      refine own_go (fun _ q => XS.lcmp X4.here hx rfl (hb hby d5_23) rfl q) ?_
      show own_Go _ _ _ _ _ _ _ (T4.setTop (mkF m 24 #[.val (.ref a), .val (.int zi)] [(.int (lcmpW (lo i) (hi i)))]))
      by_cases hlt : (lo i) < (hi i)
      · refine own_go (fun _ q => XS.ifNo X4.here hx rfl (hb hby d5_24) rfl ((if0 _ _).trans (tlt ((lw_lt _ _).mpr hlt)).2.1) q) ?_
        show own_Go _ _ _ _ _ _ _ (T4.setTop (mkF m 27 #[.val (.ref a), .val (.int zi)] []))
        refine own_go (fun _ q => XS.iloadN X4.here hx rfl (hb hby d5_27) rfl q) ?_
        show own_Go _ _ _ _ _ _ _ (T4.setTop (mkF m 28 #[.val (.ref a), .val (.int zi)] [(.int zi)]))
        exact own_retI X4 hx hlk hret (hb hby d5_28) (by decide) (by decide) ⟨_, rfl, N0, e4, Or.inl ⟨i, by omega, hz, hlt, hno⟩⟩
      · refine own_go (fun _ q => XS.ifYes X4.here hx rfl (pc0 := 24) (pc' := 29) rfl (hb hby d5_24) rfl ((if0 _ _).trans (flt (fun q => hlt ((lw_lt _ _).mp q))).2.1) (by decide) (by decide) q) ?_
        show own_Go _ _ _ _ _ _ _ (T4.setTop (mkF m 29 #[.val (.ref a), .val (.int zi)] []))
        refine own_go (fun _ q => XS.iinc X4.here hx rfl (hb hby d5_29) rfl (l' := #[.val (.ref a), .val (.int (zi + (1 : Int32)))]) rfl q) ?_
        show own_Go _ _ _ _ _ _ _ (T4.setTop (mkF m 32 #[.val (.ref a), .val (.int (zi + (1 : Int32)))] []))
        refine own_go (fun _ q => XS.goto X4.here hx rfl (pc0 := 32) (pc' := 2) rfl (hb hby d5_32) (by decide) (by decide) q) ?_
        show own_Go _ _ _ _ _ _ _ (T4.setTop (mkF m 2 #[.val (.ref a), .val (.int (zi + (1 : Int32)))] []))
        exact ih (i + 1) _ _ (by omega) (own_inc hz (by omega)) (fun j hj => by by_cases q : j = i; (· subst q; exact hlt); (· exact hno j (by omega))) X4 e4
  exact loop n 0 _ _ (by omega) rfl (fun j hj => absurd hj (Nat.not_lt_zero j)) X0 e0
def Q0 (Z : State) (q0 : Int64) (q1 : Int64) (q2 : Int64) (q3 : Int64) (q4 : Int64) (p5 : Int32) (h0 : Heap) (n0 : Nat) (v : Option Value) (h : Heap) (L : List Loc) : Prop := v = some (.int 1) ∧ Fr n0 L
theorem ef_0 (m : MethodId) (x0 : Int64) (x1 : Int64) (x2 : Int64) (x3 : Int64) (x4 : Int64) (x5 : Int32) : entryFrame m #[(.long x0), (.long x1), (.long x2), (.long x3), (.long x4), (.int x5)] maxLocals = mkF m 0 #[.val (.long x0), .second, .val (.long x1), .second, .val (.long x2), .second, .val (.long x3), .second, .val (.long x4), .second, .val (.int x5), .unset, .unset, .unset, .unset, .unset, .unset, .unset] [] := by first | (simp [entryFrame, mkF, argsToLocals, Value.category, maxLocals]; done) | rfl
set_option maxRecDepth 65536 in
set_option maxHeartbeats 40000000 in
theorem rm0 (l : Launch) (Z : State) (a0 : Array Value) (hw : ∀ d ∈ tables_1, d.before a0 Z = true) (ws : List Jvm.Cond) (q0 : Int64) (q1 : Int64) (q2 : Int64) (q3 : Int64) (q4 : Int64) (p5 : Int32) (h0 : Heap) (n0 : Nat) (Z0 : n0 ≤ h0.size)  :
    own_Met l Z x code maxLocals ret room_1 ws #[(.long q0), (.long q1), (.long q2), (.long q3), (.long q4), (.int p5)] h0 (Q0 Z q0 q1 q2 q3 q4 p5 h0 n0) := by
  refine own_enter (plainFor_of_name (by first | (simp [plainName, overriddenIn]; done) | decide +kernel)) ?_
  intro p e s m below meth c s₁ hx hby hml hown hnm hlk hret hZ X0 e0
  have N0 := Fr.nil n0
  refine own_go (fun _ q => castTop (ef_0 m q0 q1 q2 q3 q4 p5) q) ?_
  show own_Go _ _ _ _ _ _ _ (s₁.setTop (mkF m 0 #[.val (.long q0), .second, .val (.long q1), .second, .val (.long q2), .second, .val (.long q3), .second, .val (.long q4), .second, .val (.int p5), .unset, .unset, .unset, .unset, .unset, .unset, .unset] []))
  refine own_go (fun _ q => XS.iload X0.here hx rfl (hb hby at_0) rfl q) ?_
  show own_Go _ _ _ _ _ _ _ (s₁.setTop (mkF m 2 #[.val (.long q0), .second, .val (.long q1), .second, .val (.long q2), .second, .val (.long q3), .second, .val (.long q4), .second, .val (.int p5), .unset, .unset, .unset, .unset, .unset, .unset, .unset] [(.int p5)]))
  refine own_go (fun _ q => XS.iconst X0.here hx rfl (hb hby at_2) q) ?_
  show own_Go _ _ _ _ _ _ _ (s₁.setTop (mkF m 3 #[.val (.long q0), .second, .val (.long q1), .second, .val (.long q2), .second, .val (.long q3), .second, .val (.long q4), .second, .val (.int p5), .unset, .unset, .unset, .unset, .unset, .unset, .unset] [(.int (3 : Int32)), (.int p5)]))
  refine own_go (fun _ q => XS.iushr X0.here hx rfl (hb hby at_3) rfl q) ?_
  show own_Go _ _ _ _ _ _ _ (s₁.setTop (mkF m 4 #[.val (.long q0), .second, .val (.long q1), .second, .val (.long q2), .second, .val (.long q3), .second, .val (.long q4), .second, .val (.int p5), .unset, .unset, .unset, .unset, .unset, .unset, .unset] [(.int ((p5.toUInt32 >>> ((3 : Int32) &&& 31).toUInt32).toInt32))]))
  refine own_go (fun _ q => XS.iconst X0.here hx rfl (hb hby at_4) q) ?_
  show own_Go _ _ _ _ _ _ _ (s₁.setTop (mkF m 5 #[.val (.long q0), .second, .val (.long q1), .second, .val (.long q2), .second, .val (.long q3), .second, .val (.long q4), .second, .val (.int p5), .unset, .unset, .unset, .unset, .unset, .unset, .unset] [(.int (3 : Int32)), (.int ((p5.toUInt32 >>> ((3 : Int32) &&& 31).toUInt32).toInt32))]))
  refine own_go (fun _ q => XS.iand X0.here hx rfl (hb hby at_5) rfl q) ?_
  show own_Go _ _ _ _ _ _ _ (s₁.setTop (mkF m 6 #[.val (.long q0), .second, .val (.long q1), .second, .val (.long q2), .second, .val (.long q3), .second, .val (.long q4), .second, .val (.int p5), .unset, .unset, .unset, .unset, .unset, .unset, .unset] [(.int (((p5.toUInt32 >>> ((3 : Int32) &&& 31).toUInt32).toInt32) &&& (3 : Int32)))]))
  refine own_go (fun _ q => XS.istore X0.here hx rfl (hb hby at_6) rfl (l' := #[.val (.long q0), .second, .val (.long q1), .second, .val (.long q2), .second, .val (.long q3), .second, .val (.long q4), .second, .val (.int p5), .val (.int (((p5.toUInt32 >>> ((3 : Int32) &&& 31).toUInt32).toInt32) &&& (3 : Int32))), .unset, .unset, .unset, .unset, .unset, .unset]) rfl q) ?_
  show own_Go _ _ _ _ _ _ _ (s₁.setTop (mkF m 8 #[.val (.long q0), .second, .val (.long q1), .second, .val (.long q2), .second, .val (.long q3), .second, .val (.long q4), .second, .val (.int p5), .val (.int (((p5.toUInt32 >>> ((3 : Int32) &&& 31).toUInt32).toInt32) &&& (3 : Int32))), .unset, .unset, .unset, .unset, .unset, .unset] []))
  refine own_go (fun _ q => XS.iload X0.here hx rfl (hb hby at_8) rfl q) ?_
  show own_Go _ _ _ _ _ _ _ (s₁.setTop (mkF m 10 #[.val (.long q0), .second, .val (.long q1), .second, .val (.long q2), .second, .val (.long q3), .second, .val (.long q4), .second, .val (.int p5), .val (.int (((p5.toUInt32 >>> ((3 : Int32) &&& 31).toUInt32).toInt32) &&& (3 : Int32))), .unset, .unset, .unset, .unset, .unset, .unset] [(.int p5)]))
  refine own_go (fun _ q => XS.iconst X0.here hx rfl (hb hby at_10) q) ?_
  show own_Go _ _ _ _ _ _ _ (s₁.setTop (mkF m 11 #[.val (.long q0), .second, .val (.long q1), .second, .val (.long q2), .second, .val (.long q3), .second, .val (.long q4), .second, .val (.int p5), .val (.int (((p5.toUInt32 >>> ((3 : Int32) &&& 31).toUInt32).toInt32) &&& (3 : Int32))), .unset, .unset, .unset, .unset, .unset, .unset] [(.int (1 : Int32)), (.int p5)]))
  refine own_go (fun _ q => XS.iand X0.here hx rfl (hb hby at_11) rfl q) ?_
  show own_Go _ _ _ _ _ _ _ (s₁.setTop (mkF m 12 #[.val (.long q0), .second, .val (.long q1), .second, .val (.long q2), .second, .val (.long q3), .second, .val (.long q4), .second, .val (.int p5), .val (.int (((p5.toUInt32 >>> ((3 : Int32) &&& 31).toUInt32).toInt32) &&& (3 : Int32))), .unset, .unset, .unset, .unset, .unset, .unset] [(.int (p5 &&& (1 : Int32)))]))
  obtain ⟨nn, hnn⟩ : ∃ z, z = (((p5.toUInt32 >>> ((3 : Int32) &&& 31).toUInt32).toInt32) &&& (3 : Int32)) := ⟨_, rfl⟩
  have hn4 := own_four p5
  rw [← hnn] at hn4 ⊢
  have join0 : ∀ t0 : Int32, (t0 = 0 ∨ t0 = 1) → own_Go p e below s (Q0 Z q0 q1 q2 q3 q4 p5 h0 n0) room_1.cells room_1.slots (s₁.setTop (mkF m 20 #[.val (.long q0), .second, .val (.long q1), .second, .val (.long q2), .second, .val (.long q3), .second, .val (.long q4), .second, .val (.int p5), .val (.int nn), .unset, .unset, .unset, .unset, .unset, .unset] [(.int t0)])) := by
    intro t0 hb0
    show own_Go _ _ _ _ _ _ _ (s₁.setTop (mkF m 20 #[.val (.long q0), .second, .val (.long q1), .second, .val (.long q2), .second, .val (.long q3), .second, .val (.long q4), .second, .val (.int p5), .val (.int nn), .unset, .unset, .unset, .unset, .unset, .unset] [(.int t0)]))
    refine own_go (fun _ q => XS.istore X0.here hx rfl (hb hby at_20) rfl (l' := #[.val (.long q0), .second, .val (.long q1), .second, .val (.long q2), .second, .val (.long q3), .second, .val (.long q4), .second, .val (.int p5), .val (.int nn), .val (.int t0), .unset, .unset, .unset, .unset, .unset]) rfl q) ?_
    show own_Go _ _ _ _ _ _ _ (s₁.setTop (mkF m 22 #[.val (.long q0), .second, .val (.long q1), .second, .val (.long q2), .second, .val (.long q3), .second, .val (.long q4), .second, .val (.int p5), .val (.int nn), .val (.int t0), .unset, .unset, .unset, .unset, .unset] []))
    refine own_go (fun _ q => XS.iload X0.here hx rfl (hb hby at_22) rfl q) ?_
    show own_Go _ _ _ _ _ _ _ (s₁.setTop (mkF m 24 #[.val (.long q0), .second, .val (.long q1), .second, .val (.long q2), .second, .val (.long q3), .second, .val (.long q4), .second, .val (.int p5), .val (.int nn), .val (.int t0), .unset, .unset, .unset, .unset, .unset] [(.int p5)]))
    refine own_go (fun _ q => XS.iconst X0.here hx rfl (hb hby at_24) q) ?_
    show own_Go _ _ _ _ _ _ _ (s₁.setTop (mkF m 25 #[.val (.long q0), .second, .val (.long q1), .second, .val (.long q2), .second, .val (.long q3), .second, .val (.long q4), .second, .val (.int p5), .val (.int nn), .val (.int t0), .unset, .unset, .unset, .unset, .unset] [(.int (2 : Int32)), (.int p5)]))
    refine own_go (fun _ q => XS.iand X0.here hx rfl (hb hby at_25) rfl q) ?_
    show own_Go _ _ _ _ _ _ _ (s₁.setTop (mkF m 26 #[.val (.long q0), .second, .val (.long q1), .second, .val (.long q2), .second, .val (.long q3), .second, .val (.long q4), .second, .val (.int p5), .val (.int nn), .val (.int t0), .unset, .unset, .unset, .unset, .unset] [(.int (p5 &&& (2 : Int32)))]))
    have join1 : ∀ t1 : Int32, (t1 = 0 ∨ t1 = 1) → own_Go p e below s (Q0 Z q0 q1 q2 q3 q4 p5 h0 n0) room_1.cells room_1.slots (s₁.setTop (mkF m 34 #[.val (.long q0), .second, .val (.long q1), .second, .val (.long q2), .second, .val (.long q3), .second, .val (.long q4), .second, .val (.int p5), .val (.int nn), .val (.int t0), .unset, .unset, .unset, .unset, .unset] [(.int t1)])) := by
      intro t1 hb1
      show own_Go _ _ _ _ _ _ _ (s₁.setTop (mkF m 34 #[.val (.long q0), .second, .val (.long q1), .second, .val (.long q2), .second, .val (.long q3), .second, .val (.long q4), .second, .val (.int p5), .val (.int nn), .val (.int t0), .unset, .unset, .unset, .unset, .unset] [(.int t1)]))
      refine own_go (fun _ q => XS.istore X0.here hx rfl (hb hby at_34) rfl (l' := #[.val (.long q0), .second, .val (.long q1), .second, .val (.long q2), .second, .val (.long q3), .second, .val (.long q4), .second, .val (.int p5), .val (.int nn), .val (.int t0), .val (.int t1), .unset, .unset, .unset, .unset]) rfl q) ?_
      show own_Go _ _ _ _ _ _ _ (s₁.setTop (mkF m 36 #[.val (.long q0), .second, .val (.long q1), .second, .val (.long q2), .second, .val (.long q3), .second, .val (.long q4), .second, .val (.int p5), .val (.int nn), .val (.int t0), .val (.int t1), .unset, .unset, .unset, .unset] []))
      refine own_go (fun _ q => XS.iload X0.here hx rfl (hb hby at_36) rfl q) ?_
      show own_Go _ _ _ _ _ _ _ (s₁.setTop (mkF m 38 #[.val (.long q0), .second, .val (.long q1), .second, .val (.long q2), .second, .val (.long q3), .second, .val (.long q4), .second, .val (.int p5), .val (.int nn), .val (.int t0), .val (.int t1), .unset, .unset, .unset, .unset] [(.int p5)]))
      refine own_go (fun _ q => XS.iconst X0.here hx rfl (hb hby at_38) q) ?_
      show own_Go _ _ _ _ _ _ _ (s₁.setTop (mkF m 39 #[.val (.long q0), .second, .val (.long q1), .second, .val (.long q2), .second, .val (.long q3), .second, .val (.long q4), .second, .val (.int p5), .val (.int nn), .val (.int t0), .val (.int t1), .unset, .unset, .unset, .unset] [(.int (4 : Int32)), (.int p5)]))
      refine own_go (fun _ q => XS.iand X0.here hx rfl (hb hby at_39) rfl q) ?_
      show own_Go _ _ _ _ _ _ _ (s₁.setTop (mkF m 40 #[.val (.long q0), .second, .val (.long q1), .second, .val (.long q2), .second, .val (.long q3), .second, .val (.long q4), .second, .val (.int p5), .val (.int nn), .val (.int t0), .val (.int t1), .unset, .unset, .unset, .unset] [(.int (p5 &&& (4 : Int32)))]))
      have join2 : ∀ t2 : Int32, (t2 = 0 ∨ t2 = 1) → own_Go p e below s (Q0 Z q0 q1 q2 q3 q4 p5 h0 n0) room_1.cells room_1.slots (s₁.setTop (mkF m 48 #[.val (.long q0), .second, .val (.long q1), .second, .val (.long q2), .second, .val (.long q3), .second, .val (.long q4), .second, .val (.int p5), .val (.int nn), .val (.int t0), .val (.int t1), .unset, .unset, .unset, .unset] [(.int t2)])) := by
        intro t2 hb2
        show own_Go _ _ _ _ _ _ _ (s₁.setTop (mkF m 48 #[.val (.long q0), .second, .val (.long q1), .second, .val (.long q2), .second, .val (.long q3), .second, .val (.long q4), .second, .val (.int p5), .val (.int nn), .val (.int t0), .val (.int t1), .unset, .unset, .unset, .unset] [(.int t2)]))
        refine own_go (fun _ q => XS.istore X0.here hx rfl (hb hby at_48) rfl (l' := #[.val (.long q0), .second, .val (.long q1), .second, .val (.long q2), .second, .val (.long q3), .second, .val (.long q4), .second, .val (.int p5), .val (.int nn), .val (.int t0), .val (.int t1), .val (.int t2), .unset, .unset, .unset]) rfl q) ?_
        show own_Go _ _ _ _ _ _ _ (s₁.setTop (mkF m 50 #[.val (.long q0), .second, .val (.long q1), .second, .val (.long q2), .second, .val (.long q3), .second, .val (.long q4), .second, .val (.int p5), .val (.int nn), .val (.int t0), .val (.int t1), .val (.int t2), .unset, .unset, .unset] []))
        refine own_go (fun _ q => XS.iload X0.here hx rfl (hb hby at_50) rfl q) ?_
        show own_Go _ _ _ _ _ _ _ (s₁.setTop (mkF m 52 #[.val (.long q0), .second, .val (.long q1), .second, .val (.long q2), .second, .val (.long q3), .second, .val (.long q4), .second, .val (.int p5), .val (.int nn), .val (.int t0), .val (.int t1), .val (.int t2), .unset, .unset, .unset] [(.int nn)]))
        rcases hn4 with q | q | q | q
        · rw [q]
          show own_Go _ _ _ _ _ _ _ (s₁.setTop (mkF m 52 #[.val (.long q0), .second, .val (.long q1), .second, .val (.long q2), .second, .val (.long q3), .second, .val (.long q4), .second, .val (.int p5), .val (.int (0 : Int32)), .val (.int t0), .val (.int t1), .val (.int t2), .unset, .unset, .unset] [(.int (0 : Int32))]))
          refine own_static X0 hx hZ hown (hw _ (List.mem_of_getElem? (i := 0) rfl)) (hw _ (List.mem_of_getElem? (i := 1) rfl)) (hw _ (List.mem_of_getElem? (i := 2) rfl)) (hw _ (List.mem_of_getElem? (i := 3) rfl)) (by decide) e0 (argsL := [(.int (0 : Int32))]) (rest := []) (rm1 l Z a0 hw [] (0 : Int32) 0 h0 n0 Z0 rfl (by decide)) 0 (by decide) (by decide) (by decide) (by decide) (by rw [hml]; rfl) pd_2 rfl rfl (Nat.le_of_eq rfl) (hb hby at_52) rfl ?_
          intro v1 T1 L1 X1 hQ1
          obtain ⟨b1, rfl, N1q, Ex1, G1, gb1, A1⟩ := hQ1
          have N1 := Fr.app N0 N1q
          show own_Go _ _ _ _ _ _ _ (T1.setTop (mkF m 55 #[.val (.long q0), .second, .val (.long q1), .second, .val (.long q2), .second, .val (.long q3), .second, .val (.long q4), .second, .val (.int p5), .val (.int (0 : Int32)), .val (.int t0), .val (.int t1), .val (.int t2), .unset, .unset, .unset] [(.ref b1)]))
          have Z1 : n0 ≤ T1.heap.size := Nat.le_trans Z0 Ex1.1
          refine own_go (fun _ q => XS.astore X1.here hx rfl (hb hby at_55) rfl rfl (l' := #[.val (.long q0), .second, .val (.long q1), .second, .val (.long q2), .second, .val (.long q3), .second, .val (.long q4), .second, .val (.int p5), .val (.int (0 : Int32)), .val (.int t0), .val (.int t1), .val (.int t2), .val (.ref b1), .unset, .unset]) rfl q) ?_
          show own_Go _ _ _ _ _ _ _ (T1.setTop (mkF m 57 #[.val (.long q0), .second, .val (.long q1), .second, .val (.long q2), .second, .val (.long q3), .second, .val (.long q4), .second, .val (.int p5), .val (.int (0 : Int32)), .val (.int t0), .val (.int t1), .val (.int t2), .val (.ref b1), .unset, .unset] []))
          refine own_go (fun _ q => XS.iload X1.here hx rfl (hb hby at_57) rfl q) ?_
          show own_Go _ _ _ _ _ _ _ (T1.setTop (mkF m 59 #[.val (.long q0), .second, .val (.long q1), .second, .val (.long q2), .second, .val (.long q3), .second, .val (.long q4), .second, .val (.int p5), .val (.int (0 : Int32)), .val (.int t0), .val (.int t1), .val (.int t2), .val (.ref b1), .unset, .unset] [(.int (0 : Int32))]))
          refine own_static X1 hx hZ hown (hw _ (List.mem_of_getElem? (i := 0) rfl)) (hw _ (List.mem_of_getElem? (i := 1) rfl)) (hw _ (List.mem_of_getElem? (i := 2) rfl)) (hw _ (List.mem_of_getElem? (i := 3) rfl)) (by decide) rfl (argsL := [(.int (0 : Int32))]) (rest := []) (rm1 l Z a0 hw [] (0 : Int32) 0 T1.heap n0 Z1 rfl (by decide)) 0 (by decide) (by decide) (by decide) (by decide) (by rw [hml]; rfl) pd_2 rfl rfl (Nat.le_of_eq rfl) (hb hby at_59) rfl ?_
          intro v2 T2 L2 X2 hQ2
          obtain ⟨b2, rfl, N2q, Ex2, G2, gb2, A2⟩ := hQ2
          have N2 := Fr.app N1 N2q
          show own_Go _ _ _ _ _ _ _ (T2.setTop (mkF m 62 #[.val (.long q0), .second, .val (.long q1), .second, .val (.long q2), .second, .val (.long q3), .second, .val (.long q4), .second, .val (.int p5), .val (.int (0 : Int32)), .val (.int t0), .val (.int t1), .val (.int t2), .val (.ref b1), .unset, .unset] [(.ref b2)]))
          have Z2 : n0 ≤ T2.heap.size := Nat.le_trans Z1 Ex2.1
          have neq : b1 ≠ b2 := Nat.ne_of_lt (Nat.lt_of_lt_of_eq (A1).lt gb2.symm)
          refine own_go (fun _ q => XS.astore X2.here hx rfl (hb hby at_62) rfl rfl (l' := #[.val (.long q0), .second, .val (.long q1), .second, .val (.long q2), .second, .val (.long q3), .second, .val (.long q4), .second, .val (.int p5), .val (.int (0 : Int32)), .val (.int t0), .val (.int t1), .val (.int t2), .val (.ref b1), .val (.ref b2), .unset]) rfl q) ?_
          show own_Go _ _ _ _ _ _ _ (T2.setTop (mkF m 64 #[.val (.long q0), .second, .val (.long q1), .second, .val (.long q2), .second, .val (.long q3), .second, .val (.long q4), .second, .val (.int p5), .val (.int (0 : Int32)), .val (.int t0), .val (.int t1), .val (.int t2), .val (.ref b1), .val (.ref b2), .unset] []))
          refine own_go (fun _ q => XS.iload X2.here hx rfl (hb hby at_64) rfl q) ?_
          show own_Go _ _ _ _ _ _ _ (T2.setTop (mkF m 66 #[.val (.long q0), .second, .val (.long q1), .second, .val (.long q2), .second, .val (.long q3), .second, .val (.long q4), .second, .val (.int p5), .val (.int (0 : Int32)), .val (.int t0), .val (.int t1), .val (.int t2), .val (.ref b1), .val (.ref b2), .unset] [(.int (0 : Int32))]))
          refine own_go (fun _ q => XS.ifYes X2.here hx rfl (pc0 := 66) (pc' := 93) rfl (hb hby at_66) rfl ((if0 _ _).trans (flt (by decide : ¬ ((0 : Int32) < (0 : Int32)))).2.2.2) (by decide) (by decide) q) ?_
          show own_Go _ _ _ _ _ _ _ (T2.setTop (mkF m 93 #[.val (.long q0), .second, .val (.long q1), .second, .val (.long q2), .second, .val (.long q3), .second, .val (.long q4), .second, .val (.int p5), .val (.int (0 : Int32)), .val (.int t0), .val (.int t1), .val (.int t2), .val (.ref b1), .val (.ref b2), .unset] []))
          refine own_go (fun _ q => XS.iload X2.here hx rfl (hb hby at_93) rfl q) ?_
          show own_Go _ _ _ _ _ _ _ (T2.setTop (mkF m 95 #[.val (.long q0), .second, .val (.long q1), .second, .val (.long q2), .second, .val (.long q3), .second, .val (.long q4), .second, .val (.int p5), .val (.int (0 : Int32)), .val (.int t0), .val (.int t1), .val (.int t2), .val (.ref b1), .val (.ref b2), .unset] [(.int (0 : Int32))]))
          refine own_go (fun _ q => XS.iconst X2.here hx rfl (hb hby at_95) q) ?_
          show own_Go _ _ _ _ _ _ _ (T2.setTop (mkF m 96 #[.val (.long q0), .second, .val (.long q1), .second, .val (.long q2), .second, .val (.long q3), .second, .val (.long q4), .second, .val (.int p5), .val (.int (0 : Int32)), .val (.int t0), .val (.int t1), .val (.int t2), .val (.ref b1), .val (.ref b2), .unset] [(.int (1 : Int32)), (.int (0 : Int32))]))
          refine own_go (fun _ q => XS.icmpYes X2.here hx rfl (pc0 := 96) (pc' := 123) rfl (hb hby at_96) rfl (flt (by decide : ¬ ((1 : Int32) < (0 : Int32)))).2.2.2 (by decide) (by decide) q) ?_
          show own_Go _ _ _ _ _ _ _ (T2.setTop (mkF m 123 #[.val (.long q0), .second, .val (.long q1), .second, .val (.long q2), .second, .val (.long q3), .second, .val (.long q4), .second, .val (.int p5), .val (.int (0 : Int32)), .val (.int t0), .val (.int t1), .val (.int t2), .val (.ref b1), .val (.ref b2), .unset] []))
          refine own_go (fun _ q => XS.iload X2.here hx rfl (hb hby at_123) rfl q) ?_
          show own_Go _ _ _ _ _ _ _ (T2.setTop (mkF m 125 #[.val (.long q0), .second, .val (.long q1), .second, .val (.long q2), .second, .val (.long q3), .second, .val (.long q4), .second, .val (.int p5), .val (.int (0 : Int32)), .val (.int t0), .val (.int t1), .val (.int t2), .val (.ref b1), .val (.ref b2), .unset] [(.int (0 : Int32))]))
          refine own_go (fun _ q => XS.iconst X2.here hx rfl (hb hby at_125) q) ?_
          show own_Go _ _ _ _ _ _ _ (T2.setTop (mkF m 126 #[.val (.long q0), .second, .val (.long q1), .second, .val (.long q2), .second, .val (.long q3), .second, .val (.long q4), .second, .val (.int p5), .val (.int (0 : Int32)), .val (.int t0), .val (.int t1), .val (.int t2), .val (.ref b1), .val (.ref b2), .unset] [(.int (2 : Int32)), (.int (0 : Int32))]))
          refine own_go (fun _ q => XS.icmpYes X2.here hx rfl (pc0 := 126) (pc' := 155) rfl (hb hby at_126) rfl (flt (by decide : ¬ ((2 : Int32) < (0 : Int32)))).2.2.2 (by decide) (by decide) q) ?_
          show own_Go _ _ _ _ _ _ _ (T2.setTop (mkF m 155 #[.val (.long q0), .second, .val (.long q1), .second, .val (.long q2), .second, .val (.long q3), .second, .val (.long q4), .second, .val (.int p5), .val (.int (0 : Int32)), .val (.int t0), .val (.int t1), .val (.int t2), .val (.ref b1), .val (.ref b2), .unset] []))
          have f3 := (A1.ext Ex2)
          have B1 : own_Ar Z T2.heap b1 .long 0 (fun j => .long (own_lo q0 q1 q2 q3 q4 t0 t1 t2 j)) := f3.eqv (fun j hj => absurd hj (Nat.not_lt_zero j))
          have B2 : own_Ar Z T2.heap b2 .long 0 (fun j => .long (own_hi q0 q1 q2 q3 q4 t0 t1 t2 j)) := A2.eqv (fun j hj => absurd hj (Nat.not_lt_zero j))
          refine own_go (fun _ q => XS.iconst X2.here hx rfl (hb hby at_155) q) ?_
          show own_Go _ _ _ _ _ _ _ (T2.setTop (mkF m 156 #[.val (.long q0), .second, .val (.long q1), .second, .val (.long q2), .second, .val (.long q3), .second, .val (.long q4), .second, .val (.int p5), .val (.int (0 : Int32)), .val (.int t0), .val (.int t1), .val (.int t2), .val (.ref b1), .val (.ref b2), .unset] [(.int (-1 : Int32))]))
          refine own_go (fun _ q => XS.istore X2.here hx rfl (hb hby at_156) rfl (l' := #[.val (.long q0), .second, .val (.long q1), .second, .val (.long q2), .second, .val (.long q3), .second, .val (.long q4), .second, .val (.int p5), .val (.int (0 : Int32)), .val (.int t0), .val (.int t1), .val (.int t2), .val (.ref b1), .val (.ref b2), .val (.int (-1 : Int32))]) rfl q) ?_
          show own_Go _ _ _ _ _ _ _ (T2.setTop (mkF m 158 #[.val (.long q0), .second, .val (.long q1), .second, .val (.long q2), .second, .val (.long q3), .second, .val (.long q4), .second, .val (.int p5), .val (.int (0 : Int32)), .val (.int t0), .val (.int t1), .val (.int t2), .val (.ref b1), .val (.ref b2), .val (.int (-1 : Int32))] []))
          refine own_go (fun _ q => XS.iload X2.here hx rfl (hb hby at_158) rfl q) ?_
          show own_Go _ _ _ _ _ _ _ (T2.setTop (mkF m 160 #[.val (.long q0), .second, .val (.long q1), .second, .val (.long q2), .second, .val (.long q3), .second, .val (.long q4), .second, .val (.int p5), .val (.int (0 : Int32)), .val (.int t0), .val (.int t1), .val (.int t2), .val (.ref b1), .val (.ref b2), .val (.int (-1 : Int32))] [(.int (0 : Int32))]))
          refine own_go (fun _ q => XS.iconst X2.here hx rfl (hb hby at_160) q) ?_
          show own_Go _ _ _ _ _ _ _ (T2.setTop (mkF m 161 #[.val (.long q0), .second, .val (.long q1), .second, .val (.long q2), .second, .val (.long q3), .second, .val (.long q4), .second, .val (.int p5), .val (.int (0 : Int32)), .val (.int t0), .val (.int t1), .val (.int t2), .val (.ref b1), .val (.ref b2), .val (.int (-1 : Int32))] [(.int (2 : Int32)), (.int (0 : Int32))]))
          refine own_go (fun _ q => XS.icmpYes X2.here hx rfl (pc0 := 161) (pc' := 172) rfl (hb hby at_161) rfl (flt (by decide : ¬ ((2 : Int32) < (0 : Int32)))).2.2.2 (by decide) (by decide) q) ?_
          show own_Go _ _ _ _ _ _ _ (T2.setTop (mkF m 172 #[.val (.long q0), .second, .val (.long q1), .second, .val (.long q2), .second, .val (.long q3), .second, .val (.long q4), .second, .val (.int p5), .val (.int (0 : Int32)), .val (.int t0), .val (.int t1), .val (.int t2), .val (.ref b1), .val (.ref b2), .val (.int (-1 : Int32))] []))
          refine own_go (fun _ q => XS.iload X2.here hx rfl (hb hby at_172) rfl q) ?_
          show own_Go _ _ _ _ _ _ _ (T2.setTop (mkF m 174 #[.val (.long q0), .second, .val (.long q1), .second, .val (.long q2), .second, .val (.long q3), .second, .val (.long q4), .second, .val (.int p5), .val (.int (0 : Int32)), .val (.int t0), .val (.int t1), .val (.int t2), .val (.ref b1), .val (.ref b2), .val (.int (-1 : Int32))] [(.int (0 : Int32))]))
          refine own_go (fun _ q => XS.iconst X2.here hx rfl (hb hby at_174) q) ?_
          show own_Go _ _ _ _ _ _ _ (T2.setTop (mkF m 175 #[.val (.long q0), .second, .val (.long q1), .second, .val (.long q2), .second, .val (.long q3), .second, .val (.long q4), .second, .val (.int p5), .val (.int (0 : Int32)), .val (.int t0), .val (.int t1), .val (.int t2), .val (.ref b1), .val (.ref b2), .val (.int (-1 : Int32))] [(.int (1 : Int32)), (.int (0 : Int32))]))
          refine own_go (fun _ q => XS.icmpYes X2.here hx rfl (pc0 := 175) (pc' := 186) rfl (hb hby at_175) rfl (flt (by decide : ¬ ((1 : Int32) < (0 : Int32)))).2.2.2 (by decide) (by decide) q) ?_
          show own_Go _ _ _ _ _ _ _ (T2.setTop (mkF m 186 #[.val (.long q0), .second, .val (.long q1), .second, .val (.long q2), .second, .val (.long q3), .second, .val (.long q4), .second, .val (.int p5), .val (.int (0 : Int32)), .val (.int t0), .val (.int t1), .val (.int t2), .val (.ref b1), .val (.ref b2), .val (.int (-1 : Int32))] []))
          refine own_go (fun _ q => XS.iload X2.here hx rfl (hb hby at_186) rfl q) ?_
          show own_Go _ _ _ _ _ _ _ (T2.setTop (mkF m 188 #[.val (.long q0), .second, .val (.long q1), .second, .val (.long q2), .second, .val (.long q3), .second, .val (.long q4), .second, .val (.int p5), .val (.int (0 : Int32)), .val (.int t0), .val (.int t1), .val (.int t2), .val (.ref b1), .val (.ref b2), .val (.int (-1 : Int32))] [(.int (0 : Int32))]))
          refine own_go (fun _ q => XS.ifYes X2.here hx rfl (pc0 := 188) (pc' := 199) rfl (hb hby at_188) rfl ((if0 _ _).trans (flt (by decide : ¬ ((0 : Int32) < (0 : Int32)))).2.2.2) (by decide) (by decide) q) ?_
          show own_Go _ _ _ _ _ _ _ (T2.setTop (mkF m 199 #[.val (.long q0), .second, .val (.long q1), .second, .val (.long q2), .second, .val (.long q3), .second, .val (.long q4), .second, .val (.int p5), .val (.int (0 : Int32)), .val (.int t0), .val (.int t1), .val (.int t2), .val (.ref b1), .val (.ref b2), .val (.int (-1 : Int32))] []))
          obtain ⟨T4, h4, X4, e4, E4, A4, D4, -, st4⟩ := newO X2 hx hZ hown (hw _ (List.mem_of_getElem? (i := 5) rfl)) (hw _ (List.mem_of_getElem? (i := 6) rfl)) (hw _ (List.mem_of_getElem? (i := 7) rfl)) rfl (g := (mkF m 199 #[.val (.long q0), .second, .val (.long q1), .second, .val (.long q2), .second, .val (.long q3), .second, .val (.long q4), .second, .val (.int p5), .val (.int (0 : Int32)), .val (.int t0), .val (.int t1), .val (.int t2), .val (.ref b1), .val (.ref b2), .val (.int (-1 : Int32))] [])) rfl (hb hby at_199) (by decide) (by decide)
          obtain ⟨b4, g4⟩ : ∃ z, z = T2.heap.size := ⟨_, rfl⟩
          rw [← g4] at A4 D4 st4
          have ne5 : b1 ≠ b4 := Nat.ne_of_lt (Nat.lt_of_lt_of_eq (B1).lt g4.symm)
          have ne6 : b2 ≠ b4 := Nat.ne_of_lt (Nat.lt_of_lt_of_eq (B2).lt g4.symm)
          have G4 : n0 ≤ b4 := by have := Z2; omega
          have Z4 : n0 ≤ h4.size := Nat.le_trans Z2 E4.1
          have Fn4_least : Fld Z h4 b4 "com/example/slotwright/slotwright/SplitBox" "least" "[J" .null := D4 (Or.inr (hw _ (List.mem_of_getElem? (i := 20) rfl))) (ty := (.array .long)) (by decide)
          have Fn4_most : Fld Z h4 b4 "com/example/slotwright/slotwright/SplitBox" "most" "[J" .null := D4 (Or.inr (hw _ (List.mem_of_getElem? (i := 22) rfl))) (ty := (.array .long)) (by decide)
          refine own_go st4 ?_
          show own_Go _ _ _ _ _ _ _ (T4.setTop (mkF m 202 #[.val (.long q0), .second, .val (.long q1), .second, .val (.long q2), .second, .val (.long q3), .second, .val (.long q4), .second, .val (.int p5), .val (.int (0 : Int32)), .val (.int t0), .val (.int t1), .val (.int t2), .val (.ref b1), .val (.ref b2), .val (.int (-1 : Int32))] [(.ref b4)]))
          refine own_go (fun _ q => XS.dup X4.here hx rfl (hb hby at_202) rfl rfl q) ?_
          show own_Go _ _ _ _ _ _ _ (T4.setTop (mkF m 203 #[.val (.long q0), .second, .val (.long q1), .second, .val (.long q2), .second, .val (.long q3), .second, .val (.long q4), .second, .val (.int p5), .val (.int (0 : Int32)), .val (.int t0), .val (.int t1), .val (.int t2), .val (.ref b1), .val (.ref b2), .val (.int (-1 : Int32))] [(.ref b4), (.ref b4)]))
          refine own_go (fun _ q => XS.aload X4.here hx rfl (hb hby at_203) rfl rfl q) ?_
          show own_Go _ _ _ _ _ _ _ (T4.setTop (mkF m 205 #[.val (.long q0), .second, .val (.long q1), .second, .val (.long q2), .second, .val (.long q3), .second, .val (.long q4), .second, .val (.int p5), .val (.int (0 : Int32)), .val (.int t0), .val (.int t1), .val (.int t2), .val (.ref b1), .val (.ref b2), .val (.int (-1 : Int32))] [(.ref b1), (.ref b4), (.ref b4)]))
          refine own_go (fun _ q => XS.aload X4.here hx rfl (hb hby at_205) rfl rfl q) ?_
          show own_Go _ _ _ _ _ _ _ (T4.setTop (mkF m 207 #[.val (.long q0), .second, .val (.long q1), .second, .val (.long q2), .second, .val (.long q3), .second, .val (.long q4), .second, .val (.int p5), .val (.int (0 : Int32)), .val (.int t0), .val (.int t1), .val (.int t2), .val (.ref b1), .val (.ref b2), .val (.int (-1 : Int32))] [(.ref b2), (.ref b1), (.ref b4), (.ref b4)]))
          refine own_init X4 hx hZ rfl hown (hw _ (List.mem_of_getElem? (i := 8) rfl)) (hw _ (List.mem_of_getElem? (i := 9) rfl)) (hw _ (List.mem_of_getElem? (i := 7) rfl)) (hw _ (List.mem_of_getElem? (i := 10) rfl)) (by decide) e4 (a := b4) (argsL := [(.ref b1), (.ref b2)]) (rest := [(.ref b4)]) (rm2 l Z a0 hw [] b4 b1 b2 h4 n0 Z4 A4 Fn4_least Fn4_most G4) 1 (by decide) (by decide) (by decide) (by decide) (by rw [hml]; rfl) pd_3 rfl rfl (Nat.le_of_eq rfl) (hb hby at_207) rfl ?_
          intro v7 T7 L7 X7 hQ7
          obtain ⟨rfl, N7q, K7, Eb, Fb1, Fb2⟩ := hQ7
          have N7 := Fr.app N2 N7q
          show own_Go _ _ _ _ _ _ _ (T7.setTop (mkF m 210 #[.val (.long q0), .second, .val (.long q1), .second, .val (.long q2), .second, .val (.long q3), .second, .val (.long q4), .second, .val (.int p5), .val (.int (0 : Int32)), .val (.int t0), .val (.int t1), .val (.int t2), .val (.ref b1), .val (.ref b2), .val (.int (-1 : Int32))] [(.ref b4)]))
          have Z7 : n0 ≤ T7.heap.size := Nat.le_trans Z4 K7.1
          have f8 := ((B1.ext E4).keep K7 (ninS ne5 nin0))
          have f9 := ((B2.ext E4).keep K7 (ninS ne6 nin0))
          refine own_virtual X7 hx hZ hown (hw _ (List.mem_of_getElem? (i := 23) rfl)) (hw _ (List.mem_of_getElem? (i := 24) rfl)) (hw _ (List.mem_of_getElem? (i := 26) rfl)) (hw _ (List.mem_of_getElem? (i := 25) rfl)) (hw _ (List.mem_of_getElem? (i := 7) rfl)) (hw _ (List.mem_of_getElem? (i := 27) rfl)) (by decide) rfl (a := b4) Eb (argsL := []) (rest := []) (rm5 l Z a0 hw [] b4 b1 b2 (own_lo q0 q1 q2 q3 q4 t0 t1 t2) (own_hi q0 q1 q2 q3 q4 t0 t1 t2) 0 T7.heap n0 Z7 Fb1 Fb2 f8 f9 (by decide) (0 : Int32) rfl) 0 (by decide) (by decide) (by decide) (by decide) (by rw [hml]; rfl) pd_4 rfl rfl (Nat.le_of_eq rfl) (hb hby at_210) rfl ?_
          intro v10 T10 L10 X10 hQ10
          obtain ⟨r, rfl, N10q, e10q, hR⟩ := hQ10
          have N10 := Fr.app N7 N10q
          show own_Go _ _ _ _ _ _ _ (T10.setTop (mkF m 213 #[.val (.long q0), .second, .val (.long q1), .second, .val (.long q2), .second, .val (.long q3), .second, .val (.long q4), .second, .val (.int p5), .val (.int (0 : Int32)), .val (.int t0), .val (.int t1), .val (.int t2), .val (.ref b1), .val (.ref b2), .val (.int (-1 : Int32))] [(.int r)]))
          refine own_go (fun _ q => XS.iload X10.here hx rfl (hb hby at_213) rfl q) ?_
          show own_Go _ _ _ _ _ _ _ (T10.setTop (mkF m 215 #[.val (.long q0), .second, .val (.long q1), .second, .val (.long q2), .second, .val (.long q3), .second, .val (.long q4), .second, .val (.int p5), .val (.int (0 : Int32)), .val (.int t0), .val (.int t1), .val (.int t2), .val (.ref b1), .val (.ref b2), .val (.int (-1 : Int32))] [(.int (-1 : Int32)), (.int r)]))
          refine own_go (fun _ q => XS.icmpNo X10.here hx rfl (hb hby at_215) rfl (teq ((own_final (k := 0) hb0 hb1 hb2 (by decide) hR).trans (by simp [own_exp, *]))).2 q) ?_
          show own_Go _ _ _ _ _ _ _ (T10.setTop (mkF m 218 #[.val (.long q0), .second, .val (.long q1), .second, .val (.long q2), .second, .val (.long q3), .second, .val (.long q4), .second, .val (.int p5), .val (.int (0 : Int32)), .val (.int t0), .val (.int t1), .val (.int t2), .val (.ref b1), .val (.ref b2), .val (.int (-1 : Int32))] []))
          refine own_go (fun _ q => XS.iconst X10.here hx rfl (hb hby at_218) q) ?_
          show own_Go _ _ _ _ _ _ _ (T10.setTop (mkF m 219 #[.val (.long q0), .second, .val (.long q1), .second, .val (.long q2), .second, .val (.long q3), .second, .val (.long q4), .second, .val (.int p5), .val (.int (0 : Int32)), .val (.int t0), .val (.int t1), .val (.int t2), .val (.ref b1), .val (.ref b2), .val (.int (-1 : Int32))] [(.int (1 : Int32))]))
          refine own_go (fun _ q => XS.goto X10.here hx rfl (pc0 := 219) (pc' := 223) rfl (hb hby at_219) (by decide) (by decide) q) ?_
          show own_Go _ _ _ _ _ _ _ (T10.setTop (mkF m 223 #[.val (.long q0), .second, .val (.long q1), .second, .val (.long q2), .second, .val (.long q3), .second, .val (.long q4), .second, .val (.int p5), .val (.int (0 : Int32)), .val (.int t0), .val (.int t1), .val (.int t2), .val (.ref b1), .val (.ref b2), .val (.int (-1 : Int32))] [(.int (1 : Int32))]))
          exact own_retZ X10 hx hlk hret (hb hby at_223) (by decide) (by decide) (by decide) ⟨rfl, N10⟩
        · rw [q]
          show own_Go _ _ _ _ _ _ _ (s₁.setTop (mkF m 52 #[.val (.long q0), .second, .val (.long q1), .second, .val (.long q2), .second, .val (.long q3), .second, .val (.long q4), .second, .val (.int p5), .val (.int (1 : Int32)), .val (.int t0), .val (.int t1), .val (.int t2), .unset, .unset, .unset] [(.int (1 : Int32))]))
          refine own_static X0 hx hZ hown (hw _ (List.mem_of_getElem? (i := 0) rfl)) (hw _ (List.mem_of_getElem? (i := 1) rfl)) (hw _ (List.mem_of_getElem? (i := 2) rfl)) (hw _ (List.mem_of_getElem? (i := 3) rfl)) (by decide) e0 (argsL := [(.int (1 : Int32))]) (rest := []) (rm1 l Z a0 hw [] (1 : Int32) 1 h0 n0 Z0 rfl (by decide)) 0 (by decide) (by decide) (by decide) (by decide) (by rw [hml]; rfl) pd_2 rfl rfl (Nat.le_of_eq rfl) (hb hby at_52) rfl ?_
          intro v11 T11 L11 X11 hQ11
          obtain ⟨b11, rfl, N11q, Ex11, G11, gb11, A11⟩ := hQ11
          have N11 := Fr.app N0 N11q
          show own_Go _ _ _ _ _ _ _ (T11.setTop (mkF m 55 #[.val (.long q0), .second, .val (.long q1), .second, .val (.long q2), .second, .val (.long q3), .second, .val (.long q4), .second, .val (.int p5), .val (.int (1 : Int32)), .val (.int t0), .val (.int t1), .val (.int t2), .unset, .unset, .unset] [(.ref b11)]))
          have Z11 : n0 ≤ T11.heap.size := Nat.le_trans Z0 Ex11.1
          refine own_go (fun _ q => XS.astore X11.here hx rfl (hb hby at_55) rfl rfl (l' := #[.val (.long q0), .second, .val (.long q1), .second, .val (.long q2), .second, .val (.long q3), .second, .val (.long q4), .second, .val (.int p5), .val (.int (1 : Int32)), .val (.int t0), .val (.int t1), .val (.int t2), .val (.ref b11), .unset, .unset]) rfl q) ?_
          show own_Go _ _ _ _ _ _ _ (T11.setTop (mkF m 57 #[.val (.long q0), .second, .val (.long q1), .second, .val (.long q2), .second, .val (.long q3), .second, .val (.long q4), .second, .val (.int p5), .val (.int (1 : Int32)), .val (.int t0), .val (.int t1), .val (.int t2), .val (.ref b11), .unset, .unset] []))
          refine own_go (fun _ q => XS.iload X11.here hx rfl (hb hby at_57) rfl q) ?_
          show own_Go _ _ _ _ _ _ _ (T11.setTop (mkF m 59 #[.val (.long q0), .second, .val (.long q1), .second, .val (.long q2), .second, .val (.long q3), .second, .val (.long q4), .second, .val (.int p5), .val (.int (1 : Int32)), .val (.int t0), .val (.int t1), .val (.int t2), .val (.ref b11), .unset, .unset] [(.int (1 : Int32))]))
          refine own_static X11 hx hZ hown (hw _ (List.mem_of_getElem? (i := 0) rfl)) (hw _ (List.mem_of_getElem? (i := 1) rfl)) (hw _ (List.mem_of_getElem? (i := 2) rfl)) (hw _ (List.mem_of_getElem? (i := 3) rfl)) (by decide) rfl (argsL := [(.int (1 : Int32))]) (rest := []) (rm1 l Z a0 hw [] (1 : Int32) 1 T11.heap n0 Z11 rfl (by decide)) 0 (by decide) (by decide) (by decide) (by decide) (by rw [hml]; rfl) pd_2 rfl rfl (Nat.le_of_eq rfl) (hb hby at_59) rfl ?_
          intro v12 T12 L12 X12 hQ12
          obtain ⟨b12, rfl, N12q, Ex12, G12, gb12, A12⟩ := hQ12
          have N12 := Fr.app N11 N12q
          show own_Go _ _ _ _ _ _ _ (T12.setTop (mkF m 62 #[.val (.long q0), .second, .val (.long q1), .second, .val (.long q2), .second, .val (.long q3), .second, .val (.long q4), .second, .val (.int p5), .val (.int (1 : Int32)), .val (.int t0), .val (.int t1), .val (.int t2), .val (.ref b11), .unset, .unset] [(.ref b12)]))
          have Z12 : n0 ≤ T12.heap.size := Nat.le_trans Z11 Ex12.1
          have neq : b11 ≠ b12 := Nat.ne_of_lt (Nat.lt_of_lt_of_eq (A11).lt gb12.symm)
          refine own_go (fun _ q => XS.astore X12.here hx rfl (hb hby at_62) rfl rfl (l' := #[.val (.long q0), .second, .val (.long q1), .second, .val (.long q2), .second, .val (.long q3), .second, .val (.long q4), .second, .val (.int p5), .val (.int (1 : Int32)), .val (.int t0), .val (.int t1), .val (.int t2), .val (.ref b11), .val (.ref b12), .unset]) rfl q) ?_
          show own_Go _ _ _ _ _ _ _ (T12.setTop (mkF m 64 #[.val (.long q0), .second, .val (.long q1), .second, .val (.long q2), .second, .val (.long q3), .second, .val (.long q4), .second, .val (.int p5), .val (.int (1 : Int32)), .val (.int t0), .val (.int t1), .val (.int t2), .val (.ref b11), .val (.ref b12), .unset] []))
          refine own_go (fun _ q => XS.iload X12.here hx rfl (hb hby at_64) rfl q) ?_
          show own_Go _ _ _ _ _ _ _ (T12.setTop (mkF m 66 #[.val (.long q0), .second, .val (.long q1), .second, .val (.long q2), .second, .val (.long q3), .second, .val (.long q4), .second, .val (.int p5), .val (.int (1 : Int32)), .val (.int t0), .val (.int t1), .val (.int t2), .val (.ref b11), .val (.ref b12), .unset] [(.int (1 : Int32))]))
          refine own_go (fun _ q => XS.ifNo X12.here hx rfl (hb hby at_66) rfl ((if0 _ _).trans (tlt (by decide : (0 : Int32) < (1 : Int32))).2.2.2) q) ?_
          show own_Go _ _ _ _ _ _ _ (T12.setTop (mkF m 69 #[.val (.long q0), .second, .val (.long q1), .second, .val (.long q2), .second, .val (.long q3), .second, .val (.long q4), .second, .val (.int p5), .val (.int (1 : Int32)), .val (.int t0), .val (.int t1), .val (.int t2), .val (.ref b11), .val (.ref b12), .unset] []))
          refine own_go (fun _ q => XS.aload X12.here hx rfl (hb hby at_69) rfl rfl q) ?_
          show own_Go _ _ _ _ _ _ _ (T12.setTop (mkF m 71 #[.val (.long q0), .second, .val (.long q1), .second, .val (.long q2), .second, .val (.long q3), .second, .val (.long q4), .second, .val (.int p5), .val (.int (1 : Int32)), .val (.int t0), .val (.int t1), .val (.int t2), .val (.ref b11), .val (.ref b12), .unset] [(.ref b11)]))
          refine own_go (fun _ q => XS.iconst X12.here hx rfl (hb hby at_71) q) ?_
          show own_Go _ _ _ _ _ _ _ (T12.setTop (mkF m 72 #[.val (.long q0), .second, .val (.long q1), .second, .val (.long q2), .second, .val (.long q3), .second, .val (.long q4), .second, .val (.int p5), .val (.int (1 : Int32)), .val (.int t0), .val (.int t1), .val (.int t2), .val (.ref b11), .val (.ref b12), .unset] [(.int (0 : Int32)), (.ref b11)]))
          refine own_go (fun _ q => XS.lloadN X12.here hx rfl (hb hby at_72) rfl q) ?_
          show own_Go _ _ _ _ _ _ _ (T12.setTop (mkF m 73 #[.val (.long q0), .second, .val (.long q1), .second, .val (.long q2), .second, .val (.long q3), .second, .val (.long q4), .second, .val (.int p5), .val (.int (1 : Int32)), .val (.int t0), .val (.int t1), .val (.int t2), .val (.ref b11), .val (.ref b12), .unset] [(.long q0), (.int (0 : Int32)), (.ref b11)]))
          refine own_go (fun _ q => XS.lload X12.here hx rfl (hb hby at_73) rfl q) ?_
          show own_Go _ _ _ _ _ _ _ (T12.setTop (mkF m 75 #[.val (.long q0), .second, .val (.long q1), .second, .val (.long q2), .second, .val (.long q3), .second, .val (.long q4), .second, .val (.int p5), .val (.int (1 : Int32)), .val (.int t0), .val (.int t1), .val (.int t2), .val (.ref b11), .val (.ref b12), .unset] [(.long q3), (.long q0), (.int (0 : Int32)), (.ref b11)]))
          refine own_go (fun _ q => XS.iload X12.here hx rfl (hb hby at_75) rfl q) ?_
          show own_Go _ _ _ _ _ _ _ (T12.setTop (mkF m 77 #[.val (.long q0), .second, .val (.long q1), .second, .val (.long q2), .second, .val (.long q3), .second, .val (.long q4), .second, .val (.int p5), .val (.int (1 : Int32)), .val (.int t0), .val (.int t1), .val (.int t2), .val (.ref b11), .val (.ref b12), .unset] [(.int t0), (.long q3), (.long q0), (.int (0 : Int32)), (.ref b11)]))
          refine own_static X12 hx hZ hown (hw _ (List.mem_of_getElem? (i := 28) rfl)) (hw _ (List.mem_of_getElem? (i := 29) rfl)) (hw _ (List.mem_of_getElem? (i := 2) rfl)) (hw _ (List.mem_of_getElem? (i := 30) rfl)) (by decide) rfl (argsL := [(.long q0), (.long q3), (.int t0)]) (rest := [(.int (0 : Int32)), (.ref b11)]) (rm6 l Z a0 hw [] q0 q3 t0 T12.heap n0 Z12) 2 (by decide) (by decide) (by decide) (by decide) (by rw [hml]; rfl) pd_5 rfl rfl (Nat.le_of_eq rfl) (hb hby at_77) rfl ?_
          intro v13 T13 L13 X13 hQ13
          obtain ⟨rfl, N13q, e13q⟩ := hQ13
          have N13 := Fr.app N12 N13q
          show own_Go _ _ _ _ _ _ _ (T13.setTop (mkF m 80 #[.val (.long q0), .second, .val (.long q1), .second, .val (.long q2), .second, .val (.long q3), .second, .val (.long q4), .second, .val (.int p5), .val (.int (1 : Int32)), .val (.int t0), .val (.int t1), .val (.int t2), .val (.ref b11), .val (.ref b12), .unset] [(.long (own_low q0 q3 t0)), (.int (0 : Int32)), (.ref b11)]))
          have f15 := (A11.ext Ex12)
          refine own_lastore X13 hx hZ e13q (i := 0) f15 rfl (by decide) (hb hby at_80) rfl ?_
          intro T14 h14 X14 e14 W14 A14
          have N14 := Fr.snoc X14 N13 G11
          have Z14 : n0 ≤ h14.size := by rw [W14.size]; exact Z12
          show own_Go _ _ _ _ _ _ _ (T14.setTop (mkF m 81 #[.val (.long q0), .second, .val (.long q1), .second, .val (.long q2), .second, .val (.long q3), .second, .val (.long q4), .second, .val (.int p5), .val (.int (1 : Int32)), .val (.int t0), .val (.int t1), .val (.int t2), .val (.ref b11), .val (.ref b12), .unset] []))
          refine own_go (fun _ q => XS.aload X14.here hx rfl (hb hby at_81) rfl rfl q) ?_
          show own_Go _ _ _ _ _ _ _ (T14.setTop (mkF m 83 #[.val (.long q0), .second, .val (.long q1), .second, .val (.long q2), .second, .val (.long q3), .second, .val (.long q4), .second, .val (.int p5), .val (.int (1 : Int32)), .val (.int t0), .val (.int t1), .val (.int t2), .val (.ref b11), .val (.ref b12), .unset] [(.ref b12)]))
          refine own_go (fun _ q => XS.iconst X14.here hx rfl (hb hby at_83) q) ?_
          show own_Go _ _ _ _ _ _ _ (T14.setTop (mkF m 84 #[.val (.long q0), .second, .val (.long q1), .second, .val (.long q2), .second, .val (.long q3), .second, .val (.long q4), .second, .val (.int p5), .val (.int (1 : Int32)), .val (.int t0), .val (.int t1), .val (.int t2), .val (.ref b11), .val (.ref b12), .unset] [(.int (0 : Int32)), (.ref b12)]))
          refine own_go (fun _ q => XS.lloadN X14.here hx rfl (hb hby at_84) rfl q) ?_
          show own_Go _ _ _ _ _ _ _ (T14.setTop (mkF m 85 #[.val (.long q0), .second, .val (.long q1), .second, .val (.long q2), .second, .val (.long q3), .second, .val (.long q4), .second, .val (.int p5), .val (.int (1 : Int32)), .val (.int t0), .val (.int t1), .val (.int t2), .val (.ref b11), .val (.ref b12), .unset] [(.long q0), (.int (0 : Int32)), (.ref b12)]))
          refine own_go (fun _ q => XS.lload X14.here hx rfl (hb hby at_85) rfl q) ?_
          show own_Go _ _ _ _ _ _ _ (T14.setTop (mkF m 87 #[.val (.long q0), .second, .val (.long q1), .second, .val (.long q2), .second, .val (.long q3), .second, .val (.long q4), .second, .val (.int p5), .val (.int (1 : Int32)), .val (.int t0), .val (.int t1), .val (.int t2), .val (.ref b11), .val (.ref b12), .unset] [(.long q3), (.long q0), (.int (0 : Int32)), (.ref b12)]))
          refine own_go (fun _ q => XS.iload X14.here hx rfl (hb hby at_87) rfl q) ?_
          show own_Go _ _ _ _ _ _ _ (T14.setTop (mkF m 89 #[.val (.long q0), .second, .val (.long q1), .second, .val (.long q2), .second, .val (.long q3), .second, .val (.long q4), .second, .val (.int p5), .val (.int (1 : Int32)), .val (.int t0), .val (.int t1), .val (.int t2), .val (.ref b11), .val (.ref b12), .unset] [(.int t0), (.long q3), (.long q0), (.int (0 : Int32)), (.ref b12)]))
          refine own_static X14 hx hZ hown (hw _ (List.mem_of_getElem? (i := 31) rfl)) (hw _ (List.mem_of_getElem? (i := 32) rfl)) (hw _ (List.mem_of_getElem? (i := 2) rfl)) (hw _ (List.mem_of_getElem? (i := 33) rfl)) (by decide) e14 (argsL := [(.long q0), (.long q3), (.int t0)]) (rest := [(.int (0 : Int32)), (.ref b12)]) (rm7 l Z a0 hw [] q0 q3 t0 h14 n0 Z14) 2 (by decide) (by decide) (by decide) (by decide) (by rw [hml]; rfl) pd_5 rfl rfl (Nat.le_of_eq rfl) (hb hby at_89) rfl ?_
          intro v16 T16 L16 X16 hQ16
          obtain ⟨rfl, N16q, e16q⟩ := hQ16
          have N16 := Fr.app N14 N16q
          show own_Go _ _ _ _ _ _ _ (T16.setTop (mkF m 92 #[.val (.long q0), .second, .val (.long q1), .second, .val (.long q2), .second, .val (.long q3), .second, .val (.long q4), .second, .val (.int p5), .val (.int (1 : Int32)), .val (.int t0), .val (.int t1), .val (.int t2), .val (.ref b11), .val (.ref b12), .unset] [(.long (own_high q0 q3 t0)), (.int (0 : Int32)), (.ref b12)]))
          have f18 := (A12.other W14 (Ne.symm neq))
          refine own_lastore X16 hx hZ e16q (i := 0) f18 rfl (by decide) (hb hby at_92) rfl ?_
          intro T17 h17 X17 e17 W17 A17
          have N17 := Fr.snoc X17 N16 G12
          have Z17 : n0 ≤ h17.size := by rw [W17.size]; exact Z14
          show own_Go _ _ _ _ _ _ _ (T17.setTop (mkF m 93 #[.val (.long q0), .second, .val (.long q1), .second, .val (.long q2), .second, .val (.long q3), .second, .val (.long q4), .second, .val (.int p5), .val (.int (1 : Int32)), .val (.int t0), .val (.int t1), .val (.int t2), .val (.ref b11), .val (.ref b12), .unset] []))
          refine own_go (fun _ q => XS.iload X17.here hx rfl (hb hby at_93) rfl q) ?_
          show own_Go _ _ _ _ _ _ _ (T17.setTop (mkF m 95 #[.val (.long q0), .second, .val (.long q1), .second, .val (.long q2), .second, .val (.long q3), .second, .val (.long q4), .second, .val (.int p5), .val (.int (1 : Int32)), .val (.int t0), .val (.int t1), .val (.int t2), .val (.ref b11), .val (.ref b12), .unset] [(.int (1 : Int32))]))
          refine own_go (fun _ q => XS.iconst X17.here hx rfl (hb hby at_95) q) ?_
          show own_Go _ _ _ _ _ _ _ (T17.setTop (mkF m 96 #[.val (.long q0), .second, .val (.long q1), .second, .val (.long q2), .second, .val (.long q3), .second, .val (.long q4), .second, .val (.int p5), .val (.int (1 : Int32)), .val (.int t0), .val (.int t1), .val (.int t2), .val (.ref b11), .val (.ref b12), .unset] [(.int (1 : Int32)), (.int (1 : Int32))]))
          refine own_go (fun _ q => XS.icmpYes X17.here hx rfl (pc0 := 96) (pc' := 123) rfl (hb hby at_96) rfl (flt (by decide : ¬ ((1 : Int32) < (1 : Int32)))).2.2.2 (by decide) (by decide) q) ?_
          show own_Go _ _ _ _ _ _ _ (T17.setTop (mkF m 123 #[.val (.long q0), .second, .val (.long q1), .second, .val (.long q2), .second, .val (.long q3), .second, .val (.long q4), .second, .val (.int p5), .val (.int (1 : Int32)), .val (.int t0), .val (.int t1), .val (.int t2), .val (.ref b11), .val (.ref b12), .unset] []))
          refine own_go (fun _ q => XS.iload X17.here hx rfl (hb hby at_123) rfl q) ?_
          show own_Go _ _ _ _ _ _ _ (T17.setTop (mkF m 125 #[.val (.long q0), .second, .val (.long q1), .second, .val (.long q2), .second, .val (.long q3), .second, .val (.long q4), .second, .val (.int p5), .val (.int (1 : Int32)), .val (.int t0), .val (.int t1), .val (.int t2), .val (.ref b11), .val (.ref b12), .unset] [(.int (1 : Int32))]))
          refine own_go (fun _ q => XS.iconst X17.here hx rfl (hb hby at_125) q) ?_
          show own_Go _ _ _ _ _ _ _ (T17.setTop (mkF m 126 #[.val (.long q0), .second, .val (.long q1), .second, .val (.long q2), .second, .val (.long q3), .second, .val (.long q4), .second, .val (.int p5), .val (.int (1 : Int32)), .val (.int t0), .val (.int t1), .val (.int t2), .val (.ref b11), .val (.ref b12), .unset] [(.int (2 : Int32)), (.int (1 : Int32))]))
          refine own_go (fun _ q => XS.icmpYes X17.here hx rfl (pc0 := 126) (pc' := 155) rfl (hb hby at_126) rfl (flt (by decide : ¬ ((2 : Int32) < (1 : Int32)))).2.2.2 (by decide) (by decide) q) ?_
          show own_Go _ _ _ _ _ _ _ (T17.setTop (mkF m 155 #[.val (.long q0), .second, .val (.long q1), .second, .val (.long q2), .second, .val (.long q3), .second, .val (.long q4), .second, .val (.int p5), .val (.int (1 : Int32)), .val (.int t0), .val (.int t1), .val (.int t2), .val (.ref b11), .val (.ref b12), .unset] []))
          have f19 := (A14.other W17 neq)
          have B1 : own_Ar Z h17 b11 .long 1 (fun j => .long (own_lo q0 q1 q2 q3 q4 t0 t1 t2 j)) := f19.eqv (fun j hj => by
              obtain rfl : j = 0 := by omega
              rfl)
          have B2 : own_Ar Z h17 b12 .long 1 (fun j => .long (own_hi q0 q1 q2 q3 q4 t0 t1 t2 j)) := A17.eqv (fun j hj => by
              obtain rfl : j = 0 := by omega
              rfl)
          refine own_go (fun _ q => XS.iconst X17.here hx rfl (hb hby at_155) q) ?_
          show own_Go _ _ _ _ _ _ _ (T17.setTop (mkF m 156 #[.val (.long q0), .second, .val (.long q1), .second, .val (.long q2), .second, .val (.long q3), .second, .val (.long q4), .second, .val (.int p5), .val (.int (1 : Int32)), .val (.int t0), .val (.int t1), .val (.int t2), .val (.ref b11), .val (.ref b12), .unset] [(.int (-1 : Int32))]))
          refine own_go (fun _ q => XS.istore X17.here hx rfl (hb hby at_156) rfl (l' := #[.val (.long q0), .second, .val (.long q1), .second, .val (.long q2), .second, .val (.long q3), .second, .val (.long q4), .second, .val (.int p5), .val (.int (1 : Int32)), .val (.int t0), .val (.int t1), .val (.int t2), .val (.ref b11), .val (.ref b12), .val (.int (-1 : Int32))]) rfl q) ?_
          show own_Go _ _ _ _ _ _ _ (T17.setTop (mkF m 158 #[.val (.long q0), .second, .val (.long q1), .second, .val (.long q2), .second, .val (.long q3), .second, .val (.long q4), .second, .val (.int p5), .val (.int (1 : Int32)), .val (.int t0), .val (.int t1), .val (.int t2), .val (.ref b11), .val (.ref b12), .val (.int (-1 : Int32))] []))
          refine own_go (fun _ q => XS.iload X17.here hx rfl (hb hby at_158) rfl q) ?_
          show own_Go _ _ _ _ _ _ _ (T17.setTop (mkF m 160 #[.val (.long q0), .second, .val (.long q1), .second, .val (.long q2), .second, .val (.long q3), .second, .val (.long q4), .second, .val (.int p5), .val (.int (1 : Int32)), .val (.int t0), .val (.int t1), .val (.int t2), .val (.ref b11), .val (.ref b12), .val (.int (-1 : Int32))] [(.int (1 : Int32))]))
          refine own_go (fun _ q => XS.iconst X17.here hx rfl (hb hby at_160) q) ?_
          show own_Go _ _ _ _ _ _ _ (T17.setTop (mkF m 161 #[.val (.long q0), .second, .val (.long q1), .second, .val (.long q2), .second, .val (.long q3), .second, .val (.long q4), .second, .val (.int p5), .val (.int (1 : Int32)), .val (.int t0), .val (.int t1), .val (.int t2), .val (.ref b11), .val (.ref b12), .val (.int (-1 : Int32))] [(.int (2 : Int32)), (.int (1 : Int32))]))
          refine own_go (fun _ q => XS.icmpYes X17.here hx rfl (pc0 := 161) (pc' := 172) rfl (hb hby at_161) rfl (flt (by decide : ¬ ((2 : Int32) < (1 : Int32)))).2.2.2 (by decide) (by decide) q) ?_
          show own_Go _ _ _ _ _ _ _ (T17.setTop (mkF m 172 #[.val (.long q0), .second, .val (.long q1), .second, .val (.long q2), .second, .val (.long q3), .second, .val (.long q4), .second, .val (.int p5), .val (.int (1 : Int32)), .val (.int t0), .val (.int t1), .val (.int t2), .val (.ref b11), .val (.ref b12), .val (.int (-1 : Int32))] []))
          refine own_go (fun _ q => XS.iload X17.here hx rfl (hb hby at_172) rfl q) ?_
          show own_Go _ _ _ _ _ _ _ (T17.setTop (mkF m 174 #[.val (.long q0), .second, .val (.long q1), .second, .val (.long q2), .second, .val (.long q3), .second, .val (.long q4), .second, .val (.int p5), .val (.int (1 : Int32)), .val (.int t0), .val (.int t1), .val (.int t2), .val (.ref b11), .val (.ref b12), .val (.int (-1 : Int32))] [(.int (1 : Int32))]))
          refine own_go (fun _ q => XS.iconst X17.here hx rfl (hb hby at_174) q) ?_
          show own_Go _ _ _ _ _ _ _ (T17.setTop (mkF m 175 #[.val (.long q0), .second, .val (.long q1), .second, .val (.long q2), .second, .val (.long q3), .second, .val (.long q4), .second, .val (.int p5), .val (.int (1 : Int32)), .val (.int t0), .val (.int t1), .val (.int t2), .val (.ref b11), .val (.ref b12), .val (.int (-1 : Int32))] [(.int (1 : Int32)), (.int (1 : Int32))]))
          refine own_go (fun _ q => XS.icmpYes X17.here hx rfl (pc0 := 175) (pc' := 186) rfl (hb hby at_175) rfl (flt (by decide : ¬ ((1 : Int32) < (1 : Int32)))).2.2.2 (by decide) (by decide) q) ?_
          show own_Go _ _ _ _ _ _ _ (T17.setTop (mkF m 186 #[.val (.long q0), .second, .val (.long q1), .second, .val (.long q2), .second, .val (.long q3), .second, .val (.long q4), .second, .val (.int p5), .val (.int (1 : Int32)), .val (.int t0), .val (.int t1), .val (.int t2), .val (.ref b11), .val (.ref b12), .val (.int (-1 : Int32))] []))
          refine own_go (fun _ q => XS.iload X17.here hx rfl (hb hby at_186) rfl q) ?_
          show own_Go _ _ _ _ _ _ _ (T17.setTop (mkF m 188 #[.val (.long q0), .second, .val (.long q1), .second, .val (.long q2), .second, .val (.long q3), .second, .val (.long q4), .second, .val (.int p5), .val (.int (1 : Int32)), .val (.int t0), .val (.int t1), .val (.int t2), .val (.ref b11), .val (.ref b12), .val (.int (-1 : Int32))] [(.int (1 : Int32))]))
          refine own_go (fun _ q => XS.ifNo X17.here hx rfl (hb hby at_188) rfl ((if0 _ _).trans (tlt (by decide : (0 : Int32) < (1 : Int32))).2.2.2) q) ?_
          show own_Go _ _ _ _ _ _ _ (T17.setTop (mkF m 191 #[.val (.long q0), .second, .val (.long q1), .second, .val (.long q2), .second, .val (.long q3), .second, .val (.long q4), .second, .val (.int p5), .val (.int (1 : Int32)), .val (.int t0), .val (.int t1), .val (.int t2), .val (.ref b11), .val (.ref b12), .val (.int (-1 : Int32))] []))
          refine own_go (fun _ q => XS.iload X17.here hx rfl (hb hby at_191) rfl q) ?_
          show own_Go _ _ _ _ _ _ _ (T17.setTop (mkF m 193 #[.val (.long q0), .second, .val (.long q1), .second, .val (.long q2), .second, .val (.long q3), .second, .val (.long q4), .second, .val (.int p5), .val (.int (1 : Int32)), .val (.int t0), .val (.int t1), .val (.int t2), .val (.ref b11), .val (.ref b12), .val (.int (-1 : Int32))] [(.int t0)]))
          by_cases hc193_20 : t0 = (0 : Int32)
          · refine own_go (fun _ q => XS.ifYes X17.here hx rfl (pc0 := 193) (pc' := 199) rfl (hb hby at_193) rfl ((if0 _ _).trans (teq hc193_20).1) (by decide) (by decide) q) ?_
            show own_Go _ _ _ _ _ _ _ (T17.setTop (mkF m 199 #[.val (.long q0), .second, .val (.long q1), .second, .val (.long q2), .second, .val (.long q3), .second, .val (.long q4), .second, .val (.int p5), .val (.int (1 : Int32)), .val (.int t0), .val (.int t1), .val (.int t2), .val (.ref b11), .val (.ref b12), .val (.int (-1 : Int32))] []))
            obtain ⟨T21, h21, X21, e21, E21, A21, D21, -, st21⟩ := newO X17 hx hZ hown (hw _ (List.mem_of_getElem? (i := 5) rfl)) (hw _ (List.mem_of_getElem? (i := 6) rfl)) (hw _ (List.mem_of_getElem? (i := 7) rfl)) e17 (g := (mkF m 199 #[.val (.long q0), .second, .val (.long q1), .second, .val (.long q2), .second, .val (.long q3), .second, .val (.long q4), .second, .val (.int p5), .val (.int (1 : Int32)), .val (.int t0), .val (.int t1), .val (.int t2), .val (.ref b11), .val (.ref b12), .val (.int (-1 : Int32))] [])) rfl (hb hby at_199) (by decide) (by decide)
            obtain ⟨b21, g21⟩ : ∃ z, z = h17.size := ⟨_, rfl⟩
            rw [← g21] at A21 D21 st21
            have ne22 : b11 ≠ b21 := Nat.ne_of_lt (Nat.lt_of_lt_of_eq (B1).lt g21.symm)
            have ne23 : b12 ≠ b21 := Nat.ne_of_lt (Nat.lt_of_lt_of_eq (B2).lt g21.symm)
            have G21 : n0 ≤ b21 := by have := Z17; omega
            have Z21 : n0 ≤ h21.size := Nat.le_trans Z17 E21.1
            have Fn21_least : Fld Z h21 b21 "com/example/slotwright/slotwright/SplitBox" "least" "[J" .null := D21 (Or.inr (hw _ (List.mem_of_getElem? (i := 20) rfl))) (ty := (.array .long)) (by decide)
            have Fn21_most : Fld Z h21 b21 "com/example/slotwright/slotwright/SplitBox" "most" "[J" .null := D21 (Or.inr (hw _ (List.mem_of_getElem? (i := 22) rfl))) (ty := (.array .long)) (by decide)
            refine own_go st21 ?_
            show own_Go _ _ _ _ _ _ _ (T21.setTop (mkF m 202 #[.val (.long q0), .second, .val (.long q1), .second, .val (.long q2), .second, .val (.long q3), .second, .val (.long q4), .second, .val (.int p5), .val (.int (1 : Int32)), .val (.int t0), .val (.int t1), .val (.int t2), .val (.ref b11), .val (.ref b12), .val (.int (-1 : Int32))] [(.ref b21)]))
            refine own_go (fun _ q => XS.dup X21.here hx rfl (hb hby at_202) rfl rfl q) ?_
            show own_Go _ _ _ _ _ _ _ (T21.setTop (mkF m 203 #[.val (.long q0), .second, .val (.long q1), .second, .val (.long q2), .second, .val (.long q3), .second, .val (.long q4), .second, .val (.int p5), .val (.int (1 : Int32)), .val (.int t0), .val (.int t1), .val (.int t2), .val (.ref b11), .val (.ref b12), .val (.int (-1 : Int32))] [(.ref b21), (.ref b21)]))
            refine own_go (fun _ q => XS.aload X21.here hx rfl (hb hby at_203) rfl rfl q) ?_
            show own_Go _ _ _ _ _ _ _ (T21.setTop (mkF m 205 #[.val (.long q0), .second, .val (.long q1), .second, .val (.long q2), .second, .val (.long q3), .second, .val (.long q4), .second, .val (.int p5), .val (.int (1 : Int32)), .val (.int t0), .val (.int t1), .val (.int t2), .val (.ref b11), .val (.ref b12), .val (.int (-1 : Int32))] [(.ref b11), (.ref b21), (.ref b21)]))
            refine own_go (fun _ q => XS.aload X21.here hx rfl (hb hby at_205) rfl rfl q) ?_
            show own_Go _ _ _ _ _ _ _ (T21.setTop (mkF m 207 #[.val (.long q0), .second, .val (.long q1), .second, .val (.long q2), .second, .val (.long q3), .second, .val (.long q4), .second, .val (.int p5), .val (.int (1 : Int32)), .val (.int t0), .val (.int t1), .val (.int t2), .val (.ref b11), .val (.ref b12), .val (.int (-1 : Int32))] [(.ref b12), (.ref b11), (.ref b21), (.ref b21)]))
            refine own_init X21 hx hZ rfl hown (hw _ (List.mem_of_getElem? (i := 8) rfl)) (hw _ (List.mem_of_getElem? (i := 9) rfl)) (hw _ (List.mem_of_getElem? (i := 7) rfl)) (hw _ (List.mem_of_getElem? (i := 10) rfl)) (by decide) e21 (a := b21) (argsL := [(.ref b11), (.ref b12)]) (rest := [(.ref b21)]) (rm2 l Z a0 hw [] b21 b11 b12 h21 n0 Z21 A21 Fn21_least Fn21_most G21) 1 (by decide) (by decide) (by decide) (by decide) (by rw [hml]; rfl) pd_3 rfl rfl (Nat.le_of_eq rfl) (hb hby at_207) rfl ?_
            intro v24 T24 L24 X24 hQ24
            obtain ⟨rfl, N24q, K24, Eb, Fb1, Fb2⟩ := hQ24
            have N24 := Fr.app N17 N24q
            show own_Go _ _ _ _ _ _ _ (T24.setTop (mkF m 210 #[.val (.long q0), .second, .val (.long q1), .second, .val (.long q2), .second, .val (.long q3), .second, .val (.long q4), .second, .val (.int p5), .val (.int (1 : Int32)), .val (.int t0), .val (.int t1), .val (.int t2), .val (.ref b11), .val (.ref b12), .val (.int (-1 : Int32))] [(.ref b21)]))
            have Z24 : n0 ≤ T24.heap.size := Nat.le_trans Z21 K24.1
            have f25 := ((B1.ext E21).keep K24 (ninS ne22 nin0))
            have f26 := ((B2.ext E21).keep K24 (ninS ne23 nin0))
            refine own_virtual X24 hx hZ hown (hw _ (List.mem_of_getElem? (i := 23) rfl)) (hw _ (List.mem_of_getElem? (i := 24) rfl)) (hw _ (List.mem_of_getElem? (i := 26) rfl)) (hw _ (List.mem_of_getElem? (i := 25) rfl)) (hw _ (List.mem_of_getElem? (i := 7) rfl)) (hw _ (List.mem_of_getElem? (i := 27) rfl)) (by decide) rfl (a := b21) Eb (argsL := []) (rest := []) (rm5 l Z a0 hw [] b21 b11 b12 (own_lo q0 q1 q2 q3 q4 t0 t1 t2) (own_hi q0 q1 q2 q3 q4 t0 t1 t2) 1 T24.heap n0 Z24 Fb1 Fb2 f25 f26 (by decide) (1 : Int32) rfl) 0 (by decide) (by decide) (by decide) (by decide) (by rw [hml]; rfl) pd_4 rfl rfl (Nat.le_of_eq rfl) (hb hby at_210) rfl ?_
            intro v27 T27 L27 X27 hQ27
            obtain ⟨r, rfl, N27q, e27q, hR⟩ := hQ27
            have N27 := Fr.app N24 N27q
            show own_Go _ _ _ _ _ _ _ (T27.setTop (mkF m 213 #[.val (.long q0), .second, .val (.long q1), .second, .val (.long q2), .second, .val (.long q3), .second, .val (.long q4), .second, .val (.int p5), .val (.int (1 : Int32)), .val (.int t0), .val (.int t1), .val (.int t2), .val (.ref b11), .val (.ref b12), .val (.int (-1 : Int32))] [(.int r)]))
            refine own_go (fun _ q => XS.iload X27.here hx rfl (hb hby at_213) rfl q) ?_
            show own_Go _ _ _ _ _ _ _ (T27.setTop (mkF m 215 #[.val (.long q0), .second, .val (.long q1), .second, .val (.long q2), .second, .val (.long q3), .second, .val (.long q4), .second, .val (.int p5), .val (.int (1 : Int32)), .val (.int t0), .val (.int t1), .val (.int t2), .val (.ref b11), .val (.ref b12), .val (.int (-1 : Int32))] [(.int (-1 : Int32)), (.int r)]))
            refine own_go (fun _ q => XS.icmpNo X27.here hx rfl (hb hby at_215) rfl (teq ((own_final (k := 1) hb0 hb1 hb2 (by decide) hR).trans (by simp [own_exp, *]))).2 q) ?_
            show own_Go _ _ _ _ _ _ _ (T27.setTop (mkF m 218 #[.val (.long q0), .second, .val (.long q1), .second, .val (.long q2), .second, .val (.long q3), .second, .val (.long q4), .second, .val (.int p5), .val (.int (1 : Int32)), .val (.int t0), .val (.int t1), .val (.int t2), .val (.ref b11), .val (.ref b12), .val (.int (-1 : Int32))] []))
            refine own_go (fun _ q => XS.iconst X27.here hx rfl (hb hby at_218) q) ?_
            show own_Go _ _ _ _ _ _ _ (T27.setTop (mkF m 219 #[.val (.long q0), .second, .val (.long q1), .second, .val (.long q2), .second, .val (.long q3), .second, .val (.long q4), .second, .val (.int p5), .val (.int (1 : Int32)), .val (.int t0), .val (.int t1), .val (.int t2), .val (.ref b11), .val (.ref b12), .val (.int (-1 : Int32))] [(.int (1 : Int32))]))
            refine own_go (fun _ q => XS.goto X27.here hx rfl (pc0 := 219) (pc' := 223) rfl (hb hby at_219) (by decide) (by decide) q) ?_
            show own_Go _ _ _ _ _ _ _ (T27.setTop (mkF m 223 #[.val (.long q0), .second, .val (.long q1), .second, .val (.long q2), .second, .val (.long q3), .second, .val (.long q4), .second, .val (.int p5), .val (.int (1 : Int32)), .val (.int t0), .val (.int t1), .val (.int t2), .val (.ref b11), .val (.ref b12), .val (.int (-1 : Int32))] [(.int (1 : Int32))]))
            exact own_retZ X27 hx hlk hret (hb hby at_223) (by decide) (by decide) (by decide) ⟨rfl, N27⟩
          · refine own_go (fun _ q => XS.ifNo X17.here hx rfl (hb hby at_193) rfl ((if0 _ _).trans (feq hc193_20).1) q) ?_
            show own_Go _ _ _ _ _ _ _ (T17.setTop (mkF m 196 #[.val (.long q0), .second, .val (.long q1), .second, .val (.long q2), .second, .val (.long q3), .second, .val (.long q4), .second, .val (.int p5), .val (.int (1 : Int32)), .val (.int t0), .val (.int t1), .val (.int t2), .val (.ref b11), .val (.ref b12), .val (.int (-1 : Int32))] []))
            refine own_go (fun _ q => XS.iconst X17.here hx rfl (hb hby at_196) q) ?_
            show own_Go _ _ _ _ _ _ _ (T17.setTop (mkF m 197 #[.val (.long q0), .second, .val (.long q1), .second, .val (.long q2), .second, .val (.long q3), .second, .val (.long q4), .second, .val (.int p5), .val (.int (1 : Int32)), .val (.int t0), .val (.int t1), .val (.int t2), .val (.ref b11), .val (.ref b12), .val (.int (-1 : Int32))] [(.int (0 : Int32))]))
            refine own_go (fun _ q => XS.istore X17.here hx rfl (hb hby at_197) rfl (l' := #[.val (.long q0), .second, .val (.long q1), .second, .val (.long q2), .second, .val (.long q3), .second, .val (.long q4), .second, .val (.int p5), .val (.int (1 : Int32)), .val (.int t0), .val (.int t1), .val (.int t2), .val (.ref b11), .val (.ref b12), .val (.int (0 : Int32))]) rfl q) ?_
            show own_Go _ _ _ _ _ _ _ (T17.setTop (mkF m 199 #[.val (.long q0), .second, .val (.long q1), .second, .val (.long q2), .second, .val (.long q3), .second, .val (.long q4), .second, .val (.int p5), .val (.int (1 : Int32)), .val (.int t0), .val (.int t1), .val (.int t2), .val (.ref b11), .val (.ref b12), .val (.int (0 : Int32))] []))
            obtain ⟨T28, h28, X28, e28, E28, A28, D28, -, st28⟩ := newO X17 hx hZ hown (hw _ (List.mem_of_getElem? (i := 5) rfl)) (hw _ (List.mem_of_getElem? (i := 6) rfl)) (hw _ (List.mem_of_getElem? (i := 7) rfl)) e17 (g := (mkF m 199 #[.val (.long q0), .second, .val (.long q1), .second, .val (.long q2), .second, .val (.long q3), .second, .val (.long q4), .second, .val (.int p5), .val (.int (1 : Int32)), .val (.int t0), .val (.int t1), .val (.int t2), .val (.ref b11), .val (.ref b12), .val (.int (0 : Int32))] [])) rfl (hb hby at_199) (by decide) (by decide)
            obtain ⟨b28, g28⟩ : ∃ z, z = h17.size := ⟨_, rfl⟩
            rw [← g28] at A28 D28 st28
            have ne29 : b11 ≠ b28 := Nat.ne_of_lt (Nat.lt_of_lt_of_eq (B1).lt g28.symm)
            have ne30 : b12 ≠ b28 := Nat.ne_of_lt (Nat.lt_of_lt_of_eq (B2).lt g28.symm)
            have G28 : n0 ≤ b28 := by have := Z17; omega
            have Z28 : n0 ≤ h28.size := Nat.le_trans Z17 E28.1
            have Fn28_least : Fld Z h28 b28 "com/example/slotwright/slotwright/SplitBox" "least" "[J" .null := D28 (Or.inr (hw _ (List.mem_of_getElem? (i := 20) rfl))) (ty := (.array .long)) (by decide)
            have Fn28_most : Fld Z h28 b28 "com/example/slotwright/slotwright/SplitBox" "most" "[J" .null := D28 (Or.inr (hw _ (List.mem_of_getElem? (i := 22) rfl))) (ty := (.array .long)) (by decide)
            refine own_go st28 ?_
            show own_Go _ _ _ _ _ _ _ (T28.setTop (mkF m 202 #[.val (.long q0), .second, .val (.long q1), .second, .val (.long q2), .second, .val (.long q3), .second, .val (.long q4), .second, .val (.int p5), .val (.int (1 : Int32)), .val (.int t0), .val (.int t1), .val (.int t2), .val (.ref b11), .val (.ref b12), .val (.int (0 : Int32))] [(.ref b28)]))
            refine own_go (fun _ q => XS.dup X28.here hx rfl (hb hby at_202) rfl rfl q) ?_
            show own_Go _ _ _ _ _ _ _ (T28.setTop (mkF m 203 #[.val (.long q0), .second, .val (.long q1), .second, .val (.long q2), .second, .val (.long q3), .second, .val (.long q4), .second, .val (.int p5), .val (.int (1 : Int32)), .val (.int t0), .val (.int t1), .val (.int t2), .val (.ref b11), .val (.ref b12), .val (.int (0 : Int32))] [(.ref b28), (.ref b28)]))
            refine own_go (fun _ q => XS.aload X28.here hx rfl (hb hby at_203) rfl rfl q) ?_
            show own_Go _ _ _ _ _ _ _ (T28.setTop (mkF m 205 #[.val (.long q0), .second, .val (.long q1), .second, .val (.long q2), .second, .val (.long q3), .second, .val (.long q4), .second, .val (.int p5), .val (.int (1 : Int32)), .val (.int t0), .val (.int t1), .val (.int t2), .val (.ref b11), .val (.ref b12), .val (.int (0 : Int32))] [(.ref b11), (.ref b28), (.ref b28)]))
            refine own_go (fun _ q => XS.aload X28.here hx rfl (hb hby at_205) rfl rfl q) ?_
            show own_Go _ _ _ _ _ _ _ (T28.setTop (mkF m 207 #[.val (.long q0), .second, .val (.long q1), .second, .val (.long q2), .second, .val (.long q3), .second, .val (.long q4), .second, .val (.int p5), .val (.int (1 : Int32)), .val (.int t0), .val (.int t1), .val (.int t2), .val (.ref b11), .val (.ref b12), .val (.int (0 : Int32))] [(.ref b12), (.ref b11), (.ref b28), (.ref b28)]))
            refine own_init X28 hx hZ rfl hown (hw _ (List.mem_of_getElem? (i := 8) rfl)) (hw _ (List.mem_of_getElem? (i := 9) rfl)) (hw _ (List.mem_of_getElem? (i := 7) rfl)) (hw _ (List.mem_of_getElem? (i := 10) rfl)) (by decide) e28 (a := b28) (argsL := [(.ref b11), (.ref b12)]) (rest := [(.ref b28)]) (rm2 l Z a0 hw [] b28 b11 b12 h28 n0 Z28 A28 Fn28_least Fn28_most G28) 1 (by decide) (by decide) (by decide) (by decide) (by rw [hml]; rfl) pd_3 rfl rfl (Nat.le_of_eq rfl) (hb hby at_207) rfl ?_
            intro v31 T31 L31 X31 hQ31
            obtain ⟨rfl, N31q, K31, Eb, Fb1, Fb2⟩ := hQ31
            have N31 := Fr.app N17 N31q
            show own_Go _ _ _ _ _ _ _ (T31.setTop (mkF m 210 #[.val (.long q0), .second, .val (.long q1), .second, .val (.long q2), .second, .val (.long q3), .second, .val (.long q4), .second, .val (.int p5), .val (.int (1 : Int32)), .val (.int t0), .val (.int t1), .val (.int t2), .val (.ref b11), .val (.ref b12), .val (.int (0 : Int32))] [(.ref b28)]))
            have Z31 : n0 ≤ T31.heap.size := Nat.le_trans Z28 K31.1
            have f32 := ((B1.ext E28).keep K31 (ninS ne29 nin0))
            have f33 := ((B2.ext E28).keep K31 (ninS ne30 nin0))
            refine own_virtual X31 hx hZ hown (hw _ (List.mem_of_getElem? (i := 23) rfl)) (hw _ (List.mem_of_getElem? (i := 24) rfl)) (hw _ (List.mem_of_getElem? (i := 26) rfl)) (hw _ (List.mem_of_getElem? (i := 25) rfl)) (hw _ (List.mem_of_getElem? (i := 7) rfl)) (hw _ (List.mem_of_getElem? (i := 27) rfl)) (by decide) rfl (a := b28) Eb (argsL := []) (rest := []) (rm5 l Z a0 hw [] b28 b11 b12 (own_lo q0 q1 q2 q3 q4 t0 t1 t2) (own_hi q0 q1 q2 q3 q4 t0 t1 t2) 1 T31.heap n0 Z31 Fb1 Fb2 f32 f33 (by decide) (1 : Int32) rfl) 0 (by decide) (by decide) (by decide) (by decide) (by rw [hml]; rfl) pd_4 rfl rfl (Nat.le_of_eq rfl) (hb hby at_210) rfl ?_
            intro v34 T34 L34 X34 hQ34
            obtain ⟨r, rfl, N34q, e34q, hR⟩ := hQ34
            have N34 := Fr.app N31 N34q
            show own_Go _ _ _ _ _ _ _ (T34.setTop (mkF m 213 #[.val (.long q0), .second, .val (.long q1), .second, .val (.long q2), .second, .val (.long q3), .second, .val (.long q4), .second, .val (.int p5), .val (.int (1 : Int32)), .val (.int t0), .val (.int t1), .val (.int t2), .val (.ref b11), .val (.ref b12), .val (.int (0 : Int32))] [(.int r)]))
            refine own_go (fun _ q => XS.iload X34.here hx rfl (hb hby at_213) rfl q) ?_
            show own_Go _ _ _ _ _ _ _ (T34.setTop (mkF m 215 #[.val (.long q0), .second, .val (.long q1), .second, .val (.long q2), .second, .val (.long q3), .second, .val (.long q4), .second, .val (.int p5), .val (.int (1 : Int32)), .val (.int t0), .val (.int t1), .val (.int t2), .val (.ref b11), .val (.ref b12), .val (.int (0 : Int32))] [(.int (0 : Int32)), (.int r)]))
            refine own_go (fun _ q => XS.icmpNo X34.here hx rfl (hb hby at_215) rfl (teq ((own_final (k := 1) hb0 hb1 hb2 (by decide) hR).trans (by simp [own_exp, *]))).2 q) ?_
            show own_Go _ _ _ _ _ _ _ (T34.setTop (mkF m 218 #[.val (.long q0), .second, .val (.long q1), .second, .val (.long q2), .second, .val (.long q3), .second, .val (.long q4), .second, .val (.int p5), .val (.int (1 : Int32)), .val (.int t0), .val (.int t1), .val (.int t2), .val (.ref b11), .val (.ref b12), .val (.int (0 : Int32))] []))
            refine own_go (fun _ q => XS.iconst X34.here hx rfl (hb hby at_218) q) ?_
            show own_Go _ _ _ _ _ _ _ (T34.setTop (mkF m 219 #[.val (.long q0), .second, .val (.long q1), .second, .val (.long q2), .second, .val (.long q3), .second, .val (.long q4), .second, .val (.int p5), .val (.int (1 : Int32)), .val (.int t0), .val (.int t1), .val (.int t2), .val (.ref b11), .val (.ref b12), .val (.int (0 : Int32))] [(.int (1 : Int32))]))
            refine own_go (fun _ q => XS.goto X34.here hx rfl (pc0 := 219) (pc' := 223) rfl (hb hby at_219) (by decide) (by decide) q) ?_
            show own_Go _ _ _ _ _ _ _ (T34.setTop (mkF m 223 #[.val (.long q0), .second, .val (.long q1), .second, .val (.long q2), .second, .val (.long q3), .second, .val (.long q4), .second, .val (.int p5), .val (.int (1 : Int32)), .val (.int t0), .val (.int t1), .val (.int t2), .val (.ref b11), .val (.ref b12), .val (.int (0 : Int32))] [(.int (1 : Int32))]))
            exact own_retZ X34 hx hlk hret (hb hby at_223) (by decide) (by decide) (by decide) ⟨rfl, N34⟩
        · rw [q]
          show own_Go _ _ _ _ _ _ _ (s₁.setTop (mkF m 52 #[.val (.long q0), .second, .val (.long q1), .second, .val (.long q2), .second, .val (.long q3), .second, .val (.long q4), .second, .val (.int p5), .val (.int (2 : Int32)), .val (.int t0), .val (.int t1), .val (.int t2), .unset, .unset, .unset] [(.int (2 : Int32))]))
          refine own_static X0 hx hZ hown (hw _ (List.mem_of_getElem? (i := 0) rfl)) (hw _ (List.mem_of_getElem? (i := 1) rfl)) (hw _ (List.mem_of_getElem? (i := 2) rfl)) (hw _ (List.mem_of_getElem? (i := 3) rfl)) (by decide) e0 (argsL := [(.int (2 : Int32))]) (rest := []) (rm1 l Z a0 hw [] (2 : Int32) 2 h0 n0 Z0 rfl (by decide)) 0 (by decide) (by decide) (by decide) (by decide) (by rw [hml]; rfl) pd_2 rfl rfl (Nat.le_of_eq rfl) (hb hby at_52) rfl ?_
          intro v35 T35 L35 X35 hQ35
          obtain ⟨b35, rfl, N35q, Ex35, G35, gb35, A35⟩ := hQ35
          have N35 := Fr.app N0 N35q
          show own_Go _ _ _ _ _ _ _ (T35.setTop (mkF m 55 #[.val (.long q0), .second, .val (.long q1), .second, .val (.long q2), .second, .val (.long q3), .second, .val (.long q4), .second, .val (.int p5), .val (.int (2 : Int32)), .val (.int t0), .val (.int t1), .val (.int t2), .unset, .unset, .unset] [(.ref b35)]))
          have Z35 : n0 ≤ T35.heap.size := Nat.le_trans Z0 Ex35.1
          refine own_go (fun _ q => XS.astore X35.here hx rfl (hb hby at_55) rfl rfl (l' := #[.val (.long q0), .second, .val (.long q1), .second, .val (.long q2), .second, .val (.long q3), .second, .val (.long q4), .second, .val (.int p5), .val (.int (2 : Int32)), .val (.int t0), .val (.int t1), .val (.int t2), .val (.ref b35), .unset, .unset]) rfl q) ?_
          show own_Go _ _ _ _ _ _ _ (T35.setTop (mkF m 57 #[.val (.long q0), .second, .val (.long q1), .second, .val (.long q2), .second, .val (.long q3), .second, .val (.long q4), .second, .val (.int p5), .val (.int (2 : Int32)), .val (.int t0), .val (.int t1), .val (.int t2), .val (.ref b35), .unset, .unset] []))
          refine own_go (fun _ q => XS.iload X35.here hx rfl (hb hby at_57) rfl q) ?_
          show own_Go _ _ _ _ _ _ _ (T35.setTop (mkF m 59 #[.val (.long q0), .second, .val (.long q1), .second, .val (.long q2), .second, .val (.long q3), .second, .val (.long q4), .second, .val (.int p5), .val (.int (2 : Int32)), .val (.int t0), .val (.int t1), .val (.int t2), .val (.ref b35), .unset, .unset] [(.int (2 : Int32))]))
          refine own_static X35 hx hZ hown (hw _ (List.mem_of_getElem? (i := 0) rfl)) (hw _ (List.mem_of_getElem? (i := 1) rfl)) (hw _ (List.mem_of_getElem? (i := 2) rfl)) (hw _ (List.mem_of_getElem? (i := 3) rfl)) (by decide) rfl (argsL := [(.int (2 : Int32))]) (rest := []) (rm1 l Z a0 hw [] (2 : Int32) 2 T35.heap n0 Z35 rfl (by decide)) 0 (by decide) (by decide) (by decide) (by decide) (by rw [hml]; rfl) pd_2 rfl rfl (Nat.le_of_eq rfl) (hb hby at_59) rfl ?_
          intro v36 T36 L36 X36 hQ36
          obtain ⟨b36, rfl, N36q, Ex36, G36, gb36, A36⟩ := hQ36
          have N36 := Fr.app N35 N36q
          show own_Go _ _ _ _ _ _ _ (T36.setTop (mkF m 62 #[.val (.long q0), .second, .val (.long q1), .second, .val (.long q2), .second, .val (.long q3), .second, .val (.long q4), .second, .val (.int p5), .val (.int (2 : Int32)), .val (.int t0), .val (.int t1), .val (.int t2), .val (.ref b35), .unset, .unset] [(.ref b36)]))
          have Z36 : n0 ≤ T36.heap.size := Nat.le_trans Z35 Ex36.1
          have neq : b35 ≠ b36 := Nat.ne_of_lt (Nat.lt_of_lt_of_eq (A35).lt gb36.symm)
          refine own_go (fun _ q => XS.astore X36.here hx rfl (hb hby at_62) rfl rfl (l' := #[.val (.long q0), .second, .val (.long q1), .second, .val (.long q2), .second, .val (.long q3), .second, .val (.long q4), .second, .val (.int p5), .val (.int (2 : Int32)), .val (.int t0), .val (.int t1), .val (.int t2), .val (.ref b35), .val (.ref b36), .unset]) rfl q) ?_
          show own_Go _ _ _ _ _ _ _ (T36.setTop (mkF m 64 #[.val (.long q0), .second, .val (.long q1), .second, .val (.long q2), .second, .val (.long q3), .second, .val (.long q4), .second, .val (.int p5), .val (.int (2 : Int32)), .val (.int t0), .val (.int t1), .val (.int t2), .val (.ref b35), .val (.ref b36), .unset] []))
          refine own_go (fun _ q => XS.iload X36.here hx rfl (hb hby at_64) rfl q) ?_
          show own_Go _ _ _ _ _ _ _ (T36.setTop (mkF m 66 #[.val (.long q0), .second, .val (.long q1), .second, .val (.long q2), .second, .val (.long q3), .second, .val (.long q4), .second, .val (.int p5), .val (.int (2 : Int32)), .val (.int t0), .val (.int t1), .val (.int t2), .val (.ref b35), .val (.ref b36), .unset] [(.int (2 : Int32))]))
          refine own_go (fun _ q => XS.ifNo X36.here hx rfl (hb hby at_66) rfl ((if0 _ _).trans (tlt (by decide : (0 : Int32) < (2 : Int32))).2.2.2) q) ?_
          show own_Go _ _ _ _ _ _ _ (T36.setTop (mkF m 69 #[.val (.long q0), .second, .val (.long q1), .second, .val (.long q2), .second, .val (.long q3), .second, .val (.long q4), .second, .val (.int p5), .val (.int (2 : Int32)), .val (.int t0), .val (.int t1), .val (.int t2), .val (.ref b35), .val (.ref b36), .unset] []))
          refine own_go (fun _ q => XS.aload X36.here hx rfl (hb hby at_69) rfl rfl q) ?_
          show own_Go _ _ _ _ _ _ _ (T36.setTop (mkF m 71 #[.val (.long q0), .second, .val (.long q1), .second, .val (.long q2), .second, .val (.long q3), .second, .val (.long q4), .second, .val (.int p5), .val (.int (2 : Int32)), .val (.int t0), .val (.int t1), .val (.int t2), .val (.ref b35), .val (.ref b36), .unset] [(.ref b35)]))
          refine own_go (fun _ q => XS.iconst X36.here hx rfl (hb hby at_71) q) ?_
          show own_Go _ _ _ _ _ _ _ (T36.setTop (mkF m 72 #[.val (.long q0), .second, .val (.long q1), .second, .val (.long q2), .second, .val (.long q3), .second, .val (.long q4), .second, .val (.int p5), .val (.int (2 : Int32)), .val (.int t0), .val (.int t1), .val (.int t2), .val (.ref b35), .val (.ref b36), .unset] [(.int (0 : Int32)), (.ref b35)]))
          refine own_go (fun _ q => XS.lloadN X36.here hx rfl (hb hby at_72) rfl q) ?_
          show own_Go _ _ _ _ _ _ _ (T36.setTop (mkF m 73 #[.val (.long q0), .second, .val (.long q1), .second, .val (.long q2), .second, .val (.long q3), .second, .val (.long q4), .second, .val (.int p5), .val (.int (2 : Int32)), .val (.int t0), .val (.int t1), .val (.int t2), .val (.ref b35), .val (.ref b36), .unset] [(.long q0), (.int (0 : Int32)), (.ref b35)]))
          refine own_go (fun _ q => XS.lload X36.here hx rfl (hb hby at_73) rfl q) ?_
          show own_Go _ _ _ _ _ _ _ (T36.setTop (mkF m 75 #[.val (.long q0), .second, .val (.long q1), .second, .val (.long q2), .second, .val (.long q3), .second, .val (.long q4), .second, .val (.int p5), .val (.int (2 : Int32)), .val (.int t0), .val (.int t1), .val (.int t2), .val (.ref b35), .val (.ref b36), .unset] [(.long q3), (.long q0), (.int (0 : Int32)), (.ref b35)]))
          refine own_go (fun _ q => XS.iload X36.here hx rfl (hb hby at_75) rfl q) ?_
          show own_Go _ _ _ _ _ _ _ (T36.setTop (mkF m 77 #[.val (.long q0), .second, .val (.long q1), .second, .val (.long q2), .second, .val (.long q3), .second, .val (.long q4), .second, .val (.int p5), .val (.int (2 : Int32)), .val (.int t0), .val (.int t1), .val (.int t2), .val (.ref b35), .val (.ref b36), .unset] [(.int t0), (.long q3), (.long q0), (.int (0 : Int32)), (.ref b35)]))
          refine own_static X36 hx hZ hown (hw _ (List.mem_of_getElem? (i := 28) rfl)) (hw _ (List.mem_of_getElem? (i := 29) rfl)) (hw _ (List.mem_of_getElem? (i := 2) rfl)) (hw _ (List.mem_of_getElem? (i := 30) rfl)) (by decide) rfl (argsL := [(.long q0), (.long q3), (.int t0)]) (rest := [(.int (0 : Int32)), (.ref b35)]) (rm6 l Z a0 hw [] q0 q3 t0 T36.heap n0 Z36) 2 (by decide) (by decide) (by decide) (by decide) (by rw [hml]; rfl) pd_5 rfl rfl (Nat.le_of_eq rfl) (hb hby at_77) rfl ?_
          intro v37 T37 L37 X37 hQ37
          obtain ⟨rfl, N37q, e37q⟩ := hQ37
          have N37 := Fr.app N36 N37q
          show own_Go _ _ _ _ _ _ _ (T37.setTop (mkF m 80 #[.val (.long q0), .second, .val (.long q1), .second, .val (.long q2), .second, .val (.long q3), .second, .val (.long q4), .second, .val (.int p5), .val (.int (2 : Int32)), .val (.int t0), .val (.int t1), .val (.int t2), .val (.ref b35), .val (.ref b36), .unset] [(.long (own_low q0 q3 t0)), (.int (0 : Int32)), (.ref b35)]))
          have f39 := (A35.ext Ex36)
          refine own_lastore X37 hx hZ e37q (i := 0) f39 rfl (by decide) (hb hby at_80) rfl ?_
          intro T38 h38 X38 e38 W38 A38
          have N38 := Fr.snoc X38 N37 G35
          have Z38 : n0 ≤ h38.size := by rw [W38.size]; exact Z36
          show own_Go _ _ _ _ _ _ _ (T38.setTop (mkF m 81 #[.val (.long q0), .second, .val (.long q1), .second, .val (.long q2), .second, .val (.long q3), .second, .val (.long q4), .second, .val (.int p5), .val (.int (2 : Int32)), .val (.int t0), .val (.int t1), .val (.int t2), .val (.ref b35), .val (.ref b36), .unset] []))
          refine own_go (fun _ q => XS.aload X38.here hx rfl (hb hby at_81) rfl rfl q) ?_
          show own_Go _ _ _ _ _ _ _ (T38.setTop (mkF m 83 #[.val (.long q0), .second, .val (.long q1), .second, .val (.long q2), .second, .val (.long q3), .second, .val (.long q4), .second, .val (.int p5), .val (.int (2 : Int32)), .val (.int t0), .val (.int t1), .val (.int t2), .val (.ref b35), .val (.ref b36), .unset] [(.ref b36)]))
          refine own_go (fun _ q => XS.iconst X38.here hx rfl (hb hby at_83) q) ?_
          show own_Go _ _ _ _ _ _ _ (T38.setTop (mkF m 84 #[.val (.long q0), .second, .val (.long q1), .second, .val (.long q2), .second, .val (.long q3), .second, .val (.long q4), .second, .val (.int p5), .val (.int (2 : Int32)), .val (.int t0), .val (.int t1), .val (.int t2), .val (.ref b35), .val (.ref b36), .unset] [(.int (0 : Int32)), (.ref b36)]))
          refine own_go (fun _ q => XS.lloadN X38.here hx rfl (hb hby at_84) rfl q) ?_
          show own_Go _ _ _ _ _ _ _ (T38.setTop (mkF m 85 #[.val (.long q0), .second, .val (.long q1), .second, .val (.long q2), .second, .val (.long q3), .second, .val (.long q4), .second, .val (.int p5), .val (.int (2 : Int32)), .val (.int t0), .val (.int t1), .val (.int t2), .val (.ref b35), .val (.ref b36), .unset] [(.long q0), (.int (0 : Int32)), (.ref b36)]))
          refine own_go (fun _ q => XS.lload X38.here hx rfl (hb hby at_85) rfl q) ?_
          show own_Go _ _ _ _ _ _ _ (T38.setTop (mkF m 87 #[.val (.long q0), .second, .val (.long q1), .second, .val (.long q2), .second, .val (.long q3), .second, .val (.long q4), .second, .val (.int p5), .val (.int (2 : Int32)), .val (.int t0), .val (.int t1), .val (.int t2), .val (.ref b35), .val (.ref b36), .unset] [(.long q3), (.long q0), (.int (0 : Int32)), (.ref b36)]))
          refine own_go (fun _ q => XS.iload X38.here hx rfl (hb hby at_87) rfl q) ?_
          show own_Go _ _ _ _ _ _ _ (T38.setTop (mkF m 89 #[.val (.long q0), .second, .val (.long q1), .second, .val (.long q2), .second, .val (.long q3), .second, .val (.long q4), .second, .val (.int p5), .val (.int (2 : Int32)), .val (.int t0), .val (.int t1), .val (.int t2), .val (.ref b35), .val (.ref b36), .unset] [(.int t0), (.long q3), (.long q0), (.int (0 : Int32)), (.ref b36)]))
          refine own_static X38 hx hZ hown (hw _ (List.mem_of_getElem? (i := 31) rfl)) (hw _ (List.mem_of_getElem? (i := 32) rfl)) (hw _ (List.mem_of_getElem? (i := 2) rfl)) (hw _ (List.mem_of_getElem? (i := 33) rfl)) (by decide) e38 (argsL := [(.long q0), (.long q3), (.int t0)]) (rest := [(.int (0 : Int32)), (.ref b36)]) (rm7 l Z a0 hw [] q0 q3 t0 h38 n0 Z38) 2 (by decide) (by decide) (by decide) (by decide) (by rw [hml]; rfl) pd_5 rfl rfl (Nat.le_of_eq rfl) (hb hby at_89) rfl ?_
          intro v40 T40 L40 X40 hQ40
          obtain ⟨rfl, N40q, e40q⟩ := hQ40
          have N40 := Fr.app N38 N40q
          show own_Go _ _ _ _ _ _ _ (T40.setTop (mkF m 92 #[.val (.long q0), .second, .val (.long q1), .second, .val (.long q2), .second, .val (.long q3), .second, .val (.long q4), .second, .val (.int p5), .val (.int (2 : Int32)), .val (.int t0), .val (.int t1), .val (.int t2), .val (.ref b35), .val (.ref b36), .unset] [(.long (own_high q0 q3 t0)), (.int (0 : Int32)), (.ref b36)]))
          have f42 := (A36.other W38 (Ne.symm neq))
          refine own_lastore X40 hx hZ e40q (i := 0) f42 rfl (by decide) (hb hby at_92) rfl ?_
          intro T41 h41 X41 e41 W41 A41
          have N41 := Fr.snoc X41 N40 G36
          have Z41 : n0 ≤ h41.size := by rw [W41.size]; exact Z38
          show own_Go _ _ _ _ _ _ _ (T41.setTop (mkF m 93 #[.val (.long q0), .second, .val (.long q1), .second, .val (.long q2), .second, .val (.long q3), .second, .val (.long q4), .second, .val (.int p5), .val (.int (2 : Int32)), .val (.int t0), .val (.int t1), .val (.int t2), .val (.ref b35), .val (.ref b36), .unset] []))
          refine own_go (fun _ q => XS.iload X41.here hx rfl (hb hby at_93) rfl q) ?_
          show own_Go _ _ _ _ _ _ _ (T41.setTop (mkF m 95 #[.val (.long q0), .second, .val (.long q1), .second, .val (.long q2), .second, .val (.long q3), .second, .val (.long q4), .second, .val (.int p5), .val (.int (2 : Int32)), .val (.int t0), .val (.int t1), .val (.int t2), .val (.ref b35), .val (.ref b36), .unset] [(.int (2 : Int32))]))
          refine own_go (fun _ q => XS.iconst X41.here hx rfl (hb hby at_95) q) ?_
          show own_Go _ _ _ _ _ _ _ (T41.setTop (mkF m 96 #[.val (.long q0), .second, .val (.long q1), .second, .val (.long q2), .second, .val (.long q3), .second, .val (.long q4), .second, .val (.int p5), .val (.int (2 : Int32)), .val (.int t0), .val (.int t1), .val (.int t2), .val (.ref b35), .val (.ref b36), .unset] [(.int (1 : Int32)), (.int (2 : Int32))]))
          refine own_go (fun _ q => XS.icmpNo X41.here hx rfl (hb hby at_96) rfl (tlt (by decide : (1 : Int32) < (2 : Int32))).2.2.2 q) ?_
          show own_Go _ _ _ _ _ _ _ (T41.setTop (mkF m 99 #[.val (.long q0), .second, .val (.long q1), .second, .val (.long q2), .second, .val (.long q3), .second, .val (.long q4), .second, .val (.int p5), .val (.int (2 : Int32)), .val (.int t0), .val (.int t1), .val (.int t2), .val (.ref b35), .val (.ref b36), .unset] []))
          refine own_go (fun _ q => XS.aload X41.here hx rfl (hb hby at_99) rfl rfl q) ?_
          show own_Go _ _ _ _ _ _ _ (T41.setTop (mkF m 101 #[.val (.long q0), .second, .val (.long q1), .second, .val (.long q2), .second, .val (.long q3), .second, .val (.long q4), .second, .val (.int p5), .val (.int (2 : Int32)), .val (.int t0), .val (.int t1), .val (.int t2), .val (.ref b35), .val (.ref b36), .unset] [(.ref b35)]))
          refine own_go (fun _ q => XS.iconst X41.here hx rfl (hb hby at_101) q) ?_
          show own_Go _ _ _ _ _ _ _ (T41.setTop (mkF m 102 #[.val (.long q0), .second, .val (.long q1), .second, .val (.long q2), .second, .val (.long q3), .second, .val (.long q4), .second, .val (.int p5), .val (.int (2 : Int32)), .val (.int t0), .val (.int t1), .val (.int t2), .val (.ref b35), .val (.ref b36), .unset] [(.int (1 : Int32)), (.ref b35)]))
          refine own_go (fun _ q => XS.lloadN X41.here hx rfl (hb hby at_102) rfl q) ?_
          show own_Go _ _ _ _ _ _ _ (T41.setTop (mkF m 103 #[.val (.long q0), .second, .val (.long q1), .second, .val (.long q2), .second, .val (.long q3), .second, .val (.long q4), .second, .val (.int p5), .val (.int (2 : Int32)), .val (.int t0), .val (.int t1), .val (.int t2), .val (.ref b35), .val (.ref b36), .unset] [(.long q1), (.int (1 : Int32)), (.ref b35)]))
          refine own_go (fun _ q => XS.lload X41.here hx rfl (hb hby at_103) rfl q) ?_
          show own_Go _ _ _ _ _ _ _ (T41.setTop (mkF m 105 #[.val (.long q0), .second, .val (.long q1), .second, .val (.long q2), .second, .val (.long q3), .second, .val (.long q4), .second, .val (.int p5), .val (.int (2 : Int32)), .val (.int t0), .val (.int t1), .val (.int t2), .val (.ref b35), .val (.ref b36), .unset] [(.long q4), (.long q1), (.int (1 : Int32)), (.ref b35)]))
          refine own_go (fun _ q => XS.iload X41.here hx rfl (hb hby at_105) rfl q) ?_
          show own_Go _ _ _ _ _ _ _ (T41.setTop (mkF m 107 #[.val (.long q0), .second, .val (.long q1), .second, .val (.long q2), .second, .val (.long q3), .second, .val (.long q4), .second, .val (.int p5), .val (.int (2 : Int32)), .val (.int t0), .val (.int t1), .val (.int t2), .val (.ref b35), .val (.ref b36), .unset] [(.int t1), (.long q4), (.long q1), (.int (1 : Int32)), (.ref b35)]))
          refine own_static X41 hx hZ hown (hw _ (List.mem_of_getElem? (i := 28) rfl)) (hw _ (List.mem_of_getElem? (i := 29) rfl)) (hw _ (List.mem_of_getElem? (i := 2) rfl)) (hw _ (List.mem_of_getElem? (i := 30) rfl)) (by decide) e41 (argsL := [(.long q1), (.long q4), (.int t1)]) (rest := [(.int (1 : Int32)), (.ref b35)]) (rm6 l Z a0 hw [] q1 q4 t1 h41 n0 Z41) 2 (by decide) (by decide) (by decide) (by decide) (by rw [hml]; rfl) pd_5 rfl rfl (Nat.le_of_eq rfl) (hb hby at_107) rfl ?_
          intro v43 T43 L43 X43 hQ43
          obtain ⟨rfl, N43q, e43q⟩ := hQ43
          have N43 := Fr.app N41 N43q
          show own_Go _ _ _ _ _ _ _ (T43.setTop (mkF m 110 #[.val (.long q0), .second, .val (.long q1), .second, .val (.long q2), .second, .val (.long q3), .second, .val (.long q4), .second, .val (.int p5), .val (.int (2 : Int32)), .val (.int t0), .val (.int t1), .val (.int t2), .val (.ref b35), .val (.ref b36), .unset] [(.long (own_low q1 q4 t1)), (.int (1 : Int32)), (.ref b35)]))
          have f45 := (A38.other W41 neq)
          refine own_lastore X43 hx hZ e43q (i := 1) f45 rfl (by decide) (hb hby at_110) rfl ?_
          intro T44 h44 X44 e44 W44 A44
          have N44 := Fr.snoc X44 N43 G35
          have Z44 : n0 ≤ h44.size := by rw [W44.size]; exact Z41
          show own_Go _ _ _ _ _ _ _ (T44.setTop (mkF m 111 #[.val (.long q0), .second, .val (.long q1), .second, .val (.long q2), .second, .val (.long q3), .second, .val (.long q4), .second, .val (.int p5), .val (.int (2 : Int32)), .val (.int t0), .val (.int t1), .val (.int t2), .val (.ref b35), .val (.ref b36), .unset] []))
          refine own_go (fun _ q => XS.aload X44.here hx rfl (hb hby at_111) rfl rfl q) ?_
          show own_Go _ _ _ _ _ _ _ (T44.setTop (mkF m 113 #[.val (.long q0), .second, .val (.long q1), .second, .val (.long q2), .second, .val (.long q3), .second, .val (.long q4), .second, .val (.int p5), .val (.int (2 : Int32)), .val (.int t0), .val (.int t1), .val (.int t2), .val (.ref b35), .val (.ref b36), .unset] [(.ref b36)]))
          refine own_go (fun _ q => XS.iconst X44.here hx rfl (hb hby at_113) q) ?_
          show own_Go _ _ _ _ _ _ _ (T44.setTop (mkF m 114 #[.val (.long q0), .second, .val (.long q1), .second, .val (.long q2), .second, .val (.long q3), .second, .val (.long q4), .second, .val (.int p5), .val (.int (2 : Int32)), .val (.int t0), .val (.int t1), .val (.int t2), .val (.ref b35), .val (.ref b36), .unset] [(.int (1 : Int32)), (.ref b36)]))
          refine own_go (fun _ q => XS.lloadN X44.here hx rfl (hb hby at_114) rfl q) ?_
          show own_Go _ _ _ _ _ _ _ (T44.setTop (mkF m 115 #[.val (.long q0), .second, .val (.long q1), .second, .val (.long q2), .second, .val (.long q3), .second, .val (.long q4), .second, .val (.int p5), .val (.int (2 : Int32)), .val (.int t0), .val (.int t1), .val (.int t2), .val (.ref b35), .val (.ref b36), .unset] [(.long q1), (.int (1 : Int32)), (.ref b36)]))
          refine own_go (fun _ q => XS.lload X44.here hx rfl (hb hby at_115) rfl q) ?_
          show own_Go _ _ _ _ _ _ _ (T44.setTop (mkF m 117 #[.val (.long q0), .second, .val (.long q1), .second, .val (.long q2), .second, .val (.long q3), .second, .val (.long q4), .second, .val (.int p5), .val (.int (2 : Int32)), .val (.int t0), .val (.int t1), .val (.int t2), .val (.ref b35), .val (.ref b36), .unset] [(.long q4), (.long q1), (.int (1 : Int32)), (.ref b36)]))
          refine own_go (fun _ q => XS.iload X44.here hx rfl (hb hby at_117) rfl q) ?_
          show own_Go _ _ _ _ _ _ _ (T44.setTop (mkF m 119 #[.val (.long q0), .second, .val (.long q1), .second, .val (.long q2), .second, .val (.long q3), .second, .val (.long q4), .second, .val (.int p5), .val (.int (2 : Int32)), .val (.int t0), .val (.int t1), .val (.int t2), .val (.ref b35), .val (.ref b36), .unset] [(.int t1), (.long q4), (.long q1), (.int (1 : Int32)), (.ref b36)]))
          refine own_static X44 hx hZ hown (hw _ (List.mem_of_getElem? (i := 31) rfl)) (hw _ (List.mem_of_getElem? (i := 32) rfl)) (hw _ (List.mem_of_getElem? (i := 2) rfl)) (hw _ (List.mem_of_getElem? (i := 33) rfl)) (by decide) e44 (argsL := [(.long q1), (.long q4), (.int t1)]) (rest := [(.int (1 : Int32)), (.ref b36)]) (rm7 l Z a0 hw [] q1 q4 t1 h44 n0 Z44) 2 (by decide) (by decide) (by decide) (by decide) (by rw [hml]; rfl) pd_5 rfl rfl (Nat.le_of_eq rfl) (hb hby at_119) rfl ?_
          intro v46 T46 L46 X46 hQ46
          obtain ⟨rfl, N46q, e46q⟩ := hQ46
          have N46 := Fr.app N44 N46q
          show own_Go _ _ _ _ _ _ _ (T46.setTop (mkF m 122 #[.val (.long q0), .second, .val (.long q1), .second, .val (.long q2), .second, .val (.long q3), .second, .val (.long q4), .second, .val (.int p5), .val (.int (2 : Int32)), .val (.int t0), .val (.int t1), .val (.int t2), .val (.ref b35), .val (.ref b36), .unset] [(.long (own_high q1 q4 t1)), (.int (1 : Int32)), (.ref b36)]))
          have f48 := (A41.other W44 (Ne.symm neq))
          refine own_lastore X46 hx hZ e46q (i := 1) f48 rfl (by decide) (hb hby at_122) rfl ?_
          intro T47 h47 X47 e47 W47 A47
          have N47 := Fr.snoc X47 N46 G36
          have Z47 : n0 ≤ h47.size := by rw [W47.size]; exact Z44
          show own_Go _ _ _ _ _ _ _ (T47.setTop (mkF m 123 #[.val (.long q0), .second, .val (.long q1), .second, .val (.long q2), .second, .val (.long q3), .second, .val (.long q4), .second, .val (.int p5), .val (.int (2 : Int32)), .val (.int t0), .val (.int t1), .val (.int t2), .val (.ref b35), .val (.ref b36), .unset] []))
          refine own_go (fun _ q => XS.iload X47.here hx rfl (hb hby at_123) rfl q) ?_
          show own_Go _ _ _ _ _ _ _ (T47.setTop (mkF m 125 #[.val (.long q0), .second, .val (.long q1), .second, .val (.long q2), .second, .val (.long q3), .second, .val (.long q4), .second, .val (.int p5), .val (.int (2 : Int32)), .val (.int t0), .val (.int t1), .val (.int t2), .val (.ref b35), .val (.ref b36), .unset] [(.int (2 : Int32))]))
          refine own_go (fun _ q => XS.iconst X47.here hx rfl (hb hby at_125) q) ?_
          show own_Go _ _ _ _ _ _ _ (T47.setTop (mkF m 126 #[.val (.long q0), .second, .val (.long q1), .second, .val (.long q2), .second, .val (.long q3), .second, .val (.long q4), .second, .val (.int p5), .val (.int (2 : Int32)), .val (.int t0), .val (.int t1), .val (.int t2), .val (.ref b35), .val (.ref b36), .unset] [(.int (2 : Int32)), (.int (2 : Int32))]))
          refine own_go (fun _ q => XS.icmpYes X47.here hx rfl (pc0 := 126) (pc' := 155) rfl (hb hby at_126) rfl (flt (by decide : ¬ ((2 : Int32) < (2 : Int32)))).2.2.2 (by decide) (by decide) q) ?_
          show own_Go _ _ _ _ _ _ _ (T47.setTop (mkF m 155 #[.val (.long q0), .second, .val (.long q1), .second, .val (.long q2), .second, .val (.long q3), .second, .val (.long q4), .second, .val (.int p5), .val (.int (2 : Int32)), .val (.int t0), .val (.int t1), .val (.int t2), .val (.ref b35), .val (.ref b36), .unset] []))
          have f49 := (A44.other W47 neq)
          have B1 : own_Ar Z h47 b35 .long 2 (fun j => .long (own_lo q0 q1 q2 q3 q4 t0 t1 t2 j)) := f49.eqv (fun j hj => by
              have : j = 0 ∨ j = 1 := by omega
              rcases this with rfl | rfl <;> rfl)
          have B2 : own_Ar Z h47 b36 .long 2 (fun j => .long (own_hi q0 q1 q2 q3 q4 t0 t1 t2 j)) := A47.eqv (fun j hj => by
              have : j = 0 ∨ j = 1 := by omega
              rcases this with rfl | rfl <;> rfl)
          refine own_go (fun _ q => XS.iconst X47.here hx rfl (hb hby at_155) q) ?_
          show own_Go _ _ _ _ _ _ _ (T47.setTop (mkF m 156 #[.val (.long q0), .second, .val (.long q1), .second, .val (.long q2), .second, .val (.long q3), .second, .val (.long q4), .second, .val (.int p5), .val (.int (2 : Int32)), .val (.int t0), .val (.int t1), .val (.int t2), .val (.ref b35), .val (.ref b36), .unset] [(.int (-1 : Int32))]))
          refine own_go (fun _ q => XS.istore X47.here hx rfl (hb hby at_156) rfl (l' := #[.val (.long q0), .second, .val (.long q1), .second, .val (.long q2), .second, .val (.long q3), .second, .val (.long q4), .second, .val (.int p5), .val (.int (2 : Int32)), .val (.int t0), .val (.int t1), .val (.int t2), .val (.ref b35), .val (.ref b36), .val (.int (-1 : Int32))]) rfl q) ?_
          show own_Go _ _ _ _ _ _ _ (T47.setTop (mkF m 158 #[.val (.long q0), .second, .val (.long q1), .second, .val (.long q2), .second, .val (.long q3), .second, .val (.long q4), .second, .val (.int p5), .val (.int (2 : Int32)), .val (.int t0), .val (.int t1), .val (.int t2), .val (.ref b35), .val (.ref b36), .val (.int (-1 : Int32))] []))
          refine own_go (fun _ q => XS.iload X47.here hx rfl (hb hby at_158) rfl q) ?_
          show own_Go _ _ _ _ _ _ _ (T47.setTop (mkF m 160 #[.val (.long q0), .second, .val (.long q1), .second, .val (.long q2), .second, .val (.long q3), .second, .val (.long q4), .second, .val (.int p5), .val (.int (2 : Int32)), .val (.int t0), .val (.int t1), .val (.int t2), .val (.ref b35), .val (.ref b36), .val (.int (-1 : Int32))] [(.int (2 : Int32))]))
          refine own_go (fun _ q => XS.iconst X47.here hx rfl (hb hby at_160) q) ?_
          show own_Go _ _ _ _ _ _ _ (T47.setTop (mkF m 161 #[.val (.long q0), .second, .val (.long q1), .second, .val (.long q2), .second, .val (.long q3), .second, .val (.long q4), .second, .val (.int p5), .val (.int (2 : Int32)), .val (.int t0), .val (.int t1), .val (.int t2), .val (.ref b35), .val (.ref b36), .val (.int (-1 : Int32))] [(.int (2 : Int32)), (.int (2 : Int32))]))
          refine own_go (fun _ q => XS.icmpYes X47.here hx rfl (pc0 := 161) (pc' := 172) rfl (hb hby at_161) rfl (flt (by decide : ¬ ((2 : Int32) < (2 : Int32)))).2.2.2 (by decide) (by decide) q) ?_
          show own_Go _ _ _ _ _ _ _ (T47.setTop (mkF m 172 #[.val (.long q0), .second, .val (.long q1), .second, .val (.long q2), .second, .val (.long q3), .second, .val (.long q4), .second, .val (.int p5), .val (.int (2 : Int32)), .val (.int t0), .val (.int t1), .val (.int t2), .val (.ref b35), .val (.ref b36), .val (.int (-1 : Int32))] []))
          refine own_go (fun _ q => XS.iload X47.here hx rfl (hb hby at_172) rfl q) ?_
          show own_Go _ _ _ _ _ _ _ (T47.setTop (mkF m 174 #[.val (.long q0), .second, .val (.long q1), .second, .val (.long q2), .second, .val (.long q3), .second, .val (.long q4), .second, .val (.int p5), .val (.int (2 : Int32)), .val (.int t0), .val (.int t1), .val (.int t2), .val (.ref b35), .val (.ref b36), .val (.int (-1 : Int32))] [(.int (2 : Int32))]))
          refine own_go (fun _ q => XS.iconst X47.here hx rfl (hb hby at_174) q) ?_
          show own_Go _ _ _ _ _ _ _ (T47.setTop (mkF m 175 #[.val (.long q0), .second, .val (.long q1), .second, .val (.long q2), .second, .val (.long q3), .second, .val (.long q4), .second, .val (.int p5), .val (.int (2 : Int32)), .val (.int t0), .val (.int t1), .val (.int t2), .val (.ref b35), .val (.ref b36), .val (.int (-1 : Int32))] [(.int (1 : Int32)), (.int (2 : Int32))]))
          refine own_go (fun _ q => XS.icmpNo X47.here hx rfl (hb hby at_175) rfl (tlt (by decide : (1 : Int32) < (2 : Int32))).2.2.2 q) ?_
          show own_Go _ _ _ _ _ _ _ (T47.setTop (mkF m 178 #[.val (.long q0), .second, .val (.long q1), .second, .val (.long q2), .second, .val (.long q3), .second, .val (.long q4), .second, .val (.int p5), .val (.int (2 : Int32)), .val (.int t0), .val (.int t1), .val (.int t2), .val (.ref b35), .val (.ref b36), .val (.int (-1 : Int32))] []))
          refine own_go (fun _ q => XS.iload X47.here hx rfl (hb hby at_178) rfl q) ?_
          show own_Go _ _ _ _ _ _ _ (T47.setTop (mkF m 180 #[.val (.long q0), .second, .val (.long q1), .second, .val (.long q2), .second, .val (.long q3), .second, .val (.long q4), .second, .val (.int p5), .val (.int (2 : Int32)), .val (.int t0), .val (.int t1), .val (.int t2), .val (.ref b35), .val (.ref b36), .val (.int (-1 : Int32))] [(.int t1)]))
          by_cases hc180_50 : t1 = (0 : Int32)
          · refine own_go (fun _ q => XS.ifYes X47.here hx rfl (pc0 := 180) (pc' := 186) rfl (hb hby at_180) rfl ((if0 _ _).trans (teq hc180_50).1) (by decide) (by decide) q) ?_
            show own_Go _ _ _ _ _ _ _ (T47.setTop (mkF m 186 #[.val (.long q0), .second, .val (.long q1), .second, .val (.long q2), .second, .val (.long q3), .second, .val (.long q4), .second, .val (.int p5), .val (.int (2 : Int32)), .val (.int t0), .val (.int t1), .val (.int t2), .val (.ref b35), .val (.ref b36), .val (.int (-1 : Int32))] []))
            refine own_go (fun _ q => XS.iload X47.here hx rfl (hb hby at_186) rfl q) ?_
            show own_Go _ _ _ _ _ _ _ (T47.setTop (mkF m 188 #[.val (.long q0), .second, .val (.long q1), .second, .val (.long q2), .second, .val (.long q3), .second, .val (.long q4), .second, .val (.int p5), .val (.int (2 : Int32)), .val (.int t0), .val (.int t1), .val (.int t2), .val (.ref b35), .val (.ref b36), .val (.int (-1 : Int32))] [(.int (2 : Int32))]))
            refine own_go (fun _ q => XS.ifNo X47.here hx rfl (hb hby at_188) rfl ((if0 _ _).trans (tlt (by decide : (0 : Int32) < (2 : Int32))).2.2.2) q) ?_
            show own_Go _ _ _ _ _ _ _ (T47.setTop (mkF m 191 #[.val (.long q0), .second, .val (.long q1), .second, .val (.long q2), .second, .val (.long q3), .second, .val (.long q4), .second, .val (.int p5), .val (.int (2 : Int32)), .val (.int t0), .val (.int t1), .val (.int t2), .val (.ref b35), .val (.ref b36), .val (.int (-1 : Int32))] []))
            refine own_go (fun _ q => XS.iload X47.here hx rfl (hb hby at_191) rfl q) ?_
            show own_Go _ _ _ _ _ _ _ (T47.setTop (mkF m 193 #[.val (.long q0), .second, .val (.long q1), .second, .val (.long q2), .second, .val (.long q3), .second, .val (.long q4), .second, .val (.int p5), .val (.int (2 : Int32)), .val (.int t0), .val (.int t1), .val (.int t2), .val (.ref b35), .val (.ref b36), .val (.int (-1 : Int32))] [(.int t0)]))
            by_cases hc193_51 : t0 = (0 : Int32)
            · refine own_go (fun _ q => XS.ifYes X47.here hx rfl (pc0 := 193) (pc' := 199) rfl (hb hby at_193) rfl ((if0 _ _).trans (teq hc193_51).1) (by decide) (by decide) q) ?_
              show own_Go _ _ _ _ _ _ _ (T47.setTop (mkF m 199 #[.val (.long q0), .second, .val (.long q1), .second, .val (.long q2), .second, .val (.long q3), .second, .val (.long q4), .second, .val (.int p5), .val (.int (2 : Int32)), .val (.int t0), .val (.int t1), .val (.int t2), .val (.ref b35), .val (.ref b36), .val (.int (-1 : Int32))] []))
              obtain ⟨T52, h52, X52, e52, E52, A52, D52, -, st52⟩ := newO X47 hx hZ hown (hw _ (List.mem_of_getElem? (i := 5) rfl)) (hw _ (List.mem_of_getElem? (i := 6) rfl)) (hw _ (List.mem_of_getElem? (i := 7) rfl)) e47 (g := (mkF m 199 #[.val (.long q0), .second, .val (.long q1), .second, .val (.long q2), .second, .val (.long q3), .second, .val (.long q4), .second, .val (.int p5), .val (.int (2 : Int32)), .val (.int t0), .val (.int t1), .val (.int t2), .val (.ref b35), .val (.ref b36), .val (.int (-1 : Int32))] [])) rfl (hb hby at_199) (by decide) (by decide)
              obtain ⟨b52, g52⟩ : ∃ z, z = h47.size := ⟨_, rfl⟩
              rw [← g52] at A52 D52 st52
              have ne53 : b35 ≠ b52 := Nat.ne_of_lt (Nat.lt_of_lt_of_eq (B1).lt g52.symm)
              have ne54 : b36 ≠ b52 := Nat.ne_of_lt (Nat.lt_of_lt_of_eq (B2).lt g52.symm)
              have G52 : n0 ≤ b52 := by have := Z47; omega
              have Z52 : n0 ≤ h52.size := Nat.le_trans Z47 E52.1
              have Fn52_least : Fld Z h52 b52 "com/example/slotwright/slotwright/SplitBox" "least" "[J" .null := D52 (Or.inr (hw _ (List.mem_of_getElem? (i := 20) rfl))) (ty := (.array .long)) (by decide)
              have Fn52_most : Fld Z h52 b52 "com/example/slotwright/slotwright/SplitBox" "most" "[J" .null := D52 (Or.inr (hw _ (List.mem_of_getElem? (i := 22) rfl))) (ty := (.array .long)) (by decide)
              refine own_go st52 ?_
              show own_Go _ _ _ _ _ _ _ (T52.setTop (mkF m 202 #[.val (.long q0), .second, .val (.long q1), .second, .val (.long q2), .second, .val (.long q3), .second, .val (.long q4), .second, .val (.int p5), .val (.int (2 : Int32)), .val (.int t0), .val (.int t1), .val (.int t2), .val (.ref b35), .val (.ref b36), .val (.int (-1 : Int32))] [(.ref b52)]))
              refine own_go (fun _ q => XS.dup X52.here hx rfl (hb hby at_202) rfl rfl q) ?_
              show own_Go _ _ _ _ _ _ _ (T52.setTop (mkF m 203 #[.val (.long q0), .second, .val (.long q1), .second, .val (.long q2), .second, .val (.long q3), .second, .val (.long q4), .second, .val (.int p5), .val (.int (2 : Int32)), .val (.int t0), .val (.int t1), .val (.int t2), .val (.ref b35), .val (.ref b36), .val (.int (-1 : Int32))] [(.ref b52), (.ref b52)]))
              refine own_go (fun _ q => XS.aload X52.here hx rfl (hb hby at_203) rfl rfl q) ?_
              show own_Go _ _ _ _ _ _ _ (T52.setTop (mkF m 205 #[.val (.long q0), .second, .val (.long q1), .second, .val (.long q2), .second, .val (.long q3), .second, .val (.long q4), .second, .val (.int p5), .val (.int (2 : Int32)), .val (.int t0), .val (.int t1), .val (.int t2), .val (.ref b35), .val (.ref b36), .val (.int (-1 : Int32))] [(.ref b35), (.ref b52), (.ref b52)]))
              refine own_go (fun _ q => XS.aload X52.here hx rfl (hb hby at_205) rfl rfl q) ?_
              show own_Go _ _ _ _ _ _ _ (T52.setTop (mkF m 207 #[.val (.long q0), .second, .val (.long q1), .second, .val (.long q2), .second, .val (.long q3), .second, .val (.long q4), .second, .val (.int p5), .val (.int (2 : Int32)), .val (.int t0), .val (.int t1), .val (.int t2), .val (.ref b35), .val (.ref b36), .val (.int (-1 : Int32))] [(.ref b36), (.ref b35), (.ref b52), (.ref b52)]))
              refine own_init X52 hx hZ rfl hown (hw _ (List.mem_of_getElem? (i := 8) rfl)) (hw _ (List.mem_of_getElem? (i := 9) rfl)) (hw _ (List.mem_of_getElem? (i := 7) rfl)) (hw _ (List.mem_of_getElem? (i := 10) rfl)) (by decide) e52 (a := b52) (argsL := [(.ref b35), (.ref b36)]) (rest := [(.ref b52)]) (rm2 l Z a0 hw [] b52 b35 b36 h52 n0 Z52 A52 Fn52_least Fn52_most G52) 1 (by decide) (by decide) (by decide) (by decide) (by rw [hml]; rfl) pd_3 rfl rfl (Nat.le_of_eq rfl) (hb hby at_207) rfl ?_
              intro v55 T55 L55 X55 hQ55
              obtain ⟨rfl, N55q, K55, Eb, Fb1, Fb2⟩ := hQ55
              have N55 := Fr.app N47 N55q
              show own_Go _ _ _ _ _ _ _ (T55.setTop (mkF m 210 #[.val (.long q0), .second, .val (.long q1), .second, .val (.long q2), .second, .val (.long q3), .second, .val (.long q4), .second, .val (.int p5), .val (.int (2 : Int32)), .val (.int t0), .val (.int t1), .val (.int t2), .val (.ref b35), .val (.ref b36), .val (.int (-1 : Int32))] [(.ref b52)]))
              have Z55 : n0 ≤ T55.heap.size := Nat.le_trans Z52 K55.1
              have f56 := ((B1.ext E52).keep K55 (ninS ne53 nin0))
              have f57 := ((B2.ext E52).keep K55 (ninS ne54 nin0))
              refine own_virtual X55 hx hZ hown (hw _ (List.mem_of_getElem? (i := 23) rfl)) (hw _ (List.mem_of_getElem? (i := 24) rfl)) (hw _ (List.mem_of_getElem? (i := 26) rfl)) (hw _ (List.mem_of_getElem? (i := 25) rfl)) (hw _ (List.mem_of_getElem? (i := 7) rfl)) (hw _ (List.mem_of_getElem? (i := 27) rfl)) (by decide) rfl (a := b52) Eb (argsL := []) (rest := []) (rm5 l Z a0 hw [] b52 b35 b36 (own_lo q0 q1 q2 q3 q4 t0 t1 t2) (own_hi q0 q1 q2 q3 q4 t0 t1 t2) 2 T55.heap n0 Z55 Fb1 Fb2 f56 f57 (by decide) (2 : Int32) rfl) 0 (by decide) (by decide) (by decide) (by decide) (by rw [hml]; rfl) pd_4 rfl rfl (Nat.le_of_eq rfl) (hb hby at_210) rfl ?_
              intro v58 T58 L58 X58 hQ58
              obtain ⟨r, rfl, N58q, e58q, hR⟩ := hQ58
              have N58 := Fr.app N55 N58q
              show own_Go _ _ _ _ _ _ _ (T58.setTop (mkF m 213 #[.val (.long q0), .second, .val (.long q1), .second, .val (.long q2), .second, .val (.long q3), .second, .val (.long q4), .second, .val (.int p5), .val (.int (2 : Int32)), .val (.int t0), .val (.int t1), .val (.int t2), .val (.ref b35), .val (.ref b36), .val (.int (-1 : Int32))] [(.int r)]))
              refine own_go (fun _ q => XS.iload X58.here hx rfl (hb hby at_213) rfl q) ?_
              show own_Go _ _ _ _ _ _ _ (T58.setTop (mkF m 215 #[.val (.long q0), .second, .val (.long q1), .second, .val (.long q2), .second, .val (.long q3), .second, .val (.long q4), .second, .val (.int p5), .val (.int (2 : Int32)), .val (.int t0), .val (.int t1), .val (.int t2), .val (.ref b35), .val (.ref b36), .val (.int (-1 : Int32))] [(.int (-1 : Int32)), (.int r)]))
              refine own_go (fun _ q => XS.icmpNo X58.here hx rfl (hb hby at_215) rfl (teq ((own_final (k := 2) hb0 hb1 hb2 (by decide) hR).trans (by simp [own_exp, *]))).2 q) ?_
              show own_Go _ _ _ _ _ _ _ (T58.setTop (mkF m 218 #[.val (.long q0), .second, .val (.long q1), .second, .val (.long q2), .second, .val (.long q3), .second, .val (.long q4), .second, .val (.int p5), .val (.int (2 : Int32)), .val (.int t0), .val (.int t1), .val (.int t2), .val (.ref b35), .val (.ref b36), .val (.int (-1 : Int32))] []))
              refine own_go (fun _ q => XS.iconst X58.here hx rfl (hb hby at_218) q) ?_
              show own_Go _ _ _ _ _ _ _ (T58.setTop (mkF m 219 #[.val (.long q0), .second, .val (.long q1), .second, .val (.long q2), .second, .val (.long q3), .second, .val (.long q4), .second, .val (.int p5), .val (.int (2 : Int32)), .val (.int t0), .val (.int t1), .val (.int t2), .val (.ref b35), .val (.ref b36), .val (.int (-1 : Int32))] [(.int (1 : Int32))]))
              refine own_go (fun _ q => XS.goto X58.here hx rfl (pc0 := 219) (pc' := 223) rfl (hb hby at_219) (by decide) (by decide) q) ?_
              show own_Go _ _ _ _ _ _ _ (T58.setTop (mkF m 223 #[.val (.long q0), .second, .val (.long q1), .second, .val (.long q2), .second, .val (.long q3), .second, .val (.long q4), .second, .val (.int p5), .val (.int (2 : Int32)), .val (.int t0), .val (.int t1), .val (.int t2), .val (.ref b35), .val (.ref b36), .val (.int (-1 : Int32))] [(.int (1 : Int32))]))
              exact own_retZ X58 hx hlk hret (hb hby at_223) (by decide) (by decide) (by decide) ⟨rfl, N58⟩
            · refine own_go (fun _ q => XS.ifNo X47.here hx rfl (hb hby at_193) rfl ((if0 _ _).trans (feq hc193_51).1) q) ?_
              show own_Go _ _ _ _ _ _ _ (T47.setTop (mkF m 196 #[.val (.long q0), .second, .val (.long q1), .second, .val (.long q2), .second, .val (.long q3), .second, .val (.long q4), .second, .val (.int p5), .val (.int (2 : Int32)), .val (.int t0), .val (.int t1), .val (.int t2), .val (.ref b35), .val (.ref b36), .val (.int (-1 : Int32))] []))
              refine own_go (fun _ q => XS.iconst X47.here hx rfl (hb hby at_196) q) ?_
              show own_Go _ _ _ _ _ _ _ (T47.setTop (mkF m 197 #[.val (.long q0), .second, .val (.long q1), .second, .val (.long q2), .second, .val (.long q3), .second, .val (.long q4), .second, .val (.int p5), .val (.int (2 : Int32)), .val (.int t0), .val (.int t1), .val (.int t2), .val (.ref b35), .val (.ref b36), .val (.int (-1 : Int32))] [(.int (0 : Int32))]))
              refine own_go (fun _ q => XS.istore X47.here hx rfl (hb hby at_197) rfl (l' := #[.val (.long q0), .second, .val (.long q1), .second, .val (.long q2), .second, .val (.long q3), .second, .val (.long q4), .second, .val (.int p5), .val (.int (2 : Int32)), .val (.int t0), .val (.int t1), .val (.int t2), .val (.ref b35), .val (.ref b36), .val (.int (0 : Int32))]) rfl q) ?_
              show own_Go _ _ _ _ _ _ _ (T47.setTop (mkF m 199 #[.val (.long q0), .second, .val (.long q1), .second, .val (.long q2), .second, .val (.long q3), .second, .val (.long q4), .second, .val (.int p5), .val (.int (2 : Int32)), .val (.int t0), .val (.int t1), .val (.int t2), .val (.ref b35), .val (.ref b36), .val (.int (0 : Int32))] []))
              obtain ⟨T59, h59, X59, e59, E59, A59, D59, -, st59⟩ := newO X47 hx hZ hown (hw _ (List.mem_of_getElem? (i := 5) rfl)) (hw _ (List.mem_of_getElem? (i := 6) rfl)) (hw _ (List.mem_of_getElem? (i := 7) rfl)) e47 (g := (mkF m 199 #[.val (.long q0), .second, .val (.long q1), .second, .val (.long q2), .second, .val (.long q3), .second, .val (.long q4), .second, .val (.int p5), .val (.int (2 : Int32)), .val (.int t0), .val (.int t1), .val (.int t2), .val (.ref b35), .val (.ref b36), .val (.int (0 : Int32))] [])) rfl (hb hby at_199) (by decide) (by decide)
              obtain ⟨b59, g59⟩ : ∃ z, z = h47.size := ⟨_, rfl⟩
              rw [← g59] at A59 D59 st59
              have ne60 : b35 ≠ b59 := Nat.ne_of_lt (Nat.lt_of_lt_of_eq (B1).lt g59.symm)
              have ne61 : b36 ≠ b59 := Nat.ne_of_lt (Nat.lt_of_lt_of_eq (B2).lt g59.symm)
              have G59 : n0 ≤ b59 := by have := Z47; omega
              have Z59 : n0 ≤ h59.size := Nat.le_trans Z47 E59.1
              have Fn59_least : Fld Z h59 b59 "com/example/slotwright/slotwright/SplitBox" "least" "[J" .null := D59 (Or.inr (hw _ (List.mem_of_getElem? (i := 20) rfl))) (ty := (.array .long)) (by decide)
              have Fn59_most : Fld Z h59 b59 "com/example/slotwright/slotwright/SplitBox" "most" "[J" .null := D59 (Or.inr (hw _ (List.mem_of_getElem? (i := 22) rfl))) (ty := (.array .long)) (by decide)
              refine own_go st59 ?_
              show own_Go _ _ _ _ _ _ _ (T59.setTop (mkF m 202 #[.val (.long q0), .second, .val (.long q1), .second, .val (.long q2), .second, .val (.long q3), .second, .val (.long q4), .second, .val (.int p5), .val (.int (2 : Int32)), .val (.int t0), .val (.int t1), .val (.int t2), .val (.ref b35), .val (.ref b36), .val (.int (0 : Int32))] [(.ref b59)]))
              refine own_go (fun _ q => XS.dup X59.here hx rfl (hb hby at_202) rfl rfl q) ?_
              show own_Go _ _ _ _ _ _ _ (T59.setTop (mkF m 203 #[.val (.long q0), .second, .val (.long q1), .second, .val (.long q2), .second, .val (.long q3), .second, .val (.long q4), .second, .val (.int p5), .val (.int (2 : Int32)), .val (.int t0), .val (.int t1), .val (.int t2), .val (.ref b35), .val (.ref b36), .val (.int (0 : Int32))] [(.ref b59), (.ref b59)]))
              refine own_go (fun _ q => XS.aload X59.here hx rfl (hb hby at_203) rfl rfl q) ?_
              show own_Go _ _ _ _ _ _ _ (T59.setTop (mkF m 205 #[.val (.long q0), .second, .val (.long q1), .second, .val (.long q2), .second, .val (.long q3), .second, .val (.long q4), .second, .val (.int p5), .val (.int (2 : Int32)), .val (.int t0), .val (.int t1), .val (.int t2), .val (.ref b35), .val (.ref b36), .val (.int (0 : Int32))] [(.ref b35), (.ref b59), (.ref b59)]))
              refine own_go (fun _ q => XS.aload X59.here hx rfl (hb hby at_205) rfl rfl q) ?_
              show own_Go _ _ _ _ _ _ _ (T59.setTop (mkF m 207 #[.val (.long q0), .second, .val (.long q1), .second, .val (.long q2), .second, .val (.long q3), .second, .val (.long q4), .second, .val (.int p5), .val (.int (2 : Int32)), .val (.int t0), .val (.int t1), .val (.int t2), .val (.ref b35), .val (.ref b36), .val (.int (0 : Int32))] [(.ref b36), (.ref b35), (.ref b59), (.ref b59)]))
              refine own_init X59 hx hZ rfl hown (hw _ (List.mem_of_getElem? (i := 8) rfl)) (hw _ (List.mem_of_getElem? (i := 9) rfl)) (hw _ (List.mem_of_getElem? (i := 7) rfl)) (hw _ (List.mem_of_getElem? (i := 10) rfl)) (by decide) e59 (a := b59) (argsL := [(.ref b35), (.ref b36)]) (rest := [(.ref b59)]) (rm2 l Z a0 hw [] b59 b35 b36 h59 n0 Z59 A59 Fn59_least Fn59_most G59) 1 (by decide) (by decide) (by decide) (by decide) (by rw [hml]; rfl) pd_3 rfl rfl (Nat.le_of_eq rfl) (hb hby at_207) rfl ?_
              intro v62 T62 L62 X62 hQ62
              obtain ⟨rfl, N62q, K62, Eb, Fb1, Fb2⟩ := hQ62
              have N62 := Fr.app N47 N62q
              show own_Go _ _ _ _ _ _ _ (T62.setTop (mkF m 210 #[.val (.long q0), .second, .val (.long q1), .second, .val (.long q2), .second, .val (.long q3), .second, .val (.long q4), .second, .val (.int p5), .val (.int (2 : Int32)), .val (.int t0), .val (.int t1), .val (.int t2), .val (.ref b35), .val (.ref b36), .val (.int (0 : Int32))] [(.ref b59)]))
              have Z62 : n0 ≤ T62.heap.size := Nat.le_trans Z59 K62.1
              have f63 := ((B1.ext E59).keep K62 (ninS ne60 nin0))
              have f64 := ((B2.ext E59).keep K62 (ninS ne61 nin0))
              refine own_virtual X62 hx hZ hown (hw _ (List.mem_of_getElem? (i := 23) rfl)) (hw _ (List.mem_of_getElem? (i := 24) rfl)) (hw _ (List.mem_of_getElem? (i := 26) rfl)) (hw _ (List.mem_of_getElem? (i := 25) rfl)) (hw _ (List.mem_of_getElem? (i := 7) rfl)) (hw _ (List.mem_of_getElem? (i := 27) rfl)) (by decide) rfl (a := b59) Eb (argsL := []) (rest := []) (rm5 l Z a0 hw [] b59 b35 b36 (own_lo q0 q1 q2 q3 q4 t0 t1 t2) (own_hi q0 q1 q2 q3 q4 t0 t1 t2) 2 T62.heap n0 Z62 Fb1 Fb2 f63 f64 (by decide) (2 : Int32) rfl) 0 (by decide) (by decide) (by decide) (by decide) (by rw [hml]; rfl) pd_4 rfl rfl (Nat.le_of_eq rfl) (hb hby at_210) rfl ?_
              intro v65 T65 L65 X65 hQ65
              obtain ⟨r, rfl, N65q, e65q, hR⟩ := hQ65
              have N65 := Fr.app N62 N65q
              show own_Go _ _ _ _ _ _ _ (T65.setTop (mkF m 213 #[.val (.long q0), .second, .val (.long q1), .second, .val (.long q2), .second, .val (.long q3), .second, .val (.long q4), .second, .val (.int p5), .val (.int (2 : Int32)), .val (.int t0), .val (.int t1), .val (.int t2), .val (.ref b35), .val (.ref b36), .val (.int (0 : Int32))] [(.int r)]))
              refine own_go (fun _ q => XS.iload X65.here hx rfl (hb hby at_213) rfl q) ?_
              show own_Go _ _ _ _ _ _ _ (T65.setTop (mkF m 215 #[.val (.long q0), .second, .val (.long q1), .second, .val (.long q2), .second, .val (.long q3), .second, .val (.long q4), .second, .val (.int p5), .val (.int (2 : Int32)), .val (.int t0), .val (.int t1), .val (.int t2), .val (.ref b35), .val (.ref b36), .val (.int (0 : Int32))] [(.int (0 : Int32)), (.int r)]))
              refine own_go (fun _ q => XS.icmpNo X65.here hx rfl (hb hby at_215) rfl (teq ((own_final (k := 2) hb0 hb1 hb2 (by decide) hR).trans (by simp [own_exp, *]))).2 q) ?_
              show own_Go _ _ _ _ _ _ _ (T65.setTop (mkF m 218 #[.val (.long q0), .second, .val (.long q1), .second, .val (.long q2), .second, .val (.long q3), .second, .val (.long q4), .second, .val (.int p5), .val (.int (2 : Int32)), .val (.int t0), .val (.int t1), .val (.int t2), .val (.ref b35), .val (.ref b36), .val (.int (0 : Int32))] []))
              refine own_go (fun _ q => XS.iconst X65.here hx rfl (hb hby at_218) q) ?_
              show own_Go _ _ _ _ _ _ _ (T65.setTop (mkF m 219 #[.val (.long q0), .second, .val (.long q1), .second, .val (.long q2), .second, .val (.long q3), .second, .val (.long q4), .second, .val (.int p5), .val (.int (2 : Int32)), .val (.int t0), .val (.int t1), .val (.int t2), .val (.ref b35), .val (.ref b36), .val (.int (0 : Int32))] [(.int (1 : Int32))]))
              refine own_go (fun _ q => XS.goto X65.here hx rfl (pc0 := 219) (pc' := 223) rfl (hb hby at_219) (by decide) (by decide) q) ?_
              show own_Go _ _ _ _ _ _ _ (T65.setTop (mkF m 223 #[.val (.long q0), .second, .val (.long q1), .second, .val (.long q2), .second, .val (.long q3), .second, .val (.long q4), .second, .val (.int p5), .val (.int (2 : Int32)), .val (.int t0), .val (.int t1), .val (.int t2), .val (.ref b35), .val (.ref b36), .val (.int (0 : Int32))] [(.int (1 : Int32))]))
              exact own_retZ X65 hx hlk hret (hb hby at_223) (by decide) (by decide) (by decide) ⟨rfl, N65⟩
          · refine own_go (fun _ q => XS.ifNo X47.here hx rfl (hb hby at_180) rfl ((if0 _ _).trans (feq hc180_50).1) q) ?_
            show own_Go _ _ _ _ _ _ _ (T47.setTop (mkF m 183 #[.val (.long q0), .second, .val (.long q1), .second, .val (.long q2), .second, .val (.long q3), .second, .val (.long q4), .second, .val (.int p5), .val (.int (2 : Int32)), .val (.int t0), .val (.int t1), .val (.int t2), .val (.ref b35), .val (.ref b36), .val (.int (-1 : Int32))] []))
            refine own_go (fun _ q => XS.iconst X47.here hx rfl (hb hby at_183) q) ?_
            show own_Go _ _ _ _ _ _ _ (T47.setTop (mkF m 184 #[.val (.long q0), .second, .val (.long q1), .second, .val (.long q2), .second, .val (.long q3), .second, .val (.long q4), .second, .val (.int p5), .val (.int (2 : Int32)), .val (.int t0), .val (.int t1), .val (.int t2), .val (.ref b35), .val (.ref b36), .val (.int (-1 : Int32))] [(.int (1 : Int32))]))
            refine own_go (fun _ q => XS.istore X47.here hx rfl (hb hby at_184) rfl (l' := #[.val (.long q0), .second, .val (.long q1), .second, .val (.long q2), .second, .val (.long q3), .second, .val (.long q4), .second, .val (.int p5), .val (.int (2 : Int32)), .val (.int t0), .val (.int t1), .val (.int t2), .val (.ref b35), .val (.ref b36), .val (.int (1 : Int32))]) rfl q) ?_
            show own_Go _ _ _ _ _ _ _ (T47.setTop (mkF m 186 #[.val (.long q0), .second, .val (.long q1), .second, .val (.long q2), .second, .val (.long q3), .second, .val (.long q4), .second, .val (.int p5), .val (.int (2 : Int32)), .val (.int t0), .val (.int t1), .val (.int t2), .val (.ref b35), .val (.ref b36), .val (.int (1 : Int32))] []))
            refine own_go (fun _ q => XS.iload X47.here hx rfl (hb hby at_186) rfl q) ?_
            show own_Go _ _ _ _ _ _ _ (T47.setTop (mkF m 188 #[.val (.long q0), .second, .val (.long q1), .second, .val (.long q2), .second, .val (.long q3), .second, .val (.long q4), .second, .val (.int p5), .val (.int (2 : Int32)), .val (.int t0), .val (.int t1), .val (.int t2), .val (.ref b35), .val (.ref b36), .val (.int (1 : Int32))] [(.int (2 : Int32))]))
            refine own_go (fun _ q => XS.ifNo X47.here hx rfl (hb hby at_188) rfl ((if0 _ _).trans (tlt (by decide : (0 : Int32) < (2 : Int32))).2.2.2) q) ?_
            show own_Go _ _ _ _ _ _ _ (T47.setTop (mkF m 191 #[.val (.long q0), .second, .val (.long q1), .second, .val (.long q2), .second, .val (.long q3), .second, .val (.long q4), .second, .val (.int p5), .val (.int (2 : Int32)), .val (.int t0), .val (.int t1), .val (.int t2), .val (.ref b35), .val (.ref b36), .val (.int (1 : Int32))] []))
            refine own_go (fun _ q => XS.iload X47.here hx rfl (hb hby at_191) rfl q) ?_
            show own_Go _ _ _ _ _ _ _ (T47.setTop (mkF m 193 #[.val (.long q0), .second, .val (.long q1), .second, .val (.long q2), .second, .val (.long q3), .second, .val (.long q4), .second, .val (.int p5), .val (.int (2 : Int32)), .val (.int t0), .val (.int t1), .val (.int t2), .val (.ref b35), .val (.ref b36), .val (.int (1 : Int32))] [(.int t0)]))
            by_cases hc193_66 : t0 = (0 : Int32)
            · refine own_go (fun _ q => XS.ifYes X47.here hx rfl (pc0 := 193) (pc' := 199) rfl (hb hby at_193) rfl ((if0 _ _).trans (teq hc193_66).1) (by decide) (by decide) q) ?_
              show own_Go _ _ _ _ _ _ _ (T47.setTop (mkF m 199 #[.val (.long q0), .second, .val (.long q1), .second, .val (.long q2), .second, .val (.long q3), .second, .val (.long q4), .second, .val (.int p5), .val (.int (2 : Int32)), .val (.int t0), .val (.int t1), .val (.int t2), .val (.ref b35), .val (.ref b36), .val (.int (1 : Int32))] []))
              obtain ⟨T67, h67, X67, e67, E67, A67, D67, -, st67⟩ := newO X47 hx hZ hown (hw _ (List.mem_of_getElem? (i := 5) rfl)) (hw _ (List.mem_of_getElem? (i := 6) rfl)) (hw _ (List.mem_of_getElem? (i := 7) rfl)) e47 (g := (mkF m 199 #[.val (.long q0), .second, .val (.long q1), .second, .val (.long q2), .second, .val (.long q3), .second, .val (.long q4), .second, .val (.int p5), .val (.int (2 : Int32)), .val (.int t0), .val (.int t1), .val (.int t2), .val (.ref b35), .val (.ref b36), .val (.int (1 : Int32))] [])) rfl (hb hby at_199) (by decide) (by decide)
              obtain ⟨b67, g67⟩ : ∃ z, z = h47.size := ⟨_, rfl⟩
              rw [← g67] at A67 D67 st67
              have ne68 : b35 ≠ b67 := Nat.ne_of_lt (Nat.lt_of_lt_of_eq (B1).lt g67.symm)
              have ne69 : b36 ≠ b67 := Nat.ne_of_lt (Nat.lt_of_lt_of_eq (B2).lt g67.symm)
              have G67 : n0 ≤ b67 := by have := Z47; omega
              have Z67 : n0 ≤ h67.size := Nat.le_trans Z47 E67.1
              have Fn67_least : Fld Z h67 b67 "com/example/slotwright/slotwright/SplitBox" "least" "[J" .null := D67 (Or.inr (hw _ (List.mem_of_getElem? (i := 20) rfl))) (ty := (.array .long)) (by decide)
              have Fn67_most : Fld Z h67 b67 "com/example/slotwright/slotwright/SplitBox" "most" "[J" .null := D67 (Or.inr (hw _ (List.mem_of_getElem? (i := 22) rfl))) (ty := (.array .long)) (by decide)
              refine own_go st67 ?_
              show own_Go _ _ _ _ _ _ _ (T67.setTop (mkF m 202 #[.val (.long q0), .second, .val (.long q1), .second, .val (.long q2), .second, .val (.long q3), .second, .val (.long q4), .second, .val (.int p5), .val (.int (2 : Int32)), .val (.int t0), .val (.int t1), .val (.int t2), .val (.ref b35), .val (.ref b36), .val (.int (1 : Int32))] [(.ref b67)]))
              refine own_go (fun _ q => XS.dup X67.here hx rfl (hb hby at_202) rfl rfl q) ?_
              show own_Go _ _ _ _ _ _ _ (T67.setTop (mkF m 203 #[.val (.long q0), .second, .val (.long q1), .second, .val (.long q2), .second, .val (.long q3), .second, .val (.long q4), .second, .val (.int p5), .val (.int (2 : Int32)), .val (.int t0), .val (.int t1), .val (.int t2), .val (.ref b35), .val (.ref b36), .val (.int (1 : Int32))] [(.ref b67), (.ref b67)]))
              refine own_go (fun _ q => XS.aload X67.here hx rfl (hb hby at_203) rfl rfl q) ?_
              show own_Go _ _ _ _ _ _ _ (T67.setTop (mkF m 205 #[.val (.long q0), .second, .val (.long q1), .second, .val (.long q2), .second, .val (.long q3), .second, .val (.long q4), .second, .val (.int p5), .val (.int (2 : Int32)), .val (.int t0), .val (.int t1), .val (.int t2), .val (.ref b35), .val (.ref b36), .val (.int (1 : Int32))] [(.ref b35), (.ref b67), (.ref b67)]))
              refine own_go (fun _ q => XS.aload X67.here hx rfl (hb hby at_205) rfl rfl q) ?_
              show own_Go _ _ _ _ _ _ _ (T67.setTop (mkF m 207 #[.val (.long q0), .second, .val (.long q1), .second, .val (.long q2), .second, .val (.long q3), .second, .val (.long q4), .second, .val (.int p5), .val (.int (2 : Int32)), .val (.int t0), .val (.int t1), .val (.int t2), .val (.ref b35), .val (.ref b36), .val (.int (1 : Int32))] [(.ref b36), (.ref b35), (.ref b67), (.ref b67)]))
              refine own_init X67 hx hZ rfl hown (hw _ (List.mem_of_getElem? (i := 8) rfl)) (hw _ (List.mem_of_getElem? (i := 9) rfl)) (hw _ (List.mem_of_getElem? (i := 7) rfl)) (hw _ (List.mem_of_getElem? (i := 10) rfl)) (by decide) e67 (a := b67) (argsL := [(.ref b35), (.ref b36)]) (rest := [(.ref b67)]) (rm2 l Z a0 hw [] b67 b35 b36 h67 n0 Z67 A67 Fn67_least Fn67_most G67) 1 (by decide) (by decide) (by decide) (by decide) (by rw [hml]; rfl) pd_3 rfl rfl (Nat.le_of_eq rfl) (hb hby at_207) rfl ?_
              intro v70 T70 L70 X70 hQ70
              obtain ⟨rfl, N70q, K70, Eb, Fb1, Fb2⟩ := hQ70
              have N70 := Fr.app N47 N70q
              show own_Go _ _ _ _ _ _ _ (T70.setTop (mkF m 210 #[.val (.long q0), .second, .val (.long q1), .second, .val (.long q2), .second, .val (.long q3), .second, .val (.long q4), .second, .val (.int p5), .val (.int (2 : Int32)), .val (.int t0), .val (.int t1), .val (.int t2), .val (.ref b35), .val (.ref b36), .val (.int (1 : Int32))] [(.ref b67)]))
              have Z70 : n0 ≤ T70.heap.size := Nat.le_trans Z67 K70.1
              have f71 := ((B1.ext E67).keep K70 (ninS ne68 nin0))
              have f72 := ((B2.ext E67).keep K70 (ninS ne69 nin0))
              refine own_virtual X70 hx hZ hown (hw _ (List.mem_of_getElem? (i := 23) rfl)) (hw _ (List.mem_of_getElem? (i := 24) rfl)) (hw _ (List.mem_of_getElem? (i := 26) rfl)) (hw _ (List.mem_of_getElem? (i := 25) rfl)) (hw _ (List.mem_of_getElem? (i := 7) rfl)) (hw _ (List.mem_of_getElem? (i := 27) rfl)) (by decide) rfl (a := b67) Eb (argsL := []) (rest := []) (rm5 l Z a0 hw [] b67 b35 b36 (own_lo q0 q1 q2 q3 q4 t0 t1 t2) (own_hi q0 q1 q2 q3 q4 t0 t1 t2) 2 T70.heap n0 Z70 Fb1 Fb2 f71 f72 (by decide) (2 : Int32) rfl) 0 (by decide) (by decide) (by decide) (by decide) (by rw [hml]; rfl) pd_4 rfl rfl (Nat.le_of_eq rfl) (hb hby at_210) rfl ?_
              intro v73 T73 L73 X73 hQ73
              obtain ⟨r, rfl, N73q, e73q, hR⟩ := hQ73
              have N73 := Fr.app N70 N73q
              show own_Go _ _ _ _ _ _ _ (T73.setTop (mkF m 213 #[.val (.long q0), .second, .val (.long q1), .second, .val (.long q2), .second, .val (.long q3), .second, .val (.long q4), .second, .val (.int p5), .val (.int (2 : Int32)), .val (.int t0), .val (.int t1), .val (.int t2), .val (.ref b35), .val (.ref b36), .val (.int (1 : Int32))] [(.int r)]))
              refine own_go (fun _ q => XS.iload X73.here hx rfl (hb hby at_213) rfl q) ?_
              show own_Go _ _ _ _ _ _ _ (T73.setTop (mkF m 215 #[.val (.long q0), .second, .val (.long q1), .second, .val (.long q2), .second, .val (.long q3), .second, .val (.long q4), .second, .val (.int p5), .val (.int (2 : Int32)), .val (.int t0), .val (.int t1), .val (.int t2), .val (.ref b35), .val (.ref b36), .val (.int (1 : Int32))] [(.int (1 : Int32)), (.int r)]))
              refine own_go (fun _ q => XS.icmpNo X73.here hx rfl (hb hby at_215) rfl (teq ((own_final (k := 2) hb0 hb1 hb2 (by decide) hR).trans (by simp [own_exp, *]))).2 q) ?_
              show own_Go _ _ _ _ _ _ _ (T73.setTop (mkF m 218 #[.val (.long q0), .second, .val (.long q1), .second, .val (.long q2), .second, .val (.long q3), .second, .val (.long q4), .second, .val (.int p5), .val (.int (2 : Int32)), .val (.int t0), .val (.int t1), .val (.int t2), .val (.ref b35), .val (.ref b36), .val (.int (1 : Int32))] []))
              refine own_go (fun _ q => XS.iconst X73.here hx rfl (hb hby at_218) q) ?_
              show own_Go _ _ _ _ _ _ _ (T73.setTop (mkF m 219 #[.val (.long q0), .second, .val (.long q1), .second, .val (.long q2), .second, .val (.long q3), .second, .val (.long q4), .second, .val (.int p5), .val (.int (2 : Int32)), .val (.int t0), .val (.int t1), .val (.int t2), .val (.ref b35), .val (.ref b36), .val (.int (1 : Int32))] [(.int (1 : Int32))]))
              refine own_go (fun _ q => XS.goto X73.here hx rfl (pc0 := 219) (pc' := 223) rfl (hb hby at_219) (by decide) (by decide) q) ?_
              show own_Go _ _ _ _ _ _ _ (T73.setTop (mkF m 223 #[.val (.long q0), .second, .val (.long q1), .second, .val (.long q2), .second, .val (.long q3), .second, .val (.long q4), .second, .val (.int p5), .val (.int (2 : Int32)), .val (.int t0), .val (.int t1), .val (.int t2), .val (.ref b35), .val (.ref b36), .val (.int (1 : Int32))] [(.int (1 : Int32))]))
              exact own_retZ X73 hx hlk hret (hb hby at_223) (by decide) (by decide) (by decide) ⟨rfl, N73⟩
            · refine own_go (fun _ q => XS.ifNo X47.here hx rfl (hb hby at_193) rfl ((if0 _ _).trans (feq hc193_66).1) q) ?_
              show own_Go _ _ _ _ _ _ _ (T47.setTop (mkF m 196 #[.val (.long q0), .second, .val (.long q1), .second, .val (.long q2), .second, .val (.long q3), .second, .val (.long q4), .second, .val (.int p5), .val (.int (2 : Int32)), .val (.int t0), .val (.int t1), .val (.int t2), .val (.ref b35), .val (.ref b36), .val (.int (1 : Int32))] []))
              refine own_go (fun _ q => XS.iconst X47.here hx rfl (hb hby at_196) q) ?_
              show own_Go _ _ _ _ _ _ _ (T47.setTop (mkF m 197 #[.val (.long q0), .second, .val (.long q1), .second, .val (.long q2), .second, .val (.long q3), .second, .val (.long q4), .second, .val (.int p5), .val (.int (2 : Int32)), .val (.int t0), .val (.int t1), .val (.int t2), .val (.ref b35), .val (.ref b36), .val (.int (1 : Int32))] [(.int (0 : Int32))]))
              refine own_go (fun _ q => XS.istore X47.here hx rfl (hb hby at_197) rfl (l' := #[.val (.long q0), .second, .val (.long q1), .second, .val (.long q2), .second, .val (.long q3), .second, .val (.long q4), .second, .val (.int p5), .val (.int (2 : Int32)), .val (.int t0), .val (.int t1), .val (.int t2), .val (.ref b35), .val (.ref b36), .val (.int (0 : Int32))]) rfl q) ?_
              show own_Go _ _ _ _ _ _ _ (T47.setTop (mkF m 199 #[.val (.long q0), .second, .val (.long q1), .second, .val (.long q2), .second, .val (.long q3), .second, .val (.long q4), .second, .val (.int p5), .val (.int (2 : Int32)), .val (.int t0), .val (.int t1), .val (.int t2), .val (.ref b35), .val (.ref b36), .val (.int (0 : Int32))] []))
              obtain ⟨T74, h74, X74, e74, E74, A74, D74, -, st74⟩ := newO X47 hx hZ hown (hw _ (List.mem_of_getElem? (i := 5) rfl)) (hw _ (List.mem_of_getElem? (i := 6) rfl)) (hw _ (List.mem_of_getElem? (i := 7) rfl)) e47 (g := (mkF m 199 #[.val (.long q0), .second, .val (.long q1), .second, .val (.long q2), .second, .val (.long q3), .second, .val (.long q4), .second, .val (.int p5), .val (.int (2 : Int32)), .val (.int t0), .val (.int t1), .val (.int t2), .val (.ref b35), .val (.ref b36), .val (.int (0 : Int32))] [])) rfl (hb hby at_199) (by decide) (by decide)
              obtain ⟨b74, g74⟩ : ∃ z, z = h47.size := ⟨_, rfl⟩
              rw [← g74] at A74 D74 st74
              have ne75 : b35 ≠ b74 := Nat.ne_of_lt (Nat.lt_of_lt_of_eq (B1).lt g74.symm)
              have ne76 : b36 ≠ b74 := Nat.ne_of_lt (Nat.lt_of_lt_of_eq (B2).lt g74.symm)
              have G74 : n0 ≤ b74 := by have := Z47; omega
              have Z74 : n0 ≤ h74.size := Nat.le_trans Z47 E74.1
              have Fn74_least : Fld Z h74 b74 "com/example/slotwright/slotwright/SplitBox" "least" "[J" .null := D74 (Or.inr (hw _ (List.mem_of_getElem? (i := 20) rfl))) (ty := (.array .long)) (by decide)
              have Fn74_most : Fld Z h74 b74 "com/example/slotwright/slotwright/SplitBox" "most" "[J" .null := D74 (Or.inr (hw _ (List.mem_of_getElem? (i := 22) rfl))) (ty := (.array .long)) (by decide)
              refine own_go st74 ?_
              show own_Go _ _ _ _ _ _ _ (T74.setTop (mkF m 202 #[.val (.long q0), .second, .val (.long q1), .second, .val (.long q2), .second, .val (.long q3), .second, .val (.long q4), .second, .val (.int p5), .val (.int (2 : Int32)), .val (.int t0), .val (.int t1), .val (.int t2), .val (.ref b35), .val (.ref b36), .val (.int (0 : Int32))] [(.ref b74)]))
              refine own_go (fun _ q => XS.dup X74.here hx rfl (hb hby at_202) rfl rfl q) ?_
              show own_Go _ _ _ _ _ _ _ (T74.setTop (mkF m 203 #[.val (.long q0), .second, .val (.long q1), .second, .val (.long q2), .second, .val (.long q3), .second, .val (.long q4), .second, .val (.int p5), .val (.int (2 : Int32)), .val (.int t0), .val (.int t1), .val (.int t2), .val (.ref b35), .val (.ref b36), .val (.int (0 : Int32))] [(.ref b74), (.ref b74)]))
              refine own_go (fun _ q => XS.aload X74.here hx rfl (hb hby at_203) rfl rfl q) ?_
              show own_Go _ _ _ _ _ _ _ (T74.setTop (mkF m 205 #[.val (.long q0), .second, .val (.long q1), .second, .val (.long q2), .second, .val (.long q3), .second, .val (.long q4), .second, .val (.int p5), .val (.int (2 : Int32)), .val (.int t0), .val (.int t1), .val (.int t2), .val (.ref b35), .val (.ref b36), .val (.int (0 : Int32))] [(.ref b35), (.ref b74), (.ref b74)]))
              refine own_go (fun _ q => XS.aload X74.here hx rfl (hb hby at_205) rfl rfl q) ?_
              show own_Go _ _ _ _ _ _ _ (T74.setTop (mkF m 207 #[.val (.long q0), .second, .val (.long q1), .second, .val (.long q2), .second, .val (.long q3), .second, .val (.long q4), .second, .val (.int p5), .val (.int (2 : Int32)), .val (.int t0), .val (.int t1), .val (.int t2), .val (.ref b35), .val (.ref b36), .val (.int (0 : Int32))] [(.ref b36), (.ref b35), (.ref b74), (.ref b74)]))
              refine own_init X74 hx hZ rfl hown (hw _ (List.mem_of_getElem? (i := 8) rfl)) (hw _ (List.mem_of_getElem? (i := 9) rfl)) (hw _ (List.mem_of_getElem? (i := 7) rfl)) (hw _ (List.mem_of_getElem? (i := 10) rfl)) (by decide) e74 (a := b74) (argsL := [(.ref b35), (.ref b36)]) (rest := [(.ref b74)]) (rm2 l Z a0 hw [] b74 b35 b36 h74 n0 Z74 A74 Fn74_least Fn74_most G74) 1 (by decide) (by decide) (by decide) (by decide) (by rw [hml]; rfl) pd_3 rfl rfl (Nat.le_of_eq rfl) (hb hby at_207) rfl ?_
              intro v77 T77 L77 X77 hQ77
              obtain ⟨rfl, N77q, K77, Eb, Fb1, Fb2⟩ := hQ77
              have N77 := Fr.app N47 N77q
              show own_Go _ _ _ _ _ _ _ (T77.setTop (mkF m 210 #[.val (.long q0), .second, .val (.long q1), .second, .val (.long q2), .second, .val (.long q3), .second, .val (.long q4), .second, .val (.int p5), .val (.int (2 : Int32)), .val (.int t0), .val (.int t1), .val (.int t2), .val (.ref b35), .val (.ref b36), .val (.int (0 : Int32))] [(.ref b74)]))
              have Z77 : n0 ≤ T77.heap.size := Nat.le_trans Z74 K77.1
              have f78 := ((B1.ext E74).keep K77 (ninS ne75 nin0))
              have f79 := ((B2.ext E74).keep K77 (ninS ne76 nin0))
              refine own_virtual X77 hx hZ hown (hw _ (List.mem_of_getElem? (i := 23) rfl)) (hw _ (List.mem_of_getElem? (i := 24) rfl)) (hw _ (List.mem_of_getElem? (i := 26) rfl)) (hw _ (List.mem_of_getElem? (i := 25) rfl)) (hw _ (List.mem_of_getElem? (i := 7) rfl)) (hw _ (List.mem_of_getElem? (i := 27) rfl)) (by decide) rfl (a := b74) Eb (argsL := []) (rest := []) (rm5 l Z a0 hw [] b74 b35 b36 (own_lo q0 q1 q2 q3 q4 t0 t1 t2) (own_hi q0 q1 q2 q3 q4 t0 t1 t2) 2 T77.heap n0 Z77 Fb1 Fb2 f78 f79 (by decide) (2 : Int32) rfl) 0 (by decide) (by decide) (by decide) (by decide) (by rw [hml]; rfl) pd_4 rfl rfl (Nat.le_of_eq rfl) (hb hby at_210) rfl ?_
              intro v80 T80 L80 X80 hQ80
              obtain ⟨r, rfl, N80q, e80q, hR⟩ := hQ80
              have N80 := Fr.app N77 N80q
              show own_Go _ _ _ _ _ _ _ (T80.setTop (mkF m 213 #[.val (.long q0), .second, .val (.long q1), .second, .val (.long q2), .second, .val (.long q3), .second, .val (.long q4), .second, .val (.int p5), .val (.int (2 : Int32)), .val (.int t0), .val (.int t1), .val (.int t2), .val (.ref b35), .val (.ref b36), .val (.int (0 : Int32))] [(.int r)]))
              refine own_go (fun _ q => XS.iload X80.here hx rfl (hb hby at_213) rfl q) ?_
              show own_Go _ _ _ _ _ _ _ (T80.setTop (mkF m 215 #[.val (.long q0), .second, .val (.long q1), .second, .val (.long q2), .second, .val (.long q3), .second, .val (.long q4), .second, .val (.int p5), .val (.int (2 : Int32)), .val (.int t0), .val (.int t1), .val (.int t2), .val (.ref b35), .val (.ref b36), .val (.int (0 : Int32))] [(.int (0 : Int32)), (.int r)]))
              refine own_go (fun _ q => XS.icmpNo X80.here hx rfl (hb hby at_215) rfl (teq ((own_final (k := 2) hb0 hb1 hb2 (by decide) hR).trans (by simp [own_exp, *]))).2 q) ?_
              show own_Go _ _ _ _ _ _ _ (T80.setTop (mkF m 218 #[.val (.long q0), .second, .val (.long q1), .second, .val (.long q2), .second, .val (.long q3), .second, .val (.long q4), .second, .val (.int p5), .val (.int (2 : Int32)), .val (.int t0), .val (.int t1), .val (.int t2), .val (.ref b35), .val (.ref b36), .val (.int (0 : Int32))] []))
              refine own_go (fun _ q => XS.iconst X80.here hx rfl (hb hby at_218) q) ?_
              show own_Go _ _ _ _ _ _ _ (T80.setTop (mkF m 219 #[.val (.long q0), .second, .val (.long q1), .second, .val (.long q2), .second, .val (.long q3), .second, .val (.long q4), .second, .val (.int p5), .val (.int (2 : Int32)), .val (.int t0), .val (.int t1), .val (.int t2), .val (.ref b35), .val (.ref b36), .val (.int (0 : Int32))] [(.int (1 : Int32))]))
              refine own_go (fun _ q => XS.goto X80.here hx rfl (pc0 := 219) (pc' := 223) rfl (hb hby at_219) (by decide) (by decide) q) ?_
              show own_Go _ _ _ _ _ _ _ (T80.setTop (mkF m 223 #[.val (.long q0), .second, .val (.long q1), .second, .val (.long q2), .second, .val (.long q3), .second, .val (.long q4), .second, .val (.int p5), .val (.int (2 : Int32)), .val (.int t0), .val (.int t1), .val (.int t2), .val (.ref b35), .val (.ref b36), .val (.int (0 : Int32))] [(.int (1 : Int32))]))
              exact own_retZ X80 hx hlk hret (hb hby at_223) (by decide) (by decide) (by decide) ⟨rfl, N80⟩
        · rw [q]
          show own_Go _ _ _ _ _ _ _ (s₁.setTop (mkF m 52 #[.val (.long q0), .second, .val (.long q1), .second, .val (.long q2), .second, .val (.long q3), .second, .val (.long q4), .second, .val (.int p5), .val (.int (3 : Int32)), .val (.int t0), .val (.int t1), .val (.int t2), .unset, .unset, .unset] [(.int (3 : Int32))]))
          refine own_static X0 hx hZ hown (hw _ (List.mem_of_getElem? (i := 0) rfl)) (hw _ (List.mem_of_getElem? (i := 1) rfl)) (hw _ (List.mem_of_getElem? (i := 2) rfl)) (hw _ (List.mem_of_getElem? (i := 3) rfl)) (by decide) e0 (argsL := [(.int (3 : Int32))]) (rest := []) (rm1 l Z a0 hw [] (3 : Int32) 3 h0 n0 Z0 rfl (by decide)) 0 (by decide) (by decide) (by decide) (by decide) (by rw [hml]; rfl) pd_2 rfl rfl (Nat.le_of_eq rfl) (hb hby at_52) rfl ?_
          intro v81 T81 L81 X81 hQ81
          obtain ⟨b81, rfl, N81q, Ex81, G81, gb81, A81⟩ := hQ81
          have N81 := Fr.app N0 N81q
          show own_Go _ _ _ _ _ _ _ (T81.setTop (mkF m 55 #[.val (.long q0), .second, .val (.long q1), .second, .val (.long q2), .second, .val (.long q3), .second, .val (.long q4), .second, .val (.int p5), .val (.int (3 : Int32)), .val (.int t0), .val (.int t1), .val (.int t2), .unset, .unset, .unset] [(.ref b81)]))
          have Z81 : n0 ≤ T81.heap.size := Nat.le_trans Z0 Ex81.1
          refine own_go (fun _ q => XS.astore X81.here hx rfl (hb hby at_55) rfl rfl (l' := #[.val (.long q0), .second, .val (.long q1), .second, .val (.long q2), .second, .val (.long q3), .second, .val (.long q4), .second, .val (.int p5), .val (.int (3 : Int32)), .val (.int t0), .val (.int t1), .val (.int t2), .val (.ref b81), .unset, .unset]) rfl q) ?_
          show own_Go _ _ _ _ _ _ _ (T81.setTop (mkF m 57 #[.val (.long q0), .second, .val (.long q1), .second, .val (.long q2), .second, .val (.long q3), .second, .val (.long q4), .second, .val (.int p5), .val (.int (3 : Int32)), .val (.int t0), .val (.int t1), .val (.int t2), .val (.ref b81), .unset, .unset] []))
          refine own_go (fun _ q => XS.iload X81.here hx rfl (hb hby at_57) rfl q) ?_
          show own_Go _ _ _ _ _ _ _ (T81.setTop (mkF m 59 #[.val (.long q0), .second, .val (.long q1), .second, .val (.long q2), .second, .val (.long q3), .second, .val (.long q4), .second, .val (.int p5), .val (.int (3 : Int32)), .val (.int t0), .val (.int t1), .val (.int t2), .val (.ref b81), .unset, .unset] [(.int (3 : Int32))]))
          refine own_static X81 hx hZ hown (hw _ (List.mem_of_getElem? (i := 0) rfl)) (hw _ (List.mem_of_getElem? (i := 1) rfl)) (hw _ (List.mem_of_getElem? (i := 2) rfl)) (hw _ (List.mem_of_getElem? (i := 3) rfl)) (by decide) rfl (argsL := [(.int (3 : Int32))]) (rest := []) (rm1 l Z a0 hw [] (3 : Int32) 3 T81.heap n0 Z81 rfl (by decide)) 0 (by decide) (by decide) (by decide) (by decide) (by rw [hml]; rfl) pd_2 rfl rfl (Nat.le_of_eq rfl) (hb hby at_59) rfl ?_
          intro v82 T82 L82 X82 hQ82
          obtain ⟨b82, rfl, N82q, Ex82, G82, gb82, A82⟩ := hQ82
          have N82 := Fr.app N81 N82q
          show own_Go _ _ _ _ _ _ _ (T82.setTop (mkF m 62 #[.val (.long q0), .second, .val (.long q1), .second, .val (.long q2), .second, .val (.long q3), .second, .val (.long q4), .second, .val (.int p5), .val (.int (3 : Int32)), .val (.int t0), .val (.int t1), .val (.int t2), .val (.ref b81), .unset, .unset] [(.ref b82)]))
          have Z82 : n0 ≤ T82.heap.size := Nat.le_trans Z81 Ex82.1
          have neq : b81 ≠ b82 := Nat.ne_of_lt (Nat.lt_of_lt_of_eq (A81).lt gb82.symm)
          refine own_go (fun _ q => XS.astore X82.here hx rfl (hb hby at_62) rfl rfl (l' := #[.val (.long q0), .second, .val (.long q1), .second, .val (.long q2), .second, .val (.long q3), .second, .val (.long q4), .second, .val (.int p5), .val (.int (3 : Int32)), .val (.int t0), .val (.int t1), .val (.int t2), .val (.ref b81), .val (.ref b82), .unset]) rfl q) ?_
          show own_Go _ _ _ _ _ _ _ (T82.setTop (mkF m 64 #[.val (.long q0), .second, .val (.long q1), .second, .val (.long q2), .second, .val (.long q3), .second, .val (.long q4), .second, .val (.int p5), .val (.int (3 : Int32)), .val (.int t0), .val (.int t1), .val (.int t2), .val (.ref b81), .val (.ref b82), .unset] []))
          refine own_go (fun _ q => XS.iload X82.here hx rfl (hb hby at_64) rfl q) ?_
          show own_Go _ _ _ _ _ _ _ (T82.setTop (mkF m 66 #[.val (.long q0), .second, .val (.long q1), .second, .val (.long q2), .second, .val (.long q3), .second, .val (.long q4), .second, .val (.int p5), .val (.int (3 : Int32)), .val (.int t0), .val (.int t1), .val (.int t2), .val (.ref b81), .val (.ref b82), .unset] [(.int (3 : Int32))]))
          refine own_go (fun _ q => XS.ifNo X82.here hx rfl (hb hby at_66) rfl ((if0 _ _).trans (tlt (by decide : (0 : Int32) < (3 : Int32))).2.2.2) q) ?_
          show own_Go _ _ _ _ _ _ _ (T82.setTop (mkF m 69 #[.val (.long q0), .second, .val (.long q1), .second, .val (.long q2), .second, .val (.long q3), .second, .val (.long q4), .second, .val (.int p5), .val (.int (3 : Int32)), .val (.int t0), .val (.int t1), .val (.int t2), .val (.ref b81), .val (.ref b82), .unset] []))
          refine own_go (fun _ q => XS.aload X82.here hx rfl (hb hby at_69) rfl rfl q) ?_
          show own_Go _ _ _ _ _ _ _ (T82.setTop (mkF m 71 #[.val (.long q0), .second, .val (.long q1), .second, .val (.long q2), .second, .val (.long q3), .second, .val (.long q4), .second, .val (.int p5), .val (.int (3 : Int32)), .val (.int t0), .val (.int t1), .val (.int t2), .val (.ref b81), .val (.ref b82), .unset] [(.ref b81)]))
          refine own_go (fun _ q => XS.iconst X82.here hx rfl (hb hby at_71) q) ?_
          show own_Go _ _ _ _ _ _ _ (T82.setTop (mkF m 72 #[.val (.long q0), .second, .val (.long q1), .second, .val (.long q2), .second, .val (.long q3), .second, .val (.long q4), .second, .val (.int p5), .val (.int (3 : Int32)), .val (.int t0), .val (.int t1), .val (.int t2), .val (.ref b81), .val (.ref b82), .unset] [(.int (0 : Int32)), (.ref b81)]))
          refine own_go (fun _ q => XS.lloadN X82.here hx rfl (hb hby at_72) rfl q) ?_
          show own_Go _ _ _ _ _ _ _ (T82.setTop (mkF m 73 #[.val (.long q0), .second, .val (.long q1), .second, .val (.long q2), .second, .val (.long q3), .second, .val (.long q4), .second, .val (.int p5), .val (.int (3 : Int32)), .val (.int t0), .val (.int t1), .val (.int t2), .val (.ref b81), .val (.ref b82), .unset] [(.long q0), (.int (0 : Int32)), (.ref b81)]))
          refine own_go (fun _ q => XS.lload X82.here hx rfl (hb hby at_73) rfl q) ?_
          show own_Go _ _ _ _ _ _ _ (T82.setTop (mkF m 75 #[.val (.long q0), .second, .val (.long q1), .second, .val (.long q2), .second, .val (.long q3), .second, .val (.long q4), .second, .val (.int p5), .val (.int (3 : Int32)), .val (.int t0), .val (.int t1), .val (.int t2), .val (.ref b81), .val (.ref b82), .unset] [(.long q3), (.long q0), (.int (0 : Int32)), (.ref b81)]))
          refine own_go (fun _ q => XS.iload X82.here hx rfl (hb hby at_75) rfl q) ?_
          show own_Go _ _ _ _ _ _ _ (T82.setTop (mkF m 77 #[.val (.long q0), .second, .val (.long q1), .second, .val (.long q2), .second, .val (.long q3), .second, .val (.long q4), .second, .val (.int p5), .val (.int (3 : Int32)), .val (.int t0), .val (.int t1), .val (.int t2), .val (.ref b81), .val (.ref b82), .unset] [(.int t0), (.long q3), (.long q0), (.int (0 : Int32)), (.ref b81)]))
          refine own_static X82 hx hZ hown (hw _ (List.mem_of_getElem? (i := 28) rfl)) (hw _ (List.mem_of_getElem? (i := 29) rfl)) (hw _ (List.mem_of_getElem? (i := 2) rfl)) (hw _ (List.mem_of_getElem? (i := 30) rfl)) (by decide) rfl (argsL := [(.long q0), (.long q3), (.int t0)]) (rest := [(.int (0 : Int32)), (.ref b81)]) (rm6 l Z a0 hw [] q0 q3 t0 T82.heap n0 Z82) 2 (by decide) (by decide) (by decide) (by decide) (by rw [hml]; rfl) pd_5 rfl rfl (Nat.le_of_eq rfl) (hb hby at_77) rfl ?_
          intro v83 T83 L83 X83 hQ83
          obtain ⟨rfl, N83q, e83q⟩ := hQ83
          have N83 := Fr.app N82 N83q
          show own_Go _ _ _ _ _ _ _ (T83.setTop (mkF m 80 #[.val (.long q0), .second, .val (.long q1), .second, .val (.long q2), .second, .val (.long q3), .second, .val (.long q4), .second, .val (.int p5), .val (.int (3 : Int32)), .val (.int t0), .val (.int t1), .val (.int t2), .val (.ref b81), .val (.ref b82), .unset] [(.long (own_low q0 q3 t0)), (.int (0 : Int32)), (.ref b81)]))
          have f85 := (A81.ext Ex82)
          refine own_lastore X83 hx hZ e83q (i := 0) f85 rfl (by decide) (hb hby at_80) rfl ?_
          intro T84 h84 X84 e84 W84 A84
          have N84 := Fr.snoc X84 N83 G81
          have Z84 : n0 ≤ h84.size := by rw [W84.size]; exact Z82
          show own_Go _ _ _ _ _ _ _ (T84.setTop (mkF m 81 #[.val (.long q0), .second, .val (.long q1), .second, .val (.long q2), .second, .val (.long q3), .second, .val (.long q4), .second, .val (.int p5), .val (.int (3 : Int32)), .val (.int t0), .val (.int t1), .val (.int t2), .val (.ref b81), .val (.ref b82), .unset] []))
          refine own_go (fun _ q => XS.aload X84.here hx rfl (hb hby at_81) rfl rfl q) ?_
          show own_Go _ _ _ _ _ _ _ (T84.setTop (mkF m 83 #[.val (.long q0), .second, .val (.long q1), .second, .val (.long q2), .second, .val (.long q3), .second, .val (.long q4), .second, .val (.int p5), .val (.int (3 : Int32)), .val (.int t0), .val (.int t1), .val (.int t2), .val (.ref b81), .val (.ref b82), .unset] [(.ref b82)]))
          refine own_go (fun _ q => XS.iconst X84.here hx rfl (hb hby at_83) q) ?_
          show own_Go _ _ _ _ _ _ _ (T84.setTop (mkF m 84 #[.val (.long q0), .second, .val (.long q1), .second, .val (.long q2), .second, .val (.long q3), .second, .val (.long q4), .second, .val (.int p5), .val (.int (3 : Int32)), .val (.int t0), .val (.int t1), .val (.int t2), .val (.ref b81), .val (.ref b82), .unset] [(.int (0 : Int32)), (.ref b82)]))
          refine own_go (fun _ q => XS.lloadN X84.here hx rfl (hb hby at_84) rfl q) ?_
          show own_Go _ _ _ _ _ _ _ (T84.setTop (mkF m 85 #[.val (.long q0), .second, .val (.long q1), .second, .val (.long q2), .second, .val (.long q3), .second, .val (.long q4), .second, .val (.int p5), .val (.int (3 : Int32)), .val (.int t0), .val (.int t1), .val (.int t2), .val (.ref b81), .val (.ref b82), .unset] [(.long q0), (.int (0 : Int32)), (.ref b82)]))
          refine own_go (fun _ q => XS.lload X84.here hx rfl (hb hby at_85) rfl q) ?_
          show own_Go _ _ _ _ _ _ _ (T84.setTop (mkF m 87 #[.val (.long q0), .second, .val (.long q1), .second, .val (.long q2), .second, .val (.long q3), .second, .val (.long q4), .second, .val (.int p5), .val (.int (3 : Int32)), .val (.int t0), .val (.int t1), .val (.int t2), .val (.ref b81), .val (.ref b82), .unset] [(.long q3), (.long q0), (.int (0 : Int32)), (.ref b82)]))
          refine own_go (fun _ q => XS.iload X84.here hx rfl (hb hby at_87) rfl q) ?_
          show own_Go _ _ _ _ _ _ _ (T84.setTop (mkF m 89 #[.val (.long q0), .second, .val (.long q1), .second, .val (.long q2), .second, .val (.long q3), .second, .val (.long q4), .second, .val (.int p5), .val (.int (3 : Int32)), .val (.int t0), .val (.int t1), .val (.int t2), .val (.ref b81), .val (.ref b82), .unset] [(.int t0), (.long q3), (.long q0), (.int (0 : Int32)), (.ref b82)]))
          refine own_static X84 hx hZ hown (hw _ (List.mem_of_getElem? (i := 31) rfl)) (hw _ (List.mem_of_getElem? (i := 32) rfl)) (hw _ (List.mem_of_getElem? (i := 2) rfl)) (hw _ (List.mem_of_getElem? (i := 33) rfl)) (by decide) e84 (argsL := [(.long q0), (.long q3), (.int t0)]) (rest := [(.int (0 : Int32)), (.ref b82)]) (rm7 l Z a0 hw [] q0 q3 t0 h84 n0 Z84) 2 (by decide) (by decide) (by decide) (by decide) (by rw [hml]; rfl) pd_5 rfl rfl (Nat.le_of_eq rfl) (hb hby at_89) rfl ?_
          intro v86 T86 L86 X86 hQ86
          obtain ⟨rfl, N86q, e86q⟩ := hQ86
          have N86 := Fr.app N84 N86q
          show own_Go _ _ _ _ _ _ _ (T86.setTop (mkF m 92 #[.val (.long q0), .second, .val (.long q1), .second, .val (.long q2), .second, .val (.long q3), .second, .val (.long q4), .second, .val (.int p5), .val (.int (3 : Int32)), .val (.int t0), .val (.int t1), .val (.int t2), .val (.ref b81), .val (.ref b82), .unset] [(.long (own_high q0 q3 t0)), (.int (0 : Int32)), (.ref b82)]))
          have f88 := (A82.other W84 (Ne.symm neq))
          refine own_lastore X86 hx hZ e86q (i := 0) f88 rfl (by decide) (hb hby at_92) rfl ?_
          intro T87 h87 X87 e87 W87 A87
          have N87 := Fr.snoc X87 N86 G82
          have Z87 : n0 ≤ h87.size := by rw [W87.size]; exact Z84
          show own_Go _ _ _ _ _ _ _ (T87.setTop (mkF m 93 #[.val (.long q0), .second, .val (.long q1), .second, .val (.long q2), .second, .val (.long q3), .second, .val (.long q4), .second, .val (.int p5), .val (.int (3 : Int32)), .val (.int t0), .val (.int t1), .val (.int t2), .val (.ref b81), .val (.ref b82), .unset] []))
          refine own_go (fun _ q => XS.iload X87.here hx rfl (hb hby at_93) rfl q) ?_
          show own_Go _ _ _ _ _ _ _ (T87.setTop (mkF m 95 #[.val (.long q0), .second, .val (.long q1), .second, .val (.long q2), .second, .val (.long q3), .second, .val (.long q4), .second, .val (.int p5), .val (.int (3 : Int32)), .val (.int t0), .val (.int t1), .val (.int t2), .val (.ref b81), .val (.ref b82), .unset] [(.int (3 : Int32))]))
          refine own_go (fun _ q => XS.iconst X87.here hx rfl (hb hby at_95) q) ?_
          show own_Go _ _ _ _ _ _ _ (T87.setTop (mkF m 96 #[.val (.long q0), .second, .val (.long q1), .second, .val (.long q2), .second, .val (.long q3), .second, .val (.long q4), .second, .val (.int p5), .val (.int (3 : Int32)), .val (.int t0), .val (.int t1), .val (.int t2), .val (.ref b81), .val (.ref b82), .unset] [(.int (1 : Int32)), (.int (3 : Int32))]))
          refine own_go (fun _ q => XS.icmpNo X87.here hx rfl (hb hby at_96) rfl (tlt (by decide : (1 : Int32) < (3 : Int32))).2.2.2 q) ?_
          show own_Go _ _ _ _ _ _ _ (T87.setTop (mkF m 99 #[.val (.long q0), .second, .val (.long q1), .second, .val (.long q2), .second, .val (.long q3), .second, .val (.long q4), .second, .val (.int p5), .val (.int (3 : Int32)), .val (.int t0), .val (.int t1), .val (.int t2), .val (.ref b81), .val (.ref b82), .unset] []))
          refine own_go (fun _ q => XS.aload X87.here hx rfl (hb hby at_99) rfl rfl q) ?_
          show own_Go _ _ _ _ _ _ _ (T87.setTop (mkF m 101 #[.val (.long q0), .second, .val (.long q1), .second, .val (.long q2), .second, .val (.long q3), .second, .val (.long q4), .second, .val (.int p5), .val (.int (3 : Int32)), .val (.int t0), .val (.int t1), .val (.int t2), .val (.ref b81), .val (.ref b82), .unset] [(.ref b81)]))
          refine own_go (fun _ q => XS.iconst X87.here hx rfl (hb hby at_101) q) ?_
          show own_Go _ _ _ _ _ _ _ (T87.setTop (mkF m 102 #[.val (.long q0), .second, .val (.long q1), .second, .val (.long q2), .second, .val (.long q3), .second, .val (.long q4), .second, .val (.int p5), .val (.int (3 : Int32)), .val (.int t0), .val (.int t1), .val (.int t2), .val (.ref b81), .val (.ref b82), .unset] [(.int (1 : Int32)), (.ref b81)]))
          refine own_go (fun _ q => XS.lloadN X87.here hx rfl (hb hby at_102) rfl q) ?_
          show own_Go _ _ _ _ _ _ _ (T87.setTop (mkF m 103 #[.val (.long q0), .second, .val (.long q1), .second, .val (.long q2), .second, .val (.long q3), .second, .val (.long q4), .second, .val (.int p5), .val (.int (3 : Int32)), .val (.int t0), .val (.int t1), .val (.int t2), .val (.ref b81), .val (.ref b82), .unset] [(.long q1), (.int (1 : Int32)), (.ref b81)]))
          refine own_go (fun _ q => XS.lload X87.here hx rfl (hb hby at_103) rfl q) ?_
          show own_Go _ _ _ _ _ _ _ (T87.setTop (mkF m 105 #[.val (.long q0), .second, .val (.long q1), .second, .val (.long q2), .second, .val (.long q3), .second, .val (.long q4), .second, .val (.int p5), .val (.int (3 : Int32)), .val (.int t0), .val (.int t1), .val (.int t2), .val (.ref b81), .val (.ref b82), .unset] [(.long q4), (.long q1), (.int (1 : Int32)), (.ref b81)]))
          refine own_go (fun _ q => XS.iload X87.here hx rfl (hb hby at_105) rfl q) ?_
          show own_Go _ _ _ _ _ _ _ (T87.setTop (mkF m 107 #[.val (.long q0), .second, .val (.long q1), .second, .val (.long q2), .second, .val (.long q3), .second, .val (.long q4), .second, .val (.int p5), .val (.int (3 : Int32)), .val (.int t0), .val (.int t1), .val (.int t2), .val (.ref b81), .val (.ref b82), .unset] [(.int t1), (.long q4), (.long q1), (.int (1 : Int32)), (.ref b81)]))
          refine own_static X87 hx hZ hown (hw _ (List.mem_of_getElem? (i := 28) rfl)) (hw _ (List.mem_of_getElem? (i := 29) rfl)) (hw _ (List.mem_of_getElem? (i := 2) rfl)) (hw _ (List.mem_of_getElem? (i := 30) rfl)) (by decide) e87 (argsL := [(.long q1), (.long q4), (.int t1)]) (rest := [(.int (1 : Int32)), (.ref b81)]) (rm6 l Z a0 hw [] q1 q4 t1 h87 n0 Z87) 2 (by decide) (by decide) (by decide) (by decide) (by rw [hml]; rfl) pd_5 rfl rfl (Nat.le_of_eq rfl) (hb hby at_107) rfl ?_
          intro v89 T89 L89 X89 hQ89
          obtain ⟨rfl, N89q, e89q⟩ := hQ89
          have N89 := Fr.app N87 N89q
          show own_Go _ _ _ _ _ _ _ (T89.setTop (mkF m 110 #[.val (.long q0), .second, .val (.long q1), .second, .val (.long q2), .second, .val (.long q3), .second, .val (.long q4), .second, .val (.int p5), .val (.int (3 : Int32)), .val (.int t0), .val (.int t1), .val (.int t2), .val (.ref b81), .val (.ref b82), .unset] [(.long (own_low q1 q4 t1)), (.int (1 : Int32)), (.ref b81)]))
          have f91 := (A84.other W87 neq)
          refine own_lastore X89 hx hZ e89q (i := 1) f91 rfl (by decide) (hb hby at_110) rfl ?_
          intro T90 h90 X90 e90 W90 A90
          have N90 := Fr.snoc X90 N89 G81
          have Z90 : n0 ≤ h90.size := by rw [W90.size]; exact Z87
          show own_Go _ _ _ _ _ _ _ (T90.setTop (mkF m 111 #[.val (.long q0), .second, .val (.long q1), .second, .val (.long q2), .second, .val (.long q3), .second, .val (.long q4), .second, .val (.int p5), .val (.int (3 : Int32)), .val (.int t0), .val (.int t1), .val (.int t2), .val (.ref b81), .val (.ref b82), .unset] []))
          refine own_go (fun _ q => XS.aload X90.here hx rfl (hb hby at_111) rfl rfl q) ?_
          show own_Go _ _ _ _ _ _ _ (T90.setTop (mkF m 113 #[.val (.long q0), .second, .val (.long q1), .second, .val (.long q2), .second, .val (.long q3), .second, .val (.long q4), .second, .val (.int p5), .val (.int (3 : Int32)), .val (.int t0), .val (.int t1), .val (.int t2), .val (.ref b81), .val (.ref b82), .unset] [(.ref b82)]))
          refine own_go (fun _ q => XS.iconst X90.here hx rfl (hb hby at_113) q) ?_
          show own_Go _ _ _ _ _ _ _ (T90.setTop (mkF m 114 #[.val (.long q0), .second, .val (.long q1), .second, .val (.long q2), .second, .val (.long q3), .second, .val (.long q4), .second, .val (.int p5), .val (.int (3 : Int32)), .val (.int t0), .val (.int t1), .val (.int t2), .val (.ref b81), .val (.ref b82), .unset] [(.int (1 : Int32)), (.ref b82)]))
          refine own_go (fun _ q => XS.lloadN X90.here hx rfl (hb hby at_114) rfl q) ?_
          show own_Go _ _ _ _ _ _ _ (T90.setTop (mkF m 115 #[.val (.long q0), .second, .val (.long q1), .second, .val (.long q2), .second, .val (.long q3), .second, .val (.long q4), .second, .val (.int p5), .val (.int (3 : Int32)), .val (.int t0), .val (.int t1), .val (.int t2), .val (.ref b81), .val (.ref b82), .unset] [(.long q1), (.int (1 : Int32)), (.ref b82)]))
          refine own_go (fun _ q => XS.lload X90.here hx rfl (hb hby at_115) rfl q) ?_
          show own_Go _ _ _ _ _ _ _ (T90.setTop (mkF m 117 #[.val (.long q0), .second, .val (.long q1), .second, .val (.long q2), .second, .val (.long q3), .second, .val (.long q4), .second, .val (.int p5), .val (.int (3 : Int32)), .val (.int t0), .val (.int t1), .val (.int t2), .val (.ref b81), .val (.ref b82), .unset] [(.long q4), (.long q1), (.int (1 : Int32)), (.ref b82)]))
          refine own_go (fun _ q => XS.iload X90.here hx rfl (hb hby at_117) rfl q) ?_
          show own_Go _ _ _ _ _ _ _ (T90.setTop (mkF m 119 #[.val (.long q0), .second, .val (.long q1), .second, .val (.long q2), .second, .val (.long q3), .second, .val (.long q4), .second, .val (.int p5), .val (.int (3 : Int32)), .val (.int t0), .val (.int t1), .val (.int t2), .val (.ref b81), .val (.ref b82), .unset] [(.int t1), (.long q4), (.long q1), (.int (1 : Int32)), (.ref b82)]))
          refine own_static X90 hx hZ hown (hw _ (List.mem_of_getElem? (i := 31) rfl)) (hw _ (List.mem_of_getElem? (i := 32) rfl)) (hw _ (List.mem_of_getElem? (i := 2) rfl)) (hw _ (List.mem_of_getElem? (i := 33) rfl)) (by decide) e90 (argsL := [(.long q1), (.long q4), (.int t1)]) (rest := [(.int (1 : Int32)), (.ref b82)]) (rm7 l Z a0 hw [] q1 q4 t1 h90 n0 Z90) 2 (by decide) (by decide) (by decide) (by decide) (by rw [hml]; rfl) pd_5 rfl rfl (Nat.le_of_eq rfl) (hb hby at_119) rfl ?_
          intro v92 T92 L92 X92 hQ92
          obtain ⟨rfl, N92q, e92q⟩ := hQ92
          have N92 := Fr.app N90 N92q
          show own_Go _ _ _ _ _ _ _ (T92.setTop (mkF m 122 #[.val (.long q0), .second, .val (.long q1), .second, .val (.long q2), .second, .val (.long q3), .second, .val (.long q4), .second, .val (.int p5), .val (.int (3 : Int32)), .val (.int t0), .val (.int t1), .val (.int t2), .val (.ref b81), .val (.ref b82), .unset] [(.long (own_high q1 q4 t1)), (.int (1 : Int32)), (.ref b82)]))
          have f94 := (A87.other W90 (Ne.symm neq))
          refine own_lastore X92 hx hZ e92q (i := 1) f94 rfl (by decide) (hb hby at_122) rfl ?_
          intro T93 h93 X93 e93 W93 A93
          have N93 := Fr.snoc X93 N92 G82
          have Z93 : n0 ≤ h93.size := by rw [W93.size]; exact Z90
          show own_Go _ _ _ _ _ _ _ (T93.setTop (mkF m 123 #[.val (.long q0), .second, .val (.long q1), .second, .val (.long q2), .second, .val (.long q3), .second, .val (.long q4), .second, .val (.int p5), .val (.int (3 : Int32)), .val (.int t0), .val (.int t1), .val (.int t2), .val (.ref b81), .val (.ref b82), .unset] []))
          refine own_go (fun _ q => XS.iload X93.here hx rfl (hb hby at_123) rfl q) ?_
          show own_Go _ _ _ _ _ _ _ (T93.setTop (mkF m 125 #[.val (.long q0), .second, .val (.long q1), .second, .val (.long q2), .second, .val (.long q3), .second, .val (.long q4), .second, .val (.int p5), .val (.int (3 : Int32)), .val (.int t0), .val (.int t1), .val (.int t2), .val (.ref b81), .val (.ref b82), .unset] [(.int (3 : Int32))]))
          refine own_go (fun _ q => XS.iconst X93.here hx rfl (hb hby at_125) q) ?_
          show own_Go _ _ _ _ _ _ _ (T93.setTop (mkF m 126 #[.val (.long q0), .second, .val (.long q1), .second, .val (.long q2), .second, .val (.long q3), .second, .val (.long q4), .second, .val (.int p5), .val (.int (3 : Int32)), .val (.int t0), .val (.int t1), .val (.int t2), .val (.ref b81), .val (.ref b82), .unset] [(.int (2 : Int32)), (.int (3 : Int32))]))
          refine own_go (fun _ q => XS.icmpNo X93.here hx rfl (hb hby at_126) rfl (tlt (by decide : (2 : Int32) < (3 : Int32))).2.2.2 q) ?_
          show own_Go _ _ _ _ _ _ _ (T93.setTop (mkF m 129 #[.val (.long q0), .second, .val (.long q1), .second, .val (.long q2), .second, .val (.long q3), .second, .val (.long q4), .second, .val (.int p5), .val (.int (3 : Int32)), .val (.int t0), .val (.int t1), .val (.int t2), .val (.ref b81), .val (.ref b82), .unset] []))
          refine own_go (fun _ q => XS.aload X93.here hx rfl (hb hby at_129) rfl rfl q) ?_
          show own_Go _ _ _ _ _ _ _ (T93.setTop (mkF m 131 #[.val (.long q0), .second, .val (.long q1), .second, .val (.long q2), .second, .val (.long q3), .second, .val (.long q4), .second, .val (.int p5), .val (.int (3 : Int32)), .val (.int t0), .val (.int t1), .val (.int t2), .val (.ref b81), .val (.ref b82), .unset] [(.ref b81)]))
          refine own_go (fun _ q => XS.iconst X93.here hx rfl (hb hby at_131) q) ?_
          show own_Go _ _ _ _ _ _ _ (T93.setTop (mkF m 132 #[.val (.long q0), .second, .val (.long q1), .second, .val (.long q2), .second, .val (.long q3), .second, .val (.long q4), .second, .val (.int p5), .val (.int (3 : Int32)), .val (.int t0), .val (.int t1), .val (.int t2), .val (.ref b81), .val (.ref b82), .unset] [(.int (2 : Int32)), (.ref b81)]))
          refine own_go (fun _ q => XS.lload X93.here hx rfl (hb hby at_132) rfl q) ?_
          show own_Go _ _ _ _ _ _ _ (T93.setTop (mkF m 134 #[.val (.long q0), .second, .val (.long q1), .second, .val (.long q2), .second, .val (.long q3), .second, .val (.long q4), .second, .val (.int p5), .val (.int (3 : Int32)), .val (.int t0), .val (.int t1), .val (.int t2), .val (.ref b81), .val (.ref b82), .unset] [(.long q2), (.int (2 : Int32)), (.ref b81)]))
          refine own_go (fun _ q => XS.lload X93.here hx rfl (hb hby at_134) rfl q) ?_
          show own_Go _ _ _ _ _ _ _ (T93.setTop (mkF m 136 #[.val (.long q0), .second, .val (.long q1), .second, .val (.long q2), .second, .val (.long q3), .second, .val (.long q4), .second, .val (.int p5), .val (.int (3 : Int32)), .val (.int t0), .val (.int t1), .val (.int t2), .val (.ref b81), .val (.ref b82), .unset] [(.long q3), (.long q2), (.int (2 : Int32)), (.ref b81)]))
          refine own_go (fun _ q => XS.iload X93.here hx rfl (hb hby at_136) rfl q) ?_
          show own_Go _ _ _ _ _ _ _ (T93.setTop (mkF m 138 #[.val (.long q0), .second, .val (.long q1), .second, .val (.long q2), .second, .val (.long q3), .second, .val (.long q4), .second, .val (.int p5), .val (.int (3 : Int32)), .val (.int t0), .val (.int t1), .val (.int t2), .val (.ref b81), .val (.ref b82), .unset] [(.int t2), (.long q3), (.long q2), (.int (2 : Int32)), (.ref b81)]))
          refine own_static X93 hx hZ hown (hw _ (List.mem_of_getElem? (i := 28) rfl)) (hw _ (List.mem_of_getElem? (i := 29) rfl)) (hw _ (List.mem_of_getElem? (i := 2) rfl)) (hw _ (List.mem_of_getElem? (i := 30) rfl)) (by decide) e93 (argsL := [(.long q2), (.long q3), (.int t2)]) (rest := [(.int (2 : Int32)), (.ref b81)]) (rm6 l Z a0 hw [] q2 q3 t2 h93 n0 Z93) 2 (by decide) (by decide) (by decide) (by decide) (by rw [hml]; rfl) pd_5 rfl rfl (Nat.le_of_eq rfl) (hb hby at_138) rfl ?_
          intro v95 T95 L95 X95 hQ95
          obtain ⟨rfl, N95q, e95q⟩ := hQ95
          have N95 := Fr.app N93 N95q
          show own_Go _ _ _ _ _ _ _ (T95.setTop (mkF m 141 #[.val (.long q0), .second, .val (.long q1), .second, .val (.long q2), .second, .val (.long q3), .second, .val (.long q4), .second, .val (.int p5), .val (.int (3 : Int32)), .val (.int t0), .val (.int t1), .val (.int t2), .val (.ref b81), .val (.ref b82), .unset] [(.long (own_low q2 q3 t2)), (.int (2 : Int32)), (.ref b81)]))
          have f97 := (A90.other W93 neq)
          refine own_lastore X95 hx hZ e95q (i := 2) f97 rfl (by decide) (hb hby at_141) rfl ?_
          intro T96 h96 X96 e96 W96 A96
          have N96 := Fr.snoc X96 N95 G81
          have Z96 : n0 ≤ h96.size := by rw [W96.size]; exact Z93
          show own_Go _ _ _ _ _ _ _ (T96.setTop (mkF m 142 #[.val (.long q0), .second, .val (.long q1), .second, .val (.long q2), .second, .val (.long q3), .second, .val (.long q4), .second, .val (.int p5), .val (.int (3 : Int32)), .val (.int t0), .val (.int t1), .val (.int t2), .val (.ref b81), .val (.ref b82), .unset] []))
          refine own_go (fun _ q => XS.aload X96.here hx rfl (hb hby at_142) rfl rfl q) ?_
          show own_Go _ _ _ _ _ _ _ (T96.setTop (mkF m 144 #[.val (.long q0), .second, .val (.long q1), .second, .val (.long q2), .second, .val (.long q3), .second, .val (.long q4), .second, .val (.int p5), .val (.int (3 : Int32)), .val (.int t0), .val (.int t1), .val (.int t2), .val (.ref b81), .val (.ref b82), .unset] [(.ref b82)]))
          refine own_go (fun _ q => XS.iconst X96.here hx rfl (hb hby at_144) q) ?_
          show own_Go _ _ _ _ _ _ _ (T96.setTop (mkF m 145 #[.val (.long q0), .second, .val (.long q1), .second, .val (.long q2), .second, .val (.long q3), .second, .val (.long q4), .second, .val (.int p5), .val (.int (3 : Int32)), .val (.int t0), .val (.int t1), .val (.int t2), .val (.ref b81), .val (.ref b82), .unset] [(.int (2 : Int32)), (.ref b82)]))
          refine own_go (fun _ q => XS.lload X96.here hx rfl (hb hby at_145) rfl q) ?_
          show own_Go _ _ _ _ _ _ _ (T96.setTop (mkF m 147 #[.val (.long q0), .second, .val (.long q1), .second, .val (.long q2), .second, .val (.long q3), .second, .val (.long q4), .second, .val (.int p5), .val (.int (3 : Int32)), .val (.int t0), .val (.int t1), .val (.int t2), .val (.ref b81), .val (.ref b82), .unset] [(.long q2), (.int (2 : Int32)), (.ref b82)]))
          refine own_go (fun _ q => XS.lload X96.here hx rfl (hb hby at_147) rfl q) ?_
          show own_Go _ _ _ _ _ _ _ (T96.setTop (mkF m 149 #[.val (.long q0), .second, .val (.long q1), .second, .val (.long q2), .second, .val (.long q3), .second, .val (.long q4), .second, .val (.int p5), .val (.int (3 : Int32)), .val (.int t0), .val (.int t1), .val (.int t2), .val (.ref b81), .val (.ref b82), .unset] [(.long q3), (.long q2), (.int (2 : Int32)), (.ref b82)]))
          refine own_go (fun _ q => XS.iload X96.here hx rfl (hb hby at_149) rfl q) ?_
          show own_Go _ _ _ _ _ _ _ (T96.setTop (mkF m 151 #[.val (.long q0), .second, .val (.long q1), .second, .val (.long q2), .second, .val (.long q3), .second, .val (.long q4), .second, .val (.int p5), .val (.int (3 : Int32)), .val (.int t0), .val (.int t1), .val (.int t2), .val (.ref b81), .val (.ref b82), .unset] [(.int t2), (.long q3), (.long q2), (.int (2 : Int32)), (.ref b82)]))
          refine own_static X96 hx hZ hown (hw _ (List.mem_of_getElem? (i := 31) rfl)) (hw _ (List.mem_of_getElem? (i := 32) rfl)) (hw _ (List.mem_of_getElem? (i := 2) rfl)) (hw _ (List.mem_of_getElem? (i := 33) rfl)) (by decide) e96 (argsL := [(.long q2), (.long q3), (.int t2)]) (rest := [(.int (2 : Int32)), (.ref b82)]) (rm7 l Z a0 hw [] q2 q3 t2 h96 n0 Z96) 2 (by decide) (by decide) (by decide) (by decide) (by rw [hml]; rfl) pd_5 rfl rfl (Nat.le_of_eq rfl) (hb hby at_151) rfl ?_
          intro v98 T98 L98 X98 hQ98
          obtain ⟨rfl, N98q, e98q⟩ := hQ98
          have N98 := Fr.app N96 N98q
          show own_Go _ _ _ _ _ _ _ (T98.setTop (mkF m 154 #[.val (.long q0), .second, .val (.long q1), .second, .val (.long q2), .second, .val (.long q3), .second, .val (.long q4), .second, .val (.int p5), .val (.int (3 : Int32)), .val (.int t0), .val (.int t1), .val (.int t2), .val (.ref b81), .val (.ref b82), .unset] [(.long (own_high q2 q3 t2)), (.int (2 : Int32)), (.ref b82)]))
          have f100 := (A93.other W96 (Ne.symm neq))
          refine own_lastore X98 hx hZ e98q (i := 2) f100 rfl (by decide) (hb hby at_154) rfl ?_
          intro T99 h99 X99 e99 W99 A99
          have N99 := Fr.snoc X99 N98 G82
          have Z99 : n0 ≤ h99.size := by rw [W99.size]; exact Z96
          show own_Go _ _ _ _ _ _ _ (T99.setTop (mkF m 155 #[.val (.long q0), .second, .val (.long q1), .second, .val (.long q2), .second, .val (.long q3), .second, .val (.long q4), .second, .val (.int p5), .val (.int (3 : Int32)), .val (.int t0), .val (.int t1), .val (.int t2), .val (.ref b81), .val (.ref b82), .unset] []))
          have f101 := (A96.other W99 neq)
          have B1 : own_Ar Z h99 b81 .long 3 (fun j => .long (own_lo q0 q1 q2 q3 q4 t0 t1 t2 j)) := f101.eqv (fun j hj => by
              have : j = 0 ∨ j = 1 ∨ j = 2 := by omega
              rcases this with rfl | rfl | rfl <;> rfl)
          have B2 : own_Ar Z h99 b82 .long 3 (fun j => .long (own_hi q0 q1 q2 q3 q4 t0 t1 t2 j)) := A99.eqv (fun j hj => by
              have : j = 0 ∨ j = 1 ∨ j = 2 := by omega
              rcases this with rfl | rfl | rfl <;> rfl)
          refine own_go (fun _ q => XS.iconst X99.here hx rfl (hb hby at_155) q) ?_
          show own_Go _ _ _ _ _ _ _ (T99.setTop (mkF m 156 #[.val (.long q0), .second, .val (.long q1), .second, .val (.long q2), .second, .val (.long q3), .second, .val (.long q4), .second, .val (.int p5), .val (.int (3 : Int32)), .val (.int t0), .val (.int t1), .val (.int t2), .val (.ref b81), .val (.ref b82), .unset] [(.int (-1 : Int32))]))
          refine own_go (fun _ q => XS.istore X99.here hx rfl (hb hby at_156) rfl (l' := #[.val (.long q0), .second, .val (.long q1), .second, .val (.long q2), .second, .val (.long q3), .second, .val (.long q4), .second, .val (.int p5), .val (.int (3 : Int32)), .val (.int t0), .val (.int t1), .val (.int t2), .val (.ref b81), .val (.ref b82), .val (.int (-1 : Int32))]) rfl q) ?_
          show own_Go _ _ _ _ _ _ _ (T99.setTop (mkF m 158 #[.val (.long q0), .second, .val (.long q1), .second, .val (.long q2), .second, .val (.long q3), .second, .val (.long q4), .second, .val (.int p5), .val (.int (3 : Int32)), .val (.int t0), .val (.int t1), .val (.int t2), .val (.ref b81), .val (.ref b82), .val (.int (-1 : Int32))] []))
          refine own_go (fun _ q => XS.iload X99.here hx rfl (hb hby at_158) rfl q) ?_
          show own_Go _ _ _ _ _ _ _ (T99.setTop (mkF m 160 #[.val (.long q0), .second, .val (.long q1), .second, .val (.long q2), .second, .val (.long q3), .second, .val (.long q4), .second, .val (.int p5), .val (.int (3 : Int32)), .val (.int t0), .val (.int t1), .val (.int t2), .val (.ref b81), .val (.ref b82), .val (.int (-1 : Int32))] [(.int (3 : Int32))]))
          refine own_go (fun _ q => XS.iconst X99.here hx rfl (hb hby at_160) q) ?_
          show own_Go _ _ _ _ _ _ _ (T99.setTop (mkF m 161 #[.val (.long q0), .second, .val (.long q1), .second, .val (.long q2), .second, .val (.long q3), .second, .val (.long q4), .second, .val (.int p5), .val (.int (3 : Int32)), .val (.int t0), .val (.int t1), .val (.int t2), .val (.ref b81), .val (.ref b82), .val (.int (-1 : Int32))] [(.int (2 : Int32)), (.int (3 : Int32))]))
          refine own_go (fun _ q => XS.icmpNo X99.here hx rfl (hb hby at_161) rfl (tlt (by decide : (2 : Int32) < (3 : Int32))).2.2.2 q) ?_
          show own_Go _ _ _ _ _ _ _ (T99.setTop (mkF m 164 #[.val (.long q0), .second, .val (.long q1), .second, .val (.long q2), .second, .val (.long q3), .second, .val (.long q4), .second, .val (.int p5), .val (.int (3 : Int32)), .val (.int t0), .val (.int t1), .val (.int t2), .val (.ref b81), .val (.ref b82), .val (.int (-1 : Int32))] []))
          refine own_go (fun _ q => XS.iload X99.here hx rfl (hb hby at_164) rfl q) ?_
          show own_Go _ _ _ _ _ _ _ (T99.setTop (mkF m 166 #[.val (.long q0), .second, .val (.long q1), .second, .val (.long q2), .second, .val (.long q3), .second, .val (.long q4), .second, .val (.int p5), .val (.int (3 : Int32)), .val (.int t0), .val (.int t1), .val (.int t2), .val (.ref b81), .val (.ref b82), .val (.int (-1 : Int32))] [(.int t2)]))
          by_cases hc166_102 : t2 = (0 : Int32)
          · refine own_go (fun _ q => XS.ifYes X99.here hx rfl (pc0 := 166) (pc' := 172) rfl (hb hby at_166) rfl ((if0 _ _).trans (teq hc166_102).1) (by decide) (by decide) q) ?_
            show own_Go _ _ _ _ _ _ _ (T99.setTop (mkF m 172 #[.val (.long q0), .second, .val (.long q1), .second, .val (.long q2), .second, .val (.long q3), .second, .val (.long q4), .second, .val (.int p5), .val (.int (3 : Int32)), .val (.int t0), .val (.int t1), .val (.int t2), .val (.ref b81), .val (.ref b82), .val (.int (-1 : Int32))] []))
            refine own_go (fun _ q => XS.iload X99.here hx rfl (hb hby at_172) rfl q) ?_
            show own_Go _ _ _ _ _ _ _ (T99.setTop (mkF m 174 #[.val (.long q0), .second, .val (.long q1), .second, .val (.long q2), .second, .val (.long q3), .second, .val (.long q4), .second, .val (.int p5), .val (.int (3 : Int32)), .val (.int t0), .val (.int t1), .val (.int t2), .val (.ref b81), .val (.ref b82), .val (.int (-1 : Int32))] [(.int (3 : Int32))]))
            refine own_go (fun _ q => XS.iconst X99.here hx rfl (hb hby at_174) q) ?_
            show own_Go _ _ _ _ _ _ _ (T99.setTop (mkF m 175 #[.val (.long q0), .second, .val (.long q1), .second, .val (.long q2), .second, .val (.long q3), .second, .val (.long q4), .second, .val (.int p5), .val (.int (3 : Int32)), .val (.int t0), .val (.int t1), .val (.int t2), .val (.ref b81), .val (.ref b82), .val (.int (-1 : Int32))] [(.int (1 : Int32)), (.int (3 : Int32))]))
            refine own_go (fun _ q => XS.icmpNo X99.here hx rfl (hb hby at_175) rfl (tlt (by decide : (1 : Int32) < (3 : Int32))).2.2.2 q) ?_
            show own_Go _ _ _ _ _ _ _ (T99.setTop (mkF m 178 #[.val (.long q0), .second, .val (.long q1), .second, .val (.long q2), .second, .val (.long q3), .second, .val (.long q4), .second, .val (.int p5), .val (.int (3 : Int32)), .val (.int t0), .val (.int t1), .val (.int t2), .val (.ref b81), .val (.ref b82), .val (.int (-1 : Int32))] []))
            refine own_go (fun _ q => XS.iload X99.here hx rfl (hb hby at_178) rfl q) ?_
            show own_Go _ _ _ _ _ _ _ (T99.setTop (mkF m 180 #[.val (.long q0), .second, .val (.long q1), .second, .val (.long q2), .second, .val (.long q3), .second, .val (.long q4), .second, .val (.int p5), .val (.int (3 : Int32)), .val (.int t0), .val (.int t1), .val (.int t2), .val (.ref b81), .val (.ref b82), .val (.int (-1 : Int32))] [(.int t1)]))
            by_cases hc180_103 : t1 = (0 : Int32)
            · refine own_go (fun _ q => XS.ifYes X99.here hx rfl (pc0 := 180) (pc' := 186) rfl (hb hby at_180) rfl ((if0 _ _).trans (teq hc180_103).1) (by decide) (by decide) q) ?_
              show own_Go _ _ _ _ _ _ _ (T99.setTop (mkF m 186 #[.val (.long q0), .second, .val (.long q1), .second, .val (.long q2), .second, .val (.long q3), .second, .val (.long q4), .second, .val (.int p5), .val (.int (3 : Int32)), .val (.int t0), .val (.int t1), .val (.int t2), .val (.ref b81), .val (.ref b82), .val (.int (-1 : Int32))] []))
              refine own_go (fun _ q => XS.iload X99.here hx rfl (hb hby at_186) rfl q) ?_
              show own_Go _ _ _ _ _ _ _ (T99.setTop (mkF m 188 #[.val (.long q0), .second, .val (.long q1), .second, .val (.long q2), .second, .val (.long q3), .second, .val (.long q4), .second, .val (.int p5), .val (.int (3 : Int32)), .val (.int t0), .val (.int t1), .val (.int t2), .val (.ref b81), .val (.ref b82), .val (.int (-1 : Int32))] [(.int (3 : Int32))]))
              refine own_go (fun _ q => XS.ifNo X99.here hx rfl (hb hby at_188) rfl ((if0 _ _).trans (tlt (by decide : (0 : Int32) < (3 : Int32))).2.2.2) q) ?_
              show own_Go _ _ _ _ _ _ _ (T99.setTop (mkF m 191 #[.val (.long q0), .second, .val (.long q1), .second, .val (.long q2), .second, .val (.long q3), .second, .val (.long q4), .second, .val (.int p5), .val (.int (3 : Int32)), .val (.int t0), .val (.int t1), .val (.int t2), .val (.ref b81), .val (.ref b82), .val (.int (-1 : Int32))] []))
              refine own_go (fun _ q => XS.iload X99.here hx rfl (hb hby at_191) rfl q) ?_
              show own_Go _ _ _ _ _ _ _ (T99.setTop (mkF m 193 #[.val (.long q0), .second, .val (.long q1), .second, .val (.long q2), .second, .val (.long q3), .second, .val (.long q4), .second, .val (.int p5), .val (.int (3 : Int32)), .val (.int t0), .val (.int t1), .val (.int t2), .val (.ref b81), .val (.ref b82), .val (.int (-1 : Int32))] [(.int t0)]))
              by_cases hc193_104 : t0 = (0 : Int32)
              · refine own_go (fun _ q => XS.ifYes X99.here hx rfl (pc0 := 193) (pc' := 199) rfl (hb hby at_193) rfl ((if0 _ _).trans (teq hc193_104).1) (by decide) (by decide) q) ?_
                show own_Go _ _ _ _ _ _ _ (T99.setTop (mkF m 199 #[.val (.long q0), .second, .val (.long q1), .second, .val (.long q2), .second, .val (.long q3), .second, .val (.long q4), .second, .val (.int p5), .val (.int (3 : Int32)), .val (.int t0), .val (.int t1), .val (.int t2), .val (.ref b81), .val (.ref b82), .val (.int (-1 : Int32))] []))
                obtain ⟨T105, h105, X105, e105, E105, A105, D105, -, st105⟩ := newO X99 hx hZ hown (hw _ (List.mem_of_getElem? (i := 5) rfl)) (hw _ (List.mem_of_getElem? (i := 6) rfl)) (hw _ (List.mem_of_getElem? (i := 7) rfl)) e99 (g := (mkF m 199 #[.val (.long q0), .second, .val (.long q1), .second, .val (.long q2), .second, .val (.long q3), .second, .val (.long q4), .second, .val (.int p5), .val (.int (3 : Int32)), .val (.int t0), .val (.int t1), .val (.int t2), .val (.ref b81), .val (.ref b82), .val (.int (-1 : Int32))] [])) rfl (hb hby at_199) (by decide) (by decide)
                obtain ⟨b105, g105⟩ : ∃ z, z = h99.size := ⟨_, rfl⟩
                rw [← g105] at A105 D105 st105
                have ne106 : b81 ≠ b105 := Nat.ne_of_lt (Nat.lt_of_lt_of_eq (B1).lt g105.symm)
                have ne107 : b82 ≠ b105 := Nat.ne_of_lt (Nat.lt_of_lt_of_eq (B2).lt g105.symm)
                have G105 : n0 ≤ b105 := by have := Z99; omega
                have Z105 : n0 ≤ h105.size := Nat.le_trans Z99 E105.1
                have Fn105_least : Fld Z h105 b105 "com/example/slotwright/slotwright/SplitBox" "least" "[J" .null := D105 (Or.inr (hw _ (List.mem_of_getElem? (i := 20) rfl))) (ty := (.array .long)) (by decide)
                have Fn105_most : Fld Z h105 b105 "com/example/slotwright/slotwright/SplitBox" "most" "[J" .null := D105 (Or.inr (hw _ (List.mem_of_getElem? (i := 22) rfl))) (ty := (.array .long)) (by decide)
                refine own_go st105 ?_
                show own_Go _ _ _ _ _ _ _ (T105.setTop (mkF m 202 #[.val (.long q0), .second, .val (.long q1), .second, .val (.long q2), .second, .val (.long q3), .second, .val (.long q4), .second, .val (.int p5), .val (.int (3 : Int32)), .val (.int t0), .val (.int t1), .val (.int t2), .val (.ref b81), .val (.ref b82), .val (.int (-1 : Int32))] [(.ref b105)]))
                refine own_go (fun _ q => XS.dup X105.here hx rfl (hb hby at_202) rfl rfl q) ?_
                show own_Go _ _ _ _ _ _ _ (T105.setTop (mkF m 203 #[.val (.long q0), .second, .val (.long q1), .second, .val (.long q2), .second, .val (.long q3), .second, .val (.long q4), .second, .val (.int p5), .val (.int (3 : Int32)), .val (.int t0), .val (.int t1), .val (.int t2), .val (.ref b81), .val (.ref b82), .val (.int (-1 : Int32))] [(.ref b105), (.ref b105)]))
                refine own_go (fun _ q => XS.aload X105.here hx rfl (hb hby at_203) rfl rfl q) ?_
                show own_Go _ _ _ _ _ _ _ (T105.setTop (mkF m 205 #[.val (.long q0), .second, .val (.long q1), .second, .val (.long q2), .second, .val (.long q3), .second, .val (.long q4), .second, .val (.int p5), .val (.int (3 : Int32)), .val (.int t0), .val (.int t1), .val (.int t2), .val (.ref b81), .val (.ref b82), .val (.int (-1 : Int32))] [(.ref b81), (.ref b105), (.ref b105)]))
                refine own_go (fun _ q => XS.aload X105.here hx rfl (hb hby at_205) rfl rfl q) ?_
                show own_Go _ _ _ _ _ _ _ (T105.setTop (mkF m 207 #[.val (.long q0), .second, .val (.long q1), .second, .val (.long q2), .second, .val (.long q3), .second, .val (.long q4), .second, .val (.int p5), .val (.int (3 : Int32)), .val (.int t0), .val (.int t1), .val (.int t2), .val (.ref b81), .val (.ref b82), .val (.int (-1 : Int32))] [(.ref b82), (.ref b81), (.ref b105), (.ref b105)]))
                refine own_init X105 hx hZ rfl hown (hw _ (List.mem_of_getElem? (i := 8) rfl)) (hw _ (List.mem_of_getElem? (i := 9) rfl)) (hw _ (List.mem_of_getElem? (i := 7) rfl)) (hw _ (List.mem_of_getElem? (i := 10) rfl)) (by decide) e105 (a := b105) (argsL := [(.ref b81), (.ref b82)]) (rest := [(.ref b105)]) (rm2 l Z a0 hw [] b105 b81 b82 h105 n0 Z105 A105 Fn105_least Fn105_most G105) 1 (by decide) (by decide) (by decide) (by decide) (by rw [hml]; rfl) pd_3 rfl rfl (Nat.le_of_eq rfl) (hb hby at_207) rfl ?_
                intro v108 T108 L108 X108 hQ108
                obtain ⟨rfl, N108q, K108, Eb, Fb1, Fb2⟩ := hQ108
                have N108 := Fr.app N99 N108q
                show own_Go _ _ _ _ _ _ _ (T108.setTop (mkF m 210 #[.val (.long q0), .second, .val (.long q1), .second, .val (.long q2), .second, .val (.long q3), .second, .val (.long q4), .second, .val (.int p5), .val (.int (3 : Int32)), .val (.int t0), .val (.int t1), .val (.int t2), .val (.ref b81), .val (.ref b82), .val (.int (-1 : Int32))] [(.ref b105)]))
                have Z108 : n0 ≤ T108.heap.size := Nat.le_trans Z105 K108.1
                have f109 := ((B1.ext E105).keep K108 (ninS ne106 nin0))
                have f110 := ((B2.ext E105).keep K108 (ninS ne107 nin0))
                refine own_virtual X108 hx hZ hown (hw _ (List.mem_of_getElem? (i := 23) rfl)) (hw _ (List.mem_of_getElem? (i := 24) rfl)) (hw _ (List.mem_of_getElem? (i := 26) rfl)) (hw _ (List.mem_of_getElem? (i := 25) rfl)) (hw _ (List.mem_of_getElem? (i := 7) rfl)) (hw _ (List.mem_of_getElem? (i := 27) rfl)) (by decide) rfl (a := b105) Eb (argsL := []) (rest := []) (rm5 l Z a0 hw [] b105 b81 b82 (own_lo q0 q1 q2 q3 q4 t0 t1 t2) (own_hi q0 q1 q2 q3 q4 t0 t1 t2) 3 T108.heap n0 Z108 Fb1 Fb2 f109 f110 (by decide) (3 : Int32) rfl) 0 (by decide) (by decide) (by decide) (by decide) (by rw [hml]; rfl) pd_4 rfl rfl (Nat.le_of_eq rfl) (hb hby at_210) rfl ?_
                intro v111 T111 L111 X111 hQ111
                obtain ⟨r, rfl, N111q, e111q, hR⟩ := hQ111
                have N111 := Fr.app N108 N111q
                show own_Go _ _ _ _ _ _ _ (T111.setTop (mkF m 213 #[.val (.long q0), .second, .val (.long q1), .second, .val (.long q2), .second, .val (.long q3), .second, .val (.long q4), .second, .val (.int p5), .val (.int (3 : Int32)), .val (.int t0), .val (.int t1), .val (.int t2), .val (.ref b81), .val (.ref b82), .val (.int (-1 : Int32))] [(.int r)]))
                refine own_go (fun _ q => XS.iload X111.here hx rfl (hb hby at_213) rfl q) ?_
                show own_Go _ _ _ _ _ _ _ (T111.setTop (mkF m 215 #[.val (.long q0), .second, .val (.long q1), .second, .val (.long q2), .second, .val (.long q3), .second, .val (.long q4), .second, .val (.int p5), .val (.int (3 : Int32)), .val (.int t0), .val (.int t1), .val (.int t2), .val (.ref b81), .val (.ref b82), .val (.int (-1 : Int32))] [(.int (-1 : Int32)), (.int r)]))
                refine own_go (fun _ q => XS.icmpNo X111.here hx rfl (hb hby at_215) rfl (teq ((own_final (k := 3) hb0 hb1 hb2 (by decide) hR).trans (by simp [own_exp, *]))).2 q) ?_
                show own_Go _ _ _ _ _ _ _ (T111.setTop (mkF m 218 #[.val (.long q0), .second, .val (.long q1), .second, .val (.long q2), .second, .val (.long q3), .second, .val (.long q4), .second, .val (.int p5), .val (.int (3 : Int32)), .val (.int t0), .val (.int t1), .val (.int t2), .val (.ref b81), .val (.ref b82), .val (.int (-1 : Int32))] []))
                refine own_go (fun _ q => XS.iconst X111.here hx rfl (hb hby at_218) q) ?_
                show own_Go _ _ _ _ _ _ _ (T111.setTop (mkF m 219 #[.val (.long q0), .second, .val (.long q1), .second, .val (.long q2), .second, .val (.long q3), .second, .val (.long q4), .second, .val (.int p5), .val (.int (3 : Int32)), .val (.int t0), .val (.int t1), .val (.int t2), .val (.ref b81), .val (.ref b82), .val (.int (-1 : Int32))] [(.int (1 : Int32))]))
                refine own_go (fun _ q => XS.goto X111.here hx rfl (pc0 := 219) (pc' := 223) rfl (hb hby at_219) (by decide) (by decide) q) ?_
                show own_Go _ _ _ _ _ _ _ (T111.setTop (mkF m 223 #[.val (.long q0), .second, .val (.long q1), .second, .val (.long q2), .second, .val (.long q3), .second, .val (.long q4), .second, .val (.int p5), .val (.int (3 : Int32)), .val (.int t0), .val (.int t1), .val (.int t2), .val (.ref b81), .val (.ref b82), .val (.int (-1 : Int32))] [(.int (1 : Int32))]))
                exact own_retZ X111 hx hlk hret (hb hby at_223) (by decide) (by decide) (by decide) ⟨rfl, N111⟩
              · refine own_go (fun _ q => XS.ifNo X99.here hx rfl (hb hby at_193) rfl ((if0 _ _).trans (feq hc193_104).1) q) ?_
                show own_Go _ _ _ _ _ _ _ (T99.setTop (mkF m 196 #[.val (.long q0), .second, .val (.long q1), .second, .val (.long q2), .second, .val (.long q3), .second, .val (.long q4), .second, .val (.int p5), .val (.int (3 : Int32)), .val (.int t0), .val (.int t1), .val (.int t2), .val (.ref b81), .val (.ref b82), .val (.int (-1 : Int32))] []))
                refine own_go (fun _ q => XS.iconst X99.here hx rfl (hb hby at_196) q) ?_
                show own_Go _ _ _ _ _ _ _ (T99.setTop (mkF m 197 #[.val (.long q0), .second, .val (.long q1), .second, .val (.long q2), .second, .val (.long q3), .second, .val (.long q4), .second, .val (.int p5), .val (.int (3 : Int32)), .val (.int t0), .val (.int t1), .val (.int t2), .val (.ref b81), .val (.ref b82), .val (.int (-1 : Int32))] [(.int (0 : Int32))]))
                refine own_go (fun _ q => XS.istore X99.here hx rfl (hb hby at_197) rfl (l' := #[.val (.long q0), .second, .val (.long q1), .second, .val (.long q2), .second, .val (.long q3), .second, .val (.long q4), .second, .val (.int p5), .val (.int (3 : Int32)), .val (.int t0), .val (.int t1), .val (.int t2), .val (.ref b81), .val (.ref b82), .val (.int (0 : Int32))]) rfl q) ?_
                show own_Go _ _ _ _ _ _ _ (T99.setTop (mkF m 199 #[.val (.long q0), .second, .val (.long q1), .second, .val (.long q2), .second, .val (.long q3), .second, .val (.long q4), .second, .val (.int p5), .val (.int (3 : Int32)), .val (.int t0), .val (.int t1), .val (.int t2), .val (.ref b81), .val (.ref b82), .val (.int (0 : Int32))] []))
                obtain ⟨T112, h112, X112, e112, E112, A112, D112, -, st112⟩ := newO X99 hx hZ hown (hw _ (List.mem_of_getElem? (i := 5) rfl)) (hw _ (List.mem_of_getElem? (i := 6) rfl)) (hw _ (List.mem_of_getElem? (i := 7) rfl)) e99 (g := (mkF m 199 #[.val (.long q0), .second, .val (.long q1), .second, .val (.long q2), .second, .val (.long q3), .second, .val (.long q4), .second, .val (.int p5), .val (.int (3 : Int32)), .val (.int t0), .val (.int t1), .val (.int t2), .val (.ref b81), .val (.ref b82), .val (.int (0 : Int32))] [])) rfl (hb hby at_199) (by decide) (by decide)
                obtain ⟨b112, g112⟩ : ∃ z, z = h99.size := ⟨_, rfl⟩
                rw [← g112] at A112 D112 st112
                have ne113 : b81 ≠ b112 := Nat.ne_of_lt (Nat.lt_of_lt_of_eq (B1).lt g112.symm)
                have ne114 : b82 ≠ b112 := Nat.ne_of_lt (Nat.lt_of_lt_of_eq (B2).lt g112.symm)
                have G112 : n0 ≤ b112 := by have := Z99; omega
                have Z112 : n0 ≤ h112.size := Nat.le_trans Z99 E112.1
                have Fn112_least : Fld Z h112 b112 "com/example/slotwright/slotwright/SplitBox" "least" "[J" .null := D112 (Or.inr (hw _ (List.mem_of_getElem? (i := 20) rfl))) (ty := (.array .long)) (by decide)
                have Fn112_most : Fld Z h112 b112 "com/example/slotwright/slotwright/SplitBox" "most" "[J" .null := D112 (Or.inr (hw _ (List.mem_of_getElem? (i := 22) rfl))) (ty := (.array .long)) (by decide)
                refine own_go st112 ?_
                show own_Go _ _ _ _ _ _ _ (T112.setTop (mkF m 202 #[.val (.long q0), .second, .val (.long q1), .second, .val (.long q2), .second, .val (.long q3), .second, .val (.long q4), .second, .val (.int p5), .val (.int (3 : Int32)), .val (.int t0), .val (.int t1), .val (.int t2), .val (.ref b81), .val (.ref b82), .val (.int (0 : Int32))] [(.ref b112)]))
                refine own_go (fun _ q => XS.dup X112.here hx rfl (hb hby at_202) rfl rfl q) ?_
                show own_Go _ _ _ _ _ _ _ (T112.setTop (mkF m 203 #[.val (.long q0), .second, .val (.long q1), .second, .val (.long q2), .second, .val (.long q3), .second, .val (.long q4), .second, .val (.int p5), .val (.int (3 : Int32)), .val (.int t0), .val (.int t1), .val (.int t2), .val (.ref b81), .val (.ref b82), .val (.int (0 : Int32))] [(.ref b112), (.ref b112)]))
                refine own_go (fun _ q => XS.aload X112.here hx rfl (hb hby at_203) rfl rfl q) ?_
                show own_Go _ _ _ _ _ _ _ (T112.setTop (mkF m 205 #[.val (.long q0), .second, .val (.long q1), .second, .val (.long q2), .second, .val (.long q3), .second, .val (.long q4), .second, .val (.int p5), .val (.int (3 : Int32)), .val (.int t0), .val (.int t1), .val (.int t2), .val (.ref b81), .val (.ref b82), .val (.int (0 : Int32))] [(.ref b81), (.ref b112), (.ref b112)]))
                refine own_go (fun _ q => XS.aload X112.here hx rfl (hb hby at_205) rfl rfl q) ?_
                show own_Go _ _ _ _ _ _ _ (T112.setTop (mkF m 207 #[.val (.long q0), .second, .val (.long q1), .second, .val (.long q2), .second, .val (.long q3), .second, .val (.long q4), .second, .val (.int p5), .val (.int (3 : Int32)), .val (.int t0), .val (.int t1), .val (.int t2), .val (.ref b81), .val (.ref b82), .val (.int (0 : Int32))] [(.ref b82), (.ref b81), (.ref b112), (.ref b112)]))
                refine own_init X112 hx hZ rfl hown (hw _ (List.mem_of_getElem? (i := 8) rfl)) (hw _ (List.mem_of_getElem? (i := 9) rfl)) (hw _ (List.mem_of_getElem? (i := 7) rfl)) (hw _ (List.mem_of_getElem? (i := 10) rfl)) (by decide) e112 (a := b112) (argsL := [(.ref b81), (.ref b82)]) (rest := [(.ref b112)]) (rm2 l Z a0 hw [] b112 b81 b82 h112 n0 Z112 A112 Fn112_least Fn112_most G112) 1 (by decide) (by decide) (by decide) (by decide) (by rw [hml]; rfl) pd_3 rfl rfl (Nat.le_of_eq rfl) (hb hby at_207) rfl ?_
                intro v115 T115 L115 X115 hQ115
                obtain ⟨rfl, N115q, K115, Eb, Fb1, Fb2⟩ := hQ115
                have N115 := Fr.app N99 N115q
                show own_Go _ _ _ _ _ _ _ (T115.setTop (mkF m 210 #[.val (.long q0), .second, .val (.long q1), .second, .val (.long q2), .second, .val (.long q3), .second, .val (.long q4), .second, .val (.int p5), .val (.int (3 : Int32)), .val (.int t0), .val (.int t1), .val (.int t2), .val (.ref b81), .val (.ref b82), .val (.int (0 : Int32))] [(.ref b112)]))
                have Z115 : n0 ≤ T115.heap.size := Nat.le_trans Z112 K115.1
                have f116 := ((B1.ext E112).keep K115 (ninS ne113 nin0))
                have f117 := ((B2.ext E112).keep K115 (ninS ne114 nin0))
                refine own_virtual X115 hx hZ hown (hw _ (List.mem_of_getElem? (i := 23) rfl)) (hw _ (List.mem_of_getElem? (i := 24) rfl)) (hw _ (List.mem_of_getElem? (i := 26) rfl)) (hw _ (List.mem_of_getElem? (i := 25) rfl)) (hw _ (List.mem_of_getElem? (i := 7) rfl)) (hw _ (List.mem_of_getElem? (i := 27) rfl)) (by decide) rfl (a := b112) Eb (argsL := []) (rest := []) (rm5 l Z a0 hw [] b112 b81 b82 (own_lo q0 q1 q2 q3 q4 t0 t1 t2) (own_hi q0 q1 q2 q3 q4 t0 t1 t2) 3 T115.heap n0 Z115 Fb1 Fb2 f116 f117 (by decide) (3 : Int32) rfl) 0 (by decide) (by decide) (by decide) (by decide) (by rw [hml]; rfl) pd_4 rfl rfl (Nat.le_of_eq rfl) (hb hby at_210) rfl ?_
                intro v118 T118 L118 X118 hQ118
                obtain ⟨r, rfl, N118q, e118q, hR⟩ := hQ118
                have N118 := Fr.app N115 N118q
                show own_Go _ _ _ _ _ _ _ (T118.setTop (mkF m 213 #[.val (.long q0), .second, .val (.long q1), .second, .val (.long q2), .second, .val (.long q3), .second, .val (.long q4), .second, .val (.int p5), .val (.int (3 : Int32)), .val (.int t0), .val (.int t1), .val (.int t2), .val (.ref b81), .val (.ref b82), .val (.int (0 : Int32))] [(.int r)]))
                refine own_go (fun _ q => XS.iload X118.here hx rfl (hb hby at_213) rfl q) ?_
                show own_Go _ _ _ _ _ _ _ (T118.setTop (mkF m 215 #[.val (.long q0), .second, .val (.long q1), .second, .val (.long q2), .second, .val (.long q3), .second, .val (.long q4), .second, .val (.int p5), .val (.int (3 : Int32)), .val (.int t0), .val (.int t1), .val (.int t2), .val (.ref b81), .val (.ref b82), .val (.int (0 : Int32))] [(.int (0 : Int32)), (.int r)]))
                refine own_go (fun _ q => XS.icmpNo X118.here hx rfl (hb hby at_215) rfl (teq ((own_final (k := 3) hb0 hb1 hb2 (by decide) hR).trans (by simp [own_exp, *]))).2 q) ?_
                show own_Go _ _ _ _ _ _ _ (T118.setTop (mkF m 218 #[.val (.long q0), .second, .val (.long q1), .second, .val (.long q2), .second, .val (.long q3), .second, .val (.long q4), .second, .val (.int p5), .val (.int (3 : Int32)), .val (.int t0), .val (.int t1), .val (.int t2), .val (.ref b81), .val (.ref b82), .val (.int (0 : Int32))] []))
                refine own_go (fun _ q => XS.iconst X118.here hx rfl (hb hby at_218) q) ?_
                show own_Go _ _ _ _ _ _ _ (T118.setTop (mkF m 219 #[.val (.long q0), .second, .val (.long q1), .second, .val (.long q2), .second, .val (.long q3), .second, .val (.long q4), .second, .val (.int p5), .val (.int (3 : Int32)), .val (.int t0), .val (.int t1), .val (.int t2), .val (.ref b81), .val (.ref b82), .val (.int (0 : Int32))] [(.int (1 : Int32))]))
                refine own_go (fun _ q => XS.goto X118.here hx rfl (pc0 := 219) (pc' := 223) rfl (hb hby at_219) (by decide) (by decide) q) ?_
                show own_Go _ _ _ _ _ _ _ (T118.setTop (mkF m 223 #[.val (.long q0), .second, .val (.long q1), .second, .val (.long q2), .second, .val (.long q3), .second, .val (.long q4), .second, .val (.int p5), .val (.int (3 : Int32)), .val (.int t0), .val (.int t1), .val (.int t2), .val (.ref b81), .val (.ref b82), .val (.int (0 : Int32))] [(.int (1 : Int32))]))
                exact own_retZ X118 hx hlk hret (hb hby at_223) (by decide) (by decide) (by decide) ⟨rfl, N118⟩
            · refine own_go (fun _ q => XS.ifNo X99.here hx rfl (hb hby at_180) rfl ((if0 _ _).trans (feq hc180_103).1) q) ?_
              show own_Go _ _ _ _ _ _ _ (T99.setTop (mkF m 183 #[.val (.long q0), .second, .val (.long q1), .second, .val (.long q2), .second, .val (.long q3), .second, .val (.long q4), .second, .val (.int p5), .val (.int (3 : Int32)), .val (.int t0), .val (.int t1), .val (.int t2), .val (.ref b81), .val (.ref b82), .val (.int (-1 : Int32))] []))
              refine own_go (fun _ q => XS.iconst X99.here hx rfl (hb hby at_183) q) ?_
              show own_Go _ _ _ _ _ _ _ (T99.setTop (mkF m 184 #[.val (.long q0), .second, .val (.long q1), .second, .val (.long q2), .second, .val (.long q3), .second, .val (.long q4), .second, .val (.int p5), .val (.int (3 : Int32)), .val (.int t0), .val (.int t1), .val (.int t2), .val (.ref b81), .val (.ref b82), .val (.int (-1 : Int32))] [(.int (1 : Int32))]))
              refine own_go (fun _ q => XS.istore X99.here hx rfl (hb hby at_184) rfl (l' := #[.val (.long q0), .second, .val (.long q1), .second, .val (.long q2), .second, .val (.long q3), .second, .val (.long q4), .second, .val (.int p5), .val (.int (3 : Int32)), .val (.int t0), .val (.int t1), .val (.int t2), .val (.ref b81), .val (.ref b82), .val (.int (1 : Int32))]) rfl q) ?_
              show own_Go _ _ _ _ _ _ _ (T99.setTop (mkF m 186 #[.val (.long q0), .second, .val (.long q1), .second, .val (.long q2), .second, .val (.long q3), .second, .val (.long q4), .second, .val (.int p5), .val (.int (3 : Int32)), .val (.int t0), .val (.int t1), .val (.int t2), .val (.ref b81), .val (.ref b82), .val (.int (1 : Int32))] []))
              refine own_go (fun _ q => XS.iload X99.here hx rfl (hb hby at_186) rfl q) ?_
              show own_Go _ _ _ _ _ _ _ (T99.setTop (mkF m 188 #[.val (.long q0), .second, .val (.long q1), .second, .val (.long q2), .second, .val (.long q3), .second, .val (.long q4), .second, .val (.int p5), .val (.int (3 : Int32)), .val (.int t0), .val (.int t1), .val (.int t2), .val (.ref b81), .val (.ref b82), .val (.int (1 : Int32))] [(.int (3 : Int32))]))
              refine own_go (fun _ q => XS.ifNo X99.here hx rfl (hb hby at_188) rfl ((if0 _ _).trans (tlt (by decide : (0 : Int32) < (3 : Int32))).2.2.2) q) ?_
              show own_Go _ _ _ _ _ _ _ (T99.setTop (mkF m 191 #[.val (.long q0), .second, .val (.long q1), .second, .val (.long q2), .second, .val (.long q3), .second, .val (.long q4), .second, .val (.int p5), .val (.int (3 : Int32)), .val (.int t0), .val (.int t1), .val (.int t2), .val (.ref b81), .val (.ref b82), .val (.int (1 : Int32))] []))
              refine own_go (fun _ q => XS.iload X99.here hx rfl (hb hby at_191) rfl q) ?_
              show own_Go _ _ _ _ _ _ _ (T99.setTop (mkF m 193 #[.val (.long q0), .second, .val (.long q1), .second, .val (.long q2), .second, .val (.long q3), .second, .val (.long q4), .second, .val (.int p5), .val (.int (3 : Int32)), .val (.int t0), .val (.int t1), .val (.int t2), .val (.ref b81), .val (.ref b82), .val (.int (1 : Int32))] [(.int t0)]))
              by_cases hc193_119 : t0 = (0 : Int32)
              · refine own_go (fun _ q => XS.ifYes X99.here hx rfl (pc0 := 193) (pc' := 199) rfl (hb hby at_193) rfl ((if0 _ _).trans (teq hc193_119).1) (by decide) (by decide) q) ?_
                show own_Go _ _ _ _ _ _ _ (T99.setTop (mkF m 199 #[.val (.long q0), .second, .val (.long q1), .second, .val (.long q2), .second, .val (.long q3), .second, .val (.long q4), .second, .val (.int p5), .val (.int (3 : Int32)), .val (.int t0), .val (.int t1), .val (.int t2), .val (.ref b81), .val (.ref b82), .val (.int (1 : Int32))] []))
                obtain ⟨T120, h120, X120, e120, E120, A120, D120, -, st120⟩ := newO X99 hx hZ hown (hw _ (List.mem_of_getElem? (i := 5) rfl)) (hw _ (List.mem_of_getElem? (i := 6) rfl)) (hw _ (List.mem_of_getElem? (i := 7) rfl)) e99 (g := (mkF m 199 #[.val (.long q0), .second, .val (.long q1), .second, .val (.long q2), .second, .val (.long q3), .second, .val (.long q4), .second, .val (.int p5), .val (.int (3 : Int32)), .val (.int t0), .val (.int t1), .val (.int t2), .val (.ref b81), .val (.ref b82), .val (.int (1 : Int32))] [])) rfl (hb hby at_199) (by decide) (by decide)
                obtain ⟨b120, g120⟩ : ∃ z, z = h99.size := ⟨_, rfl⟩
                rw [← g120] at A120 D120 st120
                have ne121 : b81 ≠ b120 := Nat.ne_of_lt (Nat.lt_of_lt_of_eq (B1).lt g120.symm)
                have ne122 : b82 ≠ b120 := Nat.ne_of_lt (Nat.lt_of_lt_of_eq (B2).lt g120.symm)
                have G120 : n0 ≤ b120 := by have := Z99; omega
                have Z120 : n0 ≤ h120.size := Nat.le_trans Z99 E120.1
                have Fn120_least : Fld Z h120 b120 "com/example/slotwright/slotwright/SplitBox" "least" "[J" .null := D120 (Or.inr (hw _ (List.mem_of_getElem? (i := 20) rfl))) (ty := (.array .long)) (by decide)
                have Fn120_most : Fld Z h120 b120 "com/example/slotwright/slotwright/SplitBox" "most" "[J" .null := D120 (Or.inr (hw _ (List.mem_of_getElem? (i := 22) rfl))) (ty := (.array .long)) (by decide)
                refine own_go st120 ?_
                show own_Go _ _ _ _ _ _ _ (T120.setTop (mkF m 202 #[.val (.long q0), .second, .val (.long q1), .second, .val (.long q2), .second, .val (.long q3), .second, .val (.long q4), .second, .val (.int p5), .val (.int (3 : Int32)), .val (.int t0), .val (.int t1), .val (.int t2), .val (.ref b81), .val (.ref b82), .val (.int (1 : Int32))] [(.ref b120)]))
                refine own_go (fun _ q => XS.dup X120.here hx rfl (hb hby at_202) rfl rfl q) ?_
                show own_Go _ _ _ _ _ _ _ (T120.setTop (mkF m 203 #[.val (.long q0), .second, .val (.long q1), .second, .val (.long q2), .second, .val (.long q3), .second, .val (.long q4), .second, .val (.int p5), .val (.int (3 : Int32)), .val (.int t0), .val (.int t1), .val (.int t2), .val (.ref b81), .val (.ref b82), .val (.int (1 : Int32))] [(.ref b120), (.ref b120)]))
                refine own_go (fun _ q => XS.aload X120.here hx rfl (hb hby at_203) rfl rfl q) ?_
                show own_Go _ _ _ _ _ _ _ (T120.setTop (mkF m 205 #[.val (.long q0), .second, .val (.long q1), .second, .val (.long q2), .second, .val (.long q3), .second, .val (.long q4), .second, .val (.int p5), .val (.int (3 : Int32)), .val (.int t0), .val (.int t1), .val (.int t2), .val (.ref b81), .val (.ref b82), .val (.int (1 : Int32))] [(.ref b81), (.ref b120), (.ref b120)]))
                refine own_go (fun _ q => XS.aload X120.here hx rfl (hb hby at_205) rfl rfl q) ?_
                show own_Go _ _ _ _ _ _ _ (T120.setTop (mkF m 207 #[.val (.long q0), .second, .val (.long q1), .second, .val (.long q2), .second, .val (.long q3), .second, .val (.long q4), .second, .val (.int p5), .val (.int (3 : Int32)), .val (.int t0), .val (.int t1), .val (.int t2), .val (.ref b81), .val (.ref b82), .val (.int (1 : Int32))] [(.ref b82), (.ref b81), (.ref b120), (.ref b120)]))
                refine own_init X120 hx hZ rfl hown (hw _ (List.mem_of_getElem? (i := 8) rfl)) (hw _ (List.mem_of_getElem? (i := 9) rfl)) (hw _ (List.mem_of_getElem? (i := 7) rfl)) (hw _ (List.mem_of_getElem? (i := 10) rfl)) (by decide) e120 (a := b120) (argsL := [(.ref b81), (.ref b82)]) (rest := [(.ref b120)]) (rm2 l Z a0 hw [] b120 b81 b82 h120 n0 Z120 A120 Fn120_least Fn120_most G120) 1 (by decide) (by decide) (by decide) (by decide) (by rw [hml]; rfl) pd_3 rfl rfl (Nat.le_of_eq rfl) (hb hby at_207) rfl ?_
                intro v123 T123 L123 X123 hQ123
                obtain ⟨rfl, N123q, K123, Eb, Fb1, Fb2⟩ := hQ123
                have N123 := Fr.app N99 N123q
                show own_Go _ _ _ _ _ _ _ (T123.setTop (mkF m 210 #[.val (.long q0), .second, .val (.long q1), .second, .val (.long q2), .second, .val (.long q3), .second, .val (.long q4), .second, .val (.int p5), .val (.int (3 : Int32)), .val (.int t0), .val (.int t1), .val (.int t2), .val (.ref b81), .val (.ref b82), .val (.int (1 : Int32))] [(.ref b120)]))
                have Z123 : n0 ≤ T123.heap.size := Nat.le_trans Z120 K123.1
                have f124 := ((B1.ext E120).keep K123 (ninS ne121 nin0))
                have f125 := ((B2.ext E120).keep K123 (ninS ne122 nin0))
                refine own_virtual X123 hx hZ hown (hw _ (List.mem_of_getElem? (i := 23) rfl)) (hw _ (List.mem_of_getElem? (i := 24) rfl)) (hw _ (List.mem_of_getElem? (i := 26) rfl)) (hw _ (List.mem_of_getElem? (i := 25) rfl)) (hw _ (List.mem_of_getElem? (i := 7) rfl)) (hw _ (List.mem_of_getElem? (i := 27) rfl)) (by decide) rfl (a := b120) Eb (argsL := []) (rest := []) (rm5 l Z a0 hw [] b120 b81 b82 (own_lo q0 q1 q2 q3 q4 t0 t1 t2) (own_hi q0 q1 q2 q3 q4 t0 t1 t2) 3 T123.heap n0 Z123 Fb1 Fb2 f124 f125 (by decide) (3 : Int32) rfl) 0 (by decide) (by decide) (by decide) (by decide) (by rw [hml]; rfl) pd_4 rfl rfl (Nat.le_of_eq rfl) (hb hby at_210) rfl ?_
                intro v126 T126 L126 X126 hQ126
                obtain ⟨r, rfl, N126q, e126q, hR⟩ := hQ126
                have N126 := Fr.app N123 N126q
                show own_Go _ _ _ _ _ _ _ (T126.setTop (mkF m 213 #[.val (.long q0), .second, .val (.long q1), .second, .val (.long q2), .second, .val (.long q3), .second, .val (.long q4), .second, .val (.int p5), .val (.int (3 : Int32)), .val (.int t0), .val (.int t1), .val (.int t2), .val (.ref b81), .val (.ref b82), .val (.int (1 : Int32))] [(.int r)]))
                refine own_go (fun _ q => XS.iload X126.here hx rfl (hb hby at_213) rfl q) ?_
                show own_Go _ _ _ _ _ _ _ (T126.setTop (mkF m 215 #[.val (.long q0), .second, .val (.long q1), .second, .val (.long q2), .second, .val (.long q3), .second, .val (.long q4), .second, .val (.int p5), .val (.int (3 : Int32)), .val (.int t0), .val (.int t1), .val (.int t2), .val (.ref b81), .val (.ref b82), .val (.int (1 : Int32))] [(.int (1 : Int32)), (.int r)]))
                refine own_go (fun _ q => XS.icmpNo X126.here hx rfl (hb hby at_215) rfl (teq ((own_final (k := 3) hb0 hb1 hb2 (by decide) hR).trans (by simp [own_exp, *]))).2 q) ?_
                show own_Go _ _ _ _ _ _ _ (T126.setTop (mkF m 218 #[.val (.long q0), .second, .val (.long q1), .second, .val (.long q2), .second, .val (.long q3), .second, .val (.long q4), .second, .val (.int p5), .val (.int (3 : Int32)), .val (.int t0), .val (.int t1), .val (.int t2), .val (.ref b81), .val (.ref b82), .val (.int (1 : Int32))] []))
                refine own_go (fun _ q => XS.iconst X126.here hx rfl (hb hby at_218) q) ?_
                show own_Go _ _ _ _ _ _ _ (T126.setTop (mkF m 219 #[.val (.long q0), .second, .val (.long q1), .second, .val (.long q2), .second, .val (.long q3), .second, .val (.long q4), .second, .val (.int p5), .val (.int (3 : Int32)), .val (.int t0), .val (.int t1), .val (.int t2), .val (.ref b81), .val (.ref b82), .val (.int (1 : Int32))] [(.int (1 : Int32))]))
                refine own_go (fun _ q => XS.goto X126.here hx rfl (pc0 := 219) (pc' := 223) rfl (hb hby at_219) (by decide) (by decide) q) ?_
                show own_Go _ _ _ _ _ _ _ (T126.setTop (mkF m 223 #[.val (.long q0), .second, .val (.long q1), .second, .val (.long q2), .second, .val (.long q3), .second, .val (.long q4), .second, .val (.int p5), .val (.int (3 : Int32)), .val (.int t0), .val (.int t1), .val (.int t2), .val (.ref b81), .val (.ref b82), .val (.int (1 : Int32))] [(.int (1 : Int32))]))
                exact own_retZ X126 hx hlk hret (hb hby at_223) (by decide) (by decide) (by decide) ⟨rfl, N126⟩
              · refine own_go (fun _ q => XS.ifNo X99.here hx rfl (hb hby at_193) rfl ((if0 _ _).trans (feq hc193_119).1) q) ?_
                show own_Go _ _ _ _ _ _ _ (T99.setTop (mkF m 196 #[.val (.long q0), .second, .val (.long q1), .second, .val (.long q2), .second, .val (.long q3), .second, .val (.long q4), .second, .val (.int p5), .val (.int (3 : Int32)), .val (.int t0), .val (.int t1), .val (.int t2), .val (.ref b81), .val (.ref b82), .val (.int (1 : Int32))] []))
                refine own_go (fun _ q => XS.iconst X99.here hx rfl (hb hby at_196) q) ?_
                show own_Go _ _ _ _ _ _ _ (T99.setTop (mkF m 197 #[.val (.long q0), .second, .val (.long q1), .second, .val (.long q2), .second, .val (.long q3), .second, .val (.long q4), .second, .val (.int p5), .val (.int (3 : Int32)), .val (.int t0), .val (.int t1), .val (.int t2), .val (.ref b81), .val (.ref b82), .val (.int (1 : Int32))] [(.int (0 : Int32))]))
                refine own_go (fun _ q => XS.istore X99.here hx rfl (hb hby at_197) rfl (l' := #[.val (.long q0), .second, .val (.long q1), .second, .val (.long q2), .second, .val (.long q3), .second, .val (.long q4), .second, .val (.int p5), .val (.int (3 : Int32)), .val (.int t0), .val (.int t1), .val (.int t2), .val (.ref b81), .val (.ref b82), .val (.int (0 : Int32))]) rfl q) ?_
                show own_Go _ _ _ _ _ _ _ (T99.setTop (mkF m 199 #[.val (.long q0), .second, .val (.long q1), .second, .val (.long q2), .second, .val (.long q3), .second, .val (.long q4), .second, .val (.int p5), .val (.int (3 : Int32)), .val (.int t0), .val (.int t1), .val (.int t2), .val (.ref b81), .val (.ref b82), .val (.int (0 : Int32))] []))
                obtain ⟨T127, h127, X127, e127, E127, A127, D127, -, st127⟩ := newO X99 hx hZ hown (hw _ (List.mem_of_getElem? (i := 5) rfl)) (hw _ (List.mem_of_getElem? (i := 6) rfl)) (hw _ (List.mem_of_getElem? (i := 7) rfl)) e99 (g := (mkF m 199 #[.val (.long q0), .second, .val (.long q1), .second, .val (.long q2), .second, .val (.long q3), .second, .val (.long q4), .second, .val (.int p5), .val (.int (3 : Int32)), .val (.int t0), .val (.int t1), .val (.int t2), .val (.ref b81), .val (.ref b82), .val (.int (0 : Int32))] [])) rfl (hb hby at_199) (by decide) (by decide)
                obtain ⟨b127, g127⟩ : ∃ z, z = h99.size := ⟨_, rfl⟩
                rw [← g127] at A127 D127 st127
                have ne128 : b81 ≠ b127 := Nat.ne_of_lt (Nat.lt_of_lt_of_eq (B1).lt g127.symm)
                have ne129 : b82 ≠ b127 := Nat.ne_of_lt (Nat.lt_of_lt_of_eq (B2).lt g127.symm)
                have G127 : n0 ≤ b127 := by have := Z99; omega
                have Z127 : n0 ≤ h127.size := Nat.le_trans Z99 E127.1
                have Fn127_least : Fld Z h127 b127 "com/example/slotwright/slotwright/SplitBox" "least" "[J" .null := D127 (Or.inr (hw _ (List.mem_of_getElem? (i := 20) rfl))) (ty := (.array .long)) (by decide)
                have Fn127_most : Fld Z h127 b127 "com/example/slotwright/slotwright/SplitBox" "most" "[J" .null := D127 (Or.inr (hw _ (List.mem_of_getElem? (i := 22) rfl))) (ty := (.array .long)) (by decide)
                refine own_go st127 ?_
                show own_Go _ _ _ _ _ _ _ (T127.setTop (mkF m 202 #[.val (.long q0), .second, .val (.long q1), .second, .val (.long q2), .second, .val (.long q3), .second, .val (.long q4), .second, .val (.int p5), .val (.int (3 : Int32)), .val (.int t0), .val (.int t1), .val (.int t2), .val (.ref b81), .val (.ref b82), .val (.int (0 : Int32))] [(.ref b127)]))
                refine own_go (fun _ q => XS.dup X127.here hx rfl (hb hby at_202) rfl rfl q) ?_
                show own_Go _ _ _ _ _ _ _ (T127.setTop (mkF m 203 #[.val (.long q0), .second, .val (.long q1), .second, .val (.long q2), .second, .val (.long q3), .second, .val (.long q4), .second, .val (.int p5), .val (.int (3 : Int32)), .val (.int t0), .val (.int t1), .val (.int t2), .val (.ref b81), .val (.ref b82), .val (.int (0 : Int32))] [(.ref b127), (.ref b127)]))
                refine own_go (fun _ q => XS.aload X127.here hx rfl (hb hby at_203) rfl rfl q) ?_
                show own_Go _ _ _ _ _ _ _ (T127.setTop (mkF m 205 #[.val (.long q0), .second, .val (.long q1), .second, .val (.long q2), .second, .val (.long q3), .second, .val (.long q4), .second, .val (.int p5), .val (.int (3 : Int32)), .val (.int t0), .val (.int t1), .val (.int t2), .val (.ref b81), .val (.ref b82), .val (.int (0 : Int32))] [(.ref b81), (.ref b127), (.ref b127)]))
                refine own_go (fun _ q => XS.aload X127.here hx rfl (hb hby at_205) rfl rfl q) ?_
                show own_Go _ _ _ _ _ _ _ (T127.setTop (mkF m 207 #[.val (.long q0), .second, .val (.long q1), .second, .val (.long q2), .second, .val (.long q3), .second, .val (.long q4), .second, .val (.int p5), .val (.int (3 : Int32)), .val (.int t0), .val (.int t1), .val (.int t2), .val (.ref b81), .val (.ref b82), .val (.int (0 : Int32))] [(.ref b82), (.ref b81), (.ref b127), (.ref b127)]))
                refine own_init X127 hx hZ rfl hown (hw _ (List.mem_of_getElem? (i := 8) rfl)) (hw _ (List.mem_of_getElem? (i := 9) rfl)) (hw _ (List.mem_of_getElem? (i := 7) rfl)) (hw _ (List.mem_of_getElem? (i := 10) rfl)) (by decide) e127 (a := b127) (argsL := [(.ref b81), (.ref b82)]) (rest := [(.ref b127)]) (rm2 l Z a0 hw [] b127 b81 b82 h127 n0 Z127 A127 Fn127_least Fn127_most G127) 1 (by decide) (by decide) (by decide) (by decide) (by rw [hml]; rfl) pd_3 rfl rfl (Nat.le_of_eq rfl) (hb hby at_207) rfl ?_
                intro v130 T130 L130 X130 hQ130
                obtain ⟨rfl, N130q, K130, Eb, Fb1, Fb2⟩ := hQ130
                have N130 := Fr.app N99 N130q
                show own_Go _ _ _ _ _ _ _ (T130.setTop (mkF m 210 #[.val (.long q0), .second, .val (.long q1), .second, .val (.long q2), .second, .val (.long q3), .second, .val (.long q4), .second, .val (.int p5), .val (.int (3 : Int32)), .val (.int t0), .val (.int t1), .val (.int t2), .val (.ref b81), .val (.ref b82), .val (.int (0 : Int32))] [(.ref b127)]))
                have Z130 : n0 ≤ T130.heap.size := Nat.le_trans Z127 K130.1
                have f131 := ((B1.ext E127).keep K130 (ninS ne128 nin0))
                have f132 := ((B2.ext E127).keep K130 (ninS ne129 nin0))
                refine own_virtual X130 hx hZ hown (hw _ (List.mem_of_getElem? (i := 23) rfl)) (hw _ (List.mem_of_getElem? (i := 24) rfl)) (hw _ (List.mem_of_getElem? (i := 26) rfl)) (hw _ (List.mem_of_getElem? (i := 25) rfl)) (hw _ (List.mem_of_getElem? (i := 7) rfl)) (hw _ (List.mem_of_getElem? (i := 27) rfl)) (by decide) rfl (a := b127) Eb (argsL := []) (rest := []) (rm5 l Z a0 hw [] b127 b81 b82 (own_lo q0 q1 q2 q3 q4 t0 t1 t2) (own_hi q0 q1 q2 q3 q4 t0 t1 t2) 3 T130.heap n0 Z130 Fb1 Fb2 f131 f132 (by decide) (3 : Int32) rfl) 0 (by decide) (by decide) (by decide) (by decide) (by rw [hml]; rfl) pd_4 rfl rfl (Nat.le_of_eq rfl) (hb hby at_210) rfl ?_
                intro v133 T133 L133 X133 hQ133
                obtain ⟨r, rfl, N133q, e133q, hR⟩ := hQ133
                have N133 := Fr.app N130 N133q
                show own_Go _ _ _ _ _ _ _ (T133.setTop (mkF m 213 #[.val (.long q0), .second, .val (.long q1), .second, .val (.long q2), .second, .val (.long q3), .second, .val (.long q4), .second, .val (.int p5), .val (.int (3 : Int32)), .val (.int t0), .val (.int t1), .val (.int t2), .val (.ref b81), .val (.ref b82), .val (.int (0 : Int32))] [(.int r)]))
                refine own_go (fun _ q => XS.iload X133.here hx rfl (hb hby at_213) rfl q) ?_
                show own_Go _ _ _ _ _ _ _ (T133.setTop (mkF m 215 #[.val (.long q0), .second, .val (.long q1), .second, .val (.long q2), .second, .val (.long q3), .second, .val (.long q4), .second, .val (.int p5), .val (.int (3 : Int32)), .val (.int t0), .val (.int t1), .val (.int t2), .val (.ref b81), .val (.ref b82), .val (.int (0 : Int32))] [(.int (0 : Int32)), (.int r)]))
                refine own_go (fun _ q => XS.icmpNo X133.here hx rfl (hb hby at_215) rfl (teq ((own_final (k := 3) hb0 hb1 hb2 (by decide) hR).trans (by simp [own_exp, *]))).2 q) ?_
                show own_Go _ _ _ _ _ _ _ (T133.setTop (mkF m 218 #[.val (.long q0), .second, .val (.long q1), .second, .val (.long q2), .second, .val (.long q3), .second, .val (.long q4), .second, .val (.int p5), .val (.int (3 : Int32)), .val (.int t0), .val (.int t1), .val (.int t2), .val (.ref b81), .val (.ref b82), .val (.int (0 : Int32))] []))
                refine own_go (fun _ q => XS.iconst X133.here hx rfl (hb hby at_218) q) ?_
                show own_Go _ _ _ _ _ _ _ (T133.setTop (mkF m 219 #[.val (.long q0), .second, .val (.long q1), .second, .val (.long q2), .second, .val (.long q3), .second, .val (.long q4), .second, .val (.int p5), .val (.int (3 : Int32)), .val (.int t0), .val (.int t1), .val (.int t2), .val (.ref b81), .val (.ref b82), .val (.int (0 : Int32))] [(.int (1 : Int32))]))
                refine own_go (fun _ q => XS.goto X133.here hx rfl (pc0 := 219) (pc' := 223) rfl (hb hby at_219) (by decide) (by decide) q) ?_
                show own_Go _ _ _ _ _ _ _ (T133.setTop (mkF m 223 #[.val (.long q0), .second, .val (.long q1), .second, .val (.long q2), .second, .val (.long q3), .second, .val (.long q4), .second, .val (.int p5), .val (.int (3 : Int32)), .val (.int t0), .val (.int t1), .val (.int t2), .val (.ref b81), .val (.ref b82), .val (.int (0 : Int32))] [(.int (1 : Int32))]))
                exact own_retZ X133 hx hlk hret (hb hby at_223) (by decide) (by decide) (by decide) ⟨rfl, N133⟩
          · refine own_go (fun _ q => XS.ifNo X99.here hx rfl (hb hby at_166) rfl ((if0 _ _).trans (feq hc166_102).1) q) ?_
            show own_Go _ _ _ _ _ _ _ (T99.setTop (mkF m 169 #[.val (.long q0), .second, .val (.long q1), .second, .val (.long q2), .second, .val (.long q3), .second, .val (.long q4), .second, .val (.int p5), .val (.int (3 : Int32)), .val (.int t0), .val (.int t1), .val (.int t2), .val (.ref b81), .val (.ref b82), .val (.int (-1 : Int32))] []))
            refine own_go (fun _ q => XS.iconst X99.here hx rfl (hb hby at_169) q) ?_
            show own_Go _ _ _ _ _ _ _ (T99.setTop (mkF m 170 #[.val (.long q0), .second, .val (.long q1), .second, .val (.long q2), .second, .val (.long q3), .second, .val (.long q4), .second, .val (.int p5), .val (.int (3 : Int32)), .val (.int t0), .val (.int t1), .val (.int t2), .val (.ref b81), .val (.ref b82), .val (.int (-1 : Int32))] [(.int (2 : Int32))]))
            refine own_go (fun _ q => XS.istore X99.here hx rfl (hb hby at_170) rfl (l' := #[.val (.long q0), .second, .val (.long q1), .second, .val (.long q2), .second, .val (.long q3), .second, .val (.long q4), .second, .val (.int p5), .val (.int (3 : Int32)), .val (.int t0), .val (.int t1), .val (.int t2), .val (.ref b81), .val (.ref b82), .val (.int (2 : Int32))]) rfl q) ?_
            show own_Go _ _ _ _ _ _ _ (T99.setTop (mkF m 172 #[.val (.long q0), .second, .val (.long q1), .second, .val (.long q2), .second, .val (.long q3), .second, .val (.long q4), .second, .val (.int p5), .val (.int (3 : Int32)), .val (.int t0), .val (.int t1), .val (.int t2), .val (.ref b81), .val (.ref b82), .val (.int (2 : Int32))] []))
            refine own_go (fun _ q => XS.iload X99.here hx rfl (hb hby at_172) rfl q) ?_
            show own_Go _ _ _ _ _ _ _ (T99.setTop (mkF m 174 #[.val (.long q0), .second, .val (.long q1), .second, .val (.long q2), .second, .val (.long q3), .second, .val (.long q4), .second, .val (.int p5), .val (.int (3 : Int32)), .val (.int t0), .val (.int t1), .val (.int t2), .val (.ref b81), .val (.ref b82), .val (.int (2 : Int32))] [(.int (3 : Int32))]))
            refine own_go (fun _ q => XS.iconst X99.here hx rfl (hb hby at_174) q) ?_
            show own_Go _ _ _ _ _ _ _ (T99.setTop (mkF m 175 #[.val (.long q0), .second, .val (.long q1), .second, .val (.long q2), .second, .val (.long q3), .second, .val (.long q4), .second, .val (.int p5), .val (.int (3 : Int32)), .val (.int t0), .val (.int t1), .val (.int t2), .val (.ref b81), .val (.ref b82), .val (.int (2 : Int32))] [(.int (1 : Int32)), (.int (3 : Int32))]))
            refine own_go (fun _ q => XS.icmpNo X99.here hx rfl (hb hby at_175) rfl (tlt (by decide : (1 : Int32) < (3 : Int32))).2.2.2 q) ?_
            show own_Go _ _ _ _ _ _ _ (T99.setTop (mkF m 178 #[.val (.long q0), .second, .val (.long q1), .second, .val (.long q2), .second, .val (.long q3), .second, .val (.long q4), .second, .val (.int p5), .val (.int (3 : Int32)), .val (.int t0), .val (.int t1), .val (.int t2), .val (.ref b81), .val (.ref b82), .val (.int (2 : Int32))] []))
            refine own_go (fun _ q => XS.iload X99.here hx rfl (hb hby at_178) rfl q) ?_
            show own_Go _ _ _ _ _ _ _ (T99.setTop (mkF m 180 #[.val (.long q0), .second, .val (.long q1), .second, .val (.long q2), .second, .val (.long q3), .second, .val (.long q4), .second, .val (.int p5), .val (.int (3 : Int32)), .val (.int t0), .val (.int t1), .val (.int t2), .val (.ref b81), .val (.ref b82), .val (.int (2 : Int32))] [(.int t1)]))
            by_cases hc180_134 : t1 = (0 : Int32)
            · refine own_go (fun _ q => XS.ifYes X99.here hx rfl (pc0 := 180) (pc' := 186) rfl (hb hby at_180) rfl ((if0 _ _).trans (teq hc180_134).1) (by decide) (by decide) q) ?_
              show own_Go _ _ _ _ _ _ _ (T99.setTop (mkF m 186 #[.val (.long q0), .second, .val (.long q1), .second, .val (.long q2), .second, .val (.long q3), .second, .val (.long q4), .second, .val (.int p5), .val (.int (3 : Int32)), .val (.int t0), .val (.int t1), .val (.int t2), .val (.ref b81), .val (.ref b82), .val (.int (2 : Int32))] []))
              refine own_go (fun _ q => XS.iload X99.here hx rfl (hb hby at_186) rfl q) ?_
              show own_Go _ _ _ _ _ _ _ (T99.setTop (mkF m 188 #[.val (.long q0), .second, .val (.long q1), .second, .val (.long q2), .second, .val (.long q3), .second, .val (.long q4), .second, .val (.int p5), .val (.int (3 : Int32)), .val (.int t0), .val (.int t1), .val (.int t2), .val (.ref b81), .val (.ref b82), .val (.int (2 : Int32))] [(.int (3 : Int32))]))
              refine own_go (fun _ q => XS.ifNo X99.here hx rfl (hb hby at_188) rfl ((if0 _ _).trans (tlt (by decide : (0 : Int32) < (3 : Int32))).2.2.2) q) ?_
              show own_Go _ _ _ _ _ _ _ (T99.setTop (mkF m 191 #[.val (.long q0), .second, .val (.long q1), .second, .val (.long q2), .second, .val (.long q3), .second, .val (.long q4), .second, .val (.int p5), .val (.int (3 : Int32)), .val (.int t0), .val (.int t1), .val (.int t2), .val (.ref b81), .val (.ref b82), .val (.int (2 : Int32))] []))
              refine own_go (fun _ q => XS.iload X99.here hx rfl (hb hby at_191) rfl q) ?_
              show own_Go _ _ _ _ _ _ _ (T99.setTop (mkF m 193 #[.val (.long q0), .second, .val (.long q1), .second, .val (.long q2), .second, .val (.long q3), .second, .val (.long q4), .second, .val (.int p5), .val (.int (3 : Int32)), .val (.int t0), .val (.int t1), .val (.int t2), .val (.ref b81), .val (.ref b82), .val (.int (2 : Int32))] [(.int t0)]))
              by_cases hc193_135 : t0 = (0 : Int32)
              · refine own_go (fun _ q => XS.ifYes X99.here hx rfl (pc0 := 193) (pc' := 199) rfl (hb hby at_193) rfl ((if0 _ _).trans (teq hc193_135).1) (by decide) (by decide) q) ?_
                show own_Go _ _ _ _ _ _ _ (T99.setTop (mkF m 199 #[.val (.long q0), .second, .val (.long q1), .second, .val (.long q2), .second, .val (.long q3), .second, .val (.long q4), .second, .val (.int p5), .val (.int (3 : Int32)), .val (.int t0), .val (.int t1), .val (.int t2), .val (.ref b81), .val (.ref b82), .val (.int (2 : Int32))] []))
                obtain ⟨T136, h136, X136, e136, E136, A136, D136, -, st136⟩ := newO X99 hx hZ hown (hw _ (List.mem_of_getElem? (i := 5) rfl)) (hw _ (List.mem_of_getElem? (i := 6) rfl)) (hw _ (List.mem_of_getElem? (i := 7) rfl)) e99 (g := (mkF m 199 #[.val (.long q0), .second, .val (.long q1), .second, .val (.long q2), .second, .val (.long q3), .second, .val (.long q4), .second, .val (.int p5), .val (.int (3 : Int32)), .val (.int t0), .val (.int t1), .val (.int t2), .val (.ref b81), .val (.ref b82), .val (.int (2 : Int32))] [])) rfl (hb hby at_199) (by decide) (by decide)
                obtain ⟨b136, g136⟩ : ∃ z, z = h99.size := ⟨_, rfl⟩
                rw [← g136] at A136 D136 st136
                have ne137 : b81 ≠ b136 := Nat.ne_of_lt (Nat.lt_of_lt_of_eq (B1).lt g136.symm)
                have ne138 : b82 ≠ b136 := Nat.ne_of_lt (Nat.lt_of_lt_of_eq (B2).lt g136.symm)
                have G136 : n0 ≤ b136 := by have := Z99; omega
                have Z136 : n0 ≤ h136.size := Nat.le_trans Z99 E136.1
                have Fn136_least : Fld Z h136 b136 "com/example/slotwright/slotwright/SplitBox" "least" "[J" .null := D136 (Or.inr (hw _ (List.mem_of_getElem? (i := 20) rfl))) (ty := (.array .long)) (by decide)
                have Fn136_most : Fld Z h136 b136 "com/example/slotwright/slotwright/SplitBox" "most" "[J" .null := D136 (Or.inr (hw _ (List.mem_of_getElem? (i := 22) rfl))) (ty := (.array .long)) (by decide)
                refine own_go st136 ?_
                show own_Go _ _ _ _ _ _ _ (T136.setTop (mkF m 202 #[.val (.long q0), .second, .val (.long q1), .second, .val (.long q2), .second, .val (.long q3), .second, .val (.long q4), .second, .val (.int p5), .val (.int (3 : Int32)), .val (.int t0), .val (.int t1), .val (.int t2), .val (.ref b81), .val (.ref b82), .val (.int (2 : Int32))] [(.ref b136)]))
                refine own_go (fun _ q => XS.dup X136.here hx rfl (hb hby at_202) rfl rfl q) ?_
                show own_Go _ _ _ _ _ _ _ (T136.setTop (mkF m 203 #[.val (.long q0), .second, .val (.long q1), .second, .val (.long q2), .second, .val (.long q3), .second, .val (.long q4), .second, .val (.int p5), .val (.int (3 : Int32)), .val (.int t0), .val (.int t1), .val (.int t2), .val (.ref b81), .val (.ref b82), .val (.int (2 : Int32))] [(.ref b136), (.ref b136)]))
                refine own_go (fun _ q => XS.aload X136.here hx rfl (hb hby at_203) rfl rfl q) ?_
                show own_Go _ _ _ _ _ _ _ (T136.setTop (mkF m 205 #[.val (.long q0), .second, .val (.long q1), .second, .val (.long q2), .second, .val (.long q3), .second, .val (.long q4), .second, .val (.int p5), .val (.int (3 : Int32)), .val (.int t0), .val (.int t1), .val (.int t2), .val (.ref b81), .val (.ref b82), .val (.int (2 : Int32))] [(.ref b81), (.ref b136), (.ref b136)]))
                refine own_go (fun _ q => XS.aload X136.here hx rfl (hb hby at_205) rfl rfl q) ?_
                show own_Go _ _ _ _ _ _ _ (T136.setTop (mkF m 207 #[.val (.long q0), .second, .val (.long q1), .second, .val (.long q2), .second, .val (.long q3), .second, .val (.long q4), .second, .val (.int p5), .val (.int (3 : Int32)), .val (.int t0), .val (.int t1), .val (.int t2), .val (.ref b81), .val (.ref b82), .val (.int (2 : Int32))] [(.ref b82), (.ref b81), (.ref b136), (.ref b136)]))
                refine own_init X136 hx hZ rfl hown (hw _ (List.mem_of_getElem? (i := 8) rfl)) (hw _ (List.mem_of_getElem? (i := 9) rfl)) (hw _ (List.mem_of_getElem? (i := 7) rfl)) (hw _ (List.mem_of_getElem? (i := 10) rfl)) (by decide) e136 (a := b136) (argsL := [(.ref b81), (.ref b82)]) (rest := [(.ref b136)]) (rm2 l Z a0 hw [] b136 b81 b82 h136 n0 Z136 A136 Fn136_least Fn136_most G136) 1 (by decide) (by decide) (by decide) (by decide) (by rw [hml]; rfl) pd_3 rfl rfl (Nat.le_of_eq rfl) (hb hby at_207) rfl ?_
                intro v139 T139 L139 X139 hQ139
                obtain ⟨rfl, N139q, K139, Eb, Fb1, Fb2⟩ := hQ139
                have N139 := Fr.app N99 N139q
                show own_Go _ _ _ _ _ _ _ (T139.setTop (mkF m 210 #[.val (.long q0), .second, .val (.long q1), .second, .val (.long q2), .second, .val (.long q3), .second, .val (.long q4), .second, .val (.int p5), .val (.int (3 : Int32)), .val (.int t0), .val (.int t1), .val (.int t2), .val (.ref b81), .val (.ref b82), .val (.int (2 : Int32))] [(.ref b136)]))
                have Z139 : n0 ≤ T139.heap.size := Nat.le_trans Z136 K139.1
                have f140 := ((B1.ext E136).keep K139 (ninS ne137 nin0))
                have f141 := ((B2.ext E136).keep K139 (ninS ne138 nin0))
                refine own_virtual X139 hx hZ hown (hw _ (List.mem_of_getElem? (i := 23) rfl)) (hw _ (List.mem_of_getElem? (i := 24) rfl)) (hw _ (List.mem_of_getElem? (i := 26) rfl)) (hw _ (List.mem_of_getElem? (i := 25) rfl)) (hw _ (List.mem_of_getElem? (i := 7) rfl)) (hw _ (List.mem_of_getElem? (i := 27) rfl)) (by decide) rfl (a := b136) Eb (argsL := []) (rest := []) (rm5 l Z a0 hw [] b136 b81 b82 (own_lo q0 q1 q2 q3 q4 t0 t1 t2) (own_hi q0 q1 q2 q3 q4 t0 t1 t2) 3 T139.heap n0 Z139 Fb1 Fb2 f140 f141 (by decide) (3 : Int32) rfl) 0 (by decide) (by decide) (by decide) (by decide) (by rw [hml]; rfl) pd_4 rfl rfl (Nat.le_of_eq rfl) (hb hby at_210) rfl ?_
                intro v142 T142 L142 X142 hQ142
                obtain ⟨r, rfl, N142q, e142q, hR⟩ := hQ142
                have N142 := Fr.app N139 N142q
                show own_Go _ _ _ _ _ _ _ (T142.setTop (mkF m 213 #[.val (.long q0), .second, .val (.long q1), .second, .val (.long q2), .second, .val (.long q3), .second, .val (.long q4), .second, .val (.int p5), .val (.int (3 : Int32)), .val (.int t0), .val (.int t1), .val (.int t2), .val (.ref b81), .val (.ref b82), .val (.int (2 : Int32))] [(.int r)]))
                refine own_go (fun _ q => XS.iload X142.here hx rfl (hb hby at_213) rfl q) ?_
                show own_Go _ _ _ _ _ _ _ (T142.setTop (mkF m 215 #[.val (.long q0), .second, .val (.long q1), .second, .val (.long q2), .second, .val (.long q3), .second, .val (.long q4), .second, .val (.int p5), .val (.int (3 : Int32)), .val (.int t0), .val (.int t1), .val (.int t2), .val (.ref b81), .val (.ref b82), .val (.int (2 : Int32))] [(.int (2 : Int32)), (.int r)]))
                refine own_go (fun _ q => XS.icmpNo X142.here hx rfl (hb hby at_215) rfl (teq ((own_final (k := 3) hb0 hb1 hb2 (by decide) hR).trans (by simp [own_exp, *]))).2 q) ?_
                show own_Go _ _ _ _ _ _ _ (T142.setTop (mkF m 218 #[.val (.long q0), .second, .val (.long q1), .second, .val (.long q2), .second, .val (.long q3), .second, .val (.long q4), .second, .val (.int p5), .val (.int (3 : Int32)), .val (.int t0), .val (.int t1), .val (.int t2), .val (.ref b81), .val (.ref b82), .val (.int (2 : Int32))] []))
                refine own_go (fun _ q => XS.iconst X142.here hx rfl (hb hby at_218) q) ?_
                show own_Go _ _ _ _ _ _ _ (T142.setTop (mkF m 219 #[.val (.long q0), .second, .val (.long q1), .second, .val (.long q2), .second, .val (.long q3), .second, .val (.long q4), .second, .val (.int p5), .val (.int (3 : Int32)), .val (.int t0), .val (.int t1), .val (.int t2), .val (.ref b81), .val (.ref b82), .val (.int (2 : Int32))] [(.int (1 : Int32))]))
                refine own_go (fun _ q => XS.goto X142.here hx rfl (pc0 := 219) (pc' := 223) rfl (hb hby at_219) (by decide) (by decide) q) ?_
                show own_Go _ _ _ _ _ _ _ (T142.setTop (mkF m 223 #[.val (.long q0), .second, .val (.long q1), .second, .val (.long q2), .second, .val (.long q3), .second, .val (.long q4), .second, .val (.int p5), .val (.int (3 : Int32)), .val (.int t0), .val (.int t1), .val (.int t2), .val (.ref b81), .val (.ref b82), .val (.int (2 : Int32))] [(.int (1 : Int32))]))
                exact own_retZ X142 hx hlk hret (hb hby at_223) (by decide) (by decide) (by decide) ⟨rfl, N142⟩
              · refine own_go (fun _ q => XS.ifNo X99.here hx rfl (hb hby at_193) rfl ((if0 _ _).trans (feq hc193_135).1) q) ?_
                show own_Go _ _ _ _ _ _ _ (T99.setTop (mkF m 196 #[.val (.long q0), .second, .val (.long q1), .second, .val (.long q2), .second, .val (.long q3), .second, .val (.long q4), .second, .val (.int p5), .val (.int (3 : Int32)), .val (.int t0), .val (.int t1), .val (.int t2), .val (.ref b81), .val (.ref b82), .val (.int (2 : Int32))] []))
                refine own_go (fun _ q => XS.iconst X99.here hx rfl (hb hby at_196) q) ?_
                show own_Go _ _ _ _ _ _ _ (T99.setTop (mkF m 197 #[.val (.long q0), .second, .val (.long q1), .second, .val (.long q2), .second, .val (.long q3), .second, .val (.long q4), .second, .val (.int p5), .val (.int (3 : Int32)), .val (.int t0), .val (.int t1), .val (.int t2), .val (.ref b81), .val (.ref b82), .val (.int (2 : Int32))] [(.int (0 : Int32))]))
                refine own_go (fun _ q => XS.istore X99.here hx rfl (hb hby at_197) rfl (l' := #[.val (.long q0), .second, .val (.long q1), .second, .val (.long q2), .second, .val (.long q3), .second, .val (.long q4), .second, .val (.int p5), .val (.int (3 : Int32)), .val (.int t0), .val (.int t1), .val (.int t2), .val (.ref b81), .val (.ref b82), .val (.int (0 : Int32))]) rfl q) ?_
                show own_Go _ _ _ _ _ _ _ (T99.setTop (mkF m 199 #[.val (.long q0), .second, .val (.long q1), .second, .val (.long q2), .second, .val (.long q3), .second, .val (.long q4), .second, .val (.int p5), .val (.int (3 : Int32)), .val (.int t0), .val (.int t1), .val (.int t2), .val (.ref b81), .val (.ref b82), .val (.int (0 : Int32))] []))
                obtain ⟨T143, h143, X143, e143, E143, A143, D143, -, st143⟩ := newO X99 hx hZ hown (hw _ (List.mem_of_getElem? (i := 5) rfl)) (hw _ (List.mem_of_getElem? (i := 6) rfl)) (hw _ (List.mem_of_getElem? (i := 7) rfl)) e99 (g := (mkF m 199 #[.val (.long q0), .second, .val (.long q1), .second, .val (.long q2), .second, .val (.long q3), .second, .val (.long q4), .second, .val (.int p5), .val (.int (3 : Int32)), .val (.int t0), .val (.int t1), .val (.int t2), .val (.ref b81), .val (.ref b82), .val (.int (0 : Int32))] [])) rfl (hb hby at_199) (by decide) (by decide)
                obtain ⟨b143, g143⟩ : ∃ z, z = h99.size := ⟨_, rfl⟩
                rw [← g143] at A143 D143 st143
                have ne144 : b81 ≠ b143 := Nat.ne_of_lt (Nat.lt_of_lt_of_eq (B1).lt g143.symm)
                have ne145 : b82 ≠ b143 := Nat.ne_of_lt (Nat.lt_of_lt_of_eq (B2).lt g143.symm)
                have G143 : n0 ≤ b143 := by have := Z99; omega
                have Z143 : n0 ≤ h143.size := Nat.le_trans Z99 E143.1
                have Fn143_least : Fld Z h143 b143 "com/example/slotwright/slotwright/SplitBox" "least" "[J" .null := D143 (Or.inr (hw _ (List.mem_of_getElem? (i := 20) rfl))) (ty := (.array .long)) (by decide)
                have Fn143_most : Fld Z h143 b143 "com/example/slotwright/slotwright/SplitBox" "most" "[J" .null := D143 (Or.inr (hw _ (List.mem_of_getElem? (i := 22) rfl))) (ty := (.array .long)) (by decide)
                refine own_go st143 ?_
                show own_Go _ _ _ _ _ _ _ (T143.setTop (mkF m 202 #[.val (.long q0), .second, .val (.long q1), .second, .val (.long q2), .second, .val (.long q3), .second, .val (.long q4), .second, .val (.int p5), .val (.int (3 : Int32)), .val (.int t0), .val (.int t1), .val (.int t2), .val (.ref b81), .val (.ref b82), .val (.int (0 : Int32))] [(.ref b143)]))
                refine own_go (fun _ q => XS.dup X143.here hx rfl (hb hby at_202) rfl rfl q) ?_
                show own_Go _ _ _ _ _ _ _ (T143.setTop (mkF m 203 #[.val (.long q0), .second, .val (.long q1), .second, .val (.long q2), .second, .val (.long q3), .second, .val (.long q4), .second, .val (.int p5), .val (.int (3 : Int32)), .val (.int t0), .val (.int t1), .val (.int t2), .val (.ref b81), .val (.ref b82), .val (.int (0 : Int32))] [(.ref b143), (.ref b143)]))
                refine own_go (fun _ q => XS.aload X143.here hx rfl (hb hby at_203) rfl rfl q) ?_
                show own_Go _ _ _ _ _ _ _ (T143.setTop (mkF m 205 #[.val (.long q0), .second, .val (.long q1), .second, .val (.long q2), .second, .val (.long q3), .second, .val (.long q4), .second, .val (.int p5), .val (.int (3 : Int32)), .val (.int t0), .val (.int t1), .val (.int t2), .val (.ref b81), .val (.ref b82), .val (.int (0 : Int32))] [(.ref b81), (.ref b143), (.ref b143)]))
                refine own_go (fun _ q => XS.aload X143.here hx rfl (hb hby at_205) rfl rfl q) ?_
                show own_Go _ _ _ _ _ _ _ (T143.setTop (mkF m 207 #[.val (.long q0), .second, .val (.long q1), .second, .val (.long q2), .second, .val (.long q3), .second, .val (.long q4), .second, .val (.int p5), .val (.int (3 : Int32)), .val (.int t0), .val (.int t1), .val (.int t2), .val (.ref b81), .val (.ref b82), .val (.int (0 : Int32))] [(.ref b82), (.ref b81), (.ref b143), (.ref b143)]))
                refine own_init X143 hx hZ rfl hown (hw _ (List.mem_of_getElem? (i := 8) rfl)) (hw _ (List.mem_of_getElem? (i := 9) rfl)) (hw _ (List.mem_of_getElem? (i := 7) rfl)) (hw _ (List.mem_of_getElem? (i := 10) rfl)) (by decide) e143 (a := b143) (argsL := [(.ref b81), (.ref b82)]) (rest := [(.ref b143)]) (rm2 l Z a0 hw [] b143 b81 b82 h143 n0 Z143 A143 Fn143_least Fn143_most G143) 1 (by decide) (by decide) (by decide) (by decide) (by rw [hml]; rfl) pd_3 rfl rfl (Nat.le_of_eq rfl) (hb hby at_207) rfl ?_
                intro v146 T146 L146 X146 hQ146
                obtain ⟨rfl, N146q, K146, Eb, Fb1, Fb2⟩ := hQ146
                have N146 := Fr.app N99 N146q
                show own_Go _ _ _ _ _ _ _ (T146.setTop (mkF m 210 #[.val (.long q0), .second, .val (.long q1), .second, .val (.long q2), .second, .val (.long q3), .second, .val (.long q4), .second, .val (.int p5), .val (.int (3 : Int32)), .val (.int t0), .val (.int t1), .val (.int t2), .val (.ref b81), .val (.ref b82), .val (.int (0 : Int32))] [(.ref b143)]))
                have Z146 : n0 ≤ T146.heap.size := Nat.le_trans Z143 K146.1
                have f147 := ((B1.ext E143).keep K146 (ninS ne144 nin0))
                have f148 := ((B2.ext E143).keep K146 (ninS ne145 nin0))
                refine own_virtual X146 hx hZ hown (hw _ (List.mem_of_getElem? (i := 23) rfl)) (hw _ (List.mem_of_getElem? (i := 24) rfl)) (hw _ (List.mem_of_getElem? (i := 26) rfl)) (hw _ (List.mem_of_getElem? (i := 25) rfl)) (hw _ (List.mem_of_getElem? (i := 7) rfl)) (hw _ (List.mem_of_getElem? (i := 27) rfl)) (by decide) rfl (a := b143) Eb (argsL := []) (rest := []) (rm5 l Z a0 hw [] b143 b81 b82 (own_lo q0 q1 q2 q3 q4 t0 t1 t2) (own_hi q0 q1 q2 q3 q4 t0 t1 t2) 3 T146.heap n0 Z146 Fb1 Fb2 f147 f148 (by decide) (3 : Int32) rfl) 0 (by decide) (by decide) (by decide) (by decide) (by rw [hml]; rfl) pd_4 rfl rfl (Nat.le_of_eq rfl) (hb hby at_210) rfl ?_
                intro v149 T149 L149 X149 hQ149
                obtain ⟨r, rfl, N149q, e149q, hR⟩ := hQ149
                have N149 := Fr.app N146 N149q
                show own_Go _ _ _ _ _ _ _ (T149.setTop (mkF m 213 #[.val (.long q0), .second, .val (.long q1), .second, .val (.long q2), .second, .val (.long q3), .second, .val (.long q4), .second, .val (.int p5), .val (.int (3 : Int32)), .val (.int t0), .val (.int t1), .val (.int t2), .val (.ref b81), .val (.ref b82), .val (.int (0 : Int32))] [(.int r)]))
                refine own_go (fun _ q => XS.iload X149.here hx rfl (hb hby at_213) rfl q) ?_
                show own_Go _ _ _ _ _ _ _ (T149.setTop (mkF m 215 #[.val (.long q0), .second, .val (.long q1), .second, .val (.long q2), .second, .val (.long q3), .second, .val (.long q4), .second, .val (.int p5), .val (.int (3 : Int32)), .val (.int t0), .val (.int t1), .val (.int t2), .val (.ref b81), .val (.ref b82), .val (.int (0 : Int32))] [(.int (0 : Int32)), (.int r)]))
                refine own_go (fun _ q => XS.icmpNo X149.here hx rfl (hb hby at_215) rfl (teq ((own_final (k := 3) hb0 hb1 hb2 (by decide) hR).trans (by simp [own_exp, *]))).2 q) ?_
                show own_Go _ _ _ _ _ _ _ (T149.setTop (mkF m 218 #[.val (.long q0), .second, .val (.long q1), .second, .val (.long q2), .second, .val (.long q3), .second, .val (.long q4), .second, .val (.int p5), .val (.int (3 : Int32)), .val (.int t0), .val (.int t1), .val (.int t2), .val (.ref b81), .val (.ref b82), .val (.int (0 : Int32))] []))
                refine own_go (fun _ q => XS.iconst X149.here hx rfl (hb hby at_218) q) ?_
                show own_Go _ _ _ _ _ _ _ (T149.setTop (mkF m 219 #[.val (.long q0), .second, .val (.long q1), .second, .val (.long q2), .second, .val (.long q3), .second, .val (.long q4), .second, .val (.int p5), .val (.int (3 : Int32)), .val (.int t0), .val (.int t1), .val (.int t2), .val (.ref b81), .val (.ref b82), .val (.int (0 : Int32))] [(.int (1 : Int32))]))
                refine own_go (fun _ q => XS.goto X149.here hx rfl (pc0 := 219) (pc' := 223) rfl (hb hby at_219) (by decide) (by decide) q) ?_
                show own_Go _ _ _ _ _ _ _ (T149.setTop (mkF m 223 #[.val (.long q0), .second, .val (.long q1), .second, .val (.long q2), .second, .val (.long q3), .second, .val (.long q4), .second, .val (.int p5), .val (.int (3 : Int32)), .val (.int t0), .val (.int t1), .val (.int t2), .val (.ref b81), .val (.ref b82), .val (.int (0 : Int32))] [(.int (1 : Int32))]))
                exact own_retZ X149 hx hlk hret (hb hby at_223) (by decide) (by decide) (by decide) ⟨rfl, N149⟩
            · refine own_go (fun _ q => XS.ifNo X99.here hx rfl (hb hby at_180) rfl ((if0 _ _).trans (feq hc180_134).1) q) ?_
              show own_Go _ _ _ _ _ _ _ (T99.setTop (mkF m 183 #[.val (.long q0), .second, .val (.long q1), .second, .val (.long q2), .second, .val (.long q3), .second, .val (.long q4), .second, .val (.int p5), .val (.int (3 : Int32)), .val (.int t0), .val (.int t1), .val (.int t2), .val (.ref b81), .val (.ref b82), .val (.int (2 : Int32))] []))
              refine own_go (fun _ q => XS.iconst X99.here hx rfl (hb hby at_183) q) ?_
              show own_Go _ _ _ _ _ _ _ (T99.setTop (mkF m 184 #[.val (.long q0), .second, .val (.long q1), .second, .val (.long q2), .second, .val (.long q3), .second, .val (.long q4), .second, .val (.int p5), .val (.int (3 : Int32)), .val (.int t0), .val (.int t1), .val (.int t2), .val (.ref b81), .val (.ref b82), .val (.int (2 : Int32))] [(.int (1 : Int32))]))
              refine own_go (fun _ q => XS.istore X99.here hx rfl (hb hby at_184) rfl (l' := #[.val (.long q0), .second, .val (.long q1), .second, .val (.long q2), .second, .val (.long q3), .second, .val (.long q4), .second, .val (.int p5), .val (.int (3 : Int32)), .val (.int t0), .val (.int t1), .val (.int t2), .val (.ref b81), .val (.ref b82), .val (.int (1 : Int32))]) rfl q) ?_
              show own_Go _ _ _ _ _ _ _ (T99.setTop (mkF m 186 #[.val (.long q0), .second, .val (.long q1), .second, .val (.long q2), .second, .val (.long q3), .second, .val (.long q4), .second, .val (.int p5), .val (.int (3 : Int32)), .val (.int t0), .val (.int t1), .val (.int t2), .val (.ref b81), .val (.ref b82), .val (.int (1 : Int32))] []))
              refine own_go (fun _ q => XS.iload X99.here hx rfl (hb hby at_186) rfl q) ?_
              show own_Go _ _ _ _ _ _ _ (T99.setTop (mkF m 188 #[.val (.long q0), .second, .val (.long q1), .second, .val (.long q2), .second, .val (.long q3), .second, .val (.long q4), .second, .val (.int p5), .val (.int (3 : Int32)), .val (.int t0), .val (.int t1), .val (.int t2), .val (.ref b81), .val (.ref b82), .val (.int (1 : Int32))] [(.int (3 : Int32))]))
              refine own_go (fun _ q => XS.ifNo X99.here hx rfl (hb hby at_188) rfl ((if0 _ _).trans (tlt (by decide : (0 : Int32) < (3 : Int32))).2.2.2) q) ?_
              show own_Go _ _ _ _ _ _ _ (T99.setTop (mkF m 191 #[.val (.long q0), .second, .val (.long q1), .second, .val (.long q2), .second, .val (.long q3), .second, .val (.long q4), .second, .val (.int p5), .val (.int (3 : Int32)), .val (.int t0), .val (.int t1), .val (.int t2), .val (.ref b81), .val (.ref b82), .val (.int (1 : Int32))] []))
              refine own_go (fun _ q => XS.iload X99.here hx rfl (hb hby at_191) rfl q) ?_
              show own_Go _ _ _ _ _ _ _ (T99.setTop (mkF m 193 #[.val (.long q0), .second, .val (.long q1), .second, .val (.long q2), .second, .val (.long q3), .second, .val (.long q4), .second, .val (.int p5), .val (.int (3 : Int32)), .val (.int t0), .val (.int t1), .val (.int t2), .val (.ref b81), .val (.ref b82), .val (.int (1 : Int32))] [(.int t0)]))
              by_cases hc193_150 : t0 = (0 : Int32)
              · refine own_go (fun _ q => XS.ifYes X99.here hx rfl (pc0 := 193) (pc' := 199) rfl (hb hby at_193) rfl ((if0 _ _).trans (teq hc193_150).1) (by decide) (by decide) q) ?_
                show own_Go _ _ _ _ _ _ _ (T99.setTop (mkF m 199 #[.val (.long q0), .second, .val (.long q1), .second, .val (.long q2), .second, .val (.long q3), .second, .val (.long q4), .second, .val (.int p5), .val (.int (3 : Int32)), .val (.int t0), .val (.int t1), .val (.int t2), .val (.ref b81), .val (.ref b82), .val (.int (1 : Int32))] []))
                obtain ⟨T151, h151, X151, e151, E151, A151, D151, -, st151⟩ := newO X99 hx hZ hown (hw _ (List.mem_of_getElem? (i := 5) rfl)) (hw _ (List.mem_of_getElem? (i := 6) rfl)) (hw _ (List.mem_of_getElem? (i := 7) rfl)) e99 (g := (mkF m 199 #[.val (.long q0), .second, .val (.long q1), .second, .val (.long q2), .second, .val (.long q3), .second, .val (.long q4), .second, .val (.int p5), .val (.int (3 : Int32)), .val (.int t0), .val (.int t1), .val (.int t2), .val (.ref b81), .val (.ref b82), .val (.int (1 : Int32))] [])) rfl (hb hby at_199) (by decide) (by decide)
                obtain ⟨b151, g151⟩ : ∃ z, z = h99.size := ⟨_, rfl⟩
                rw [← g151] at A151 D151 st151
                have ne152 : b81 ≠ b151 := Nat.ne_of_lt (Nat.lt_of_lt_of_eq (B1).lt g151.symm)
                have ne153 : b82 ≠ b151 := Nat.ne_of_lt (Nat.lt_of_lt_of_eq (B2).lt g151.symm)
                have G151 : n0 ≤ b151 := by have := Z99; omega
                have Z151 : n0 ≤ h151.size := Nat.le_trans Z99 E151.1
                have Fn151_least : Fld Z h151 b151 "com/example/slotwright/slotwright/SplitBox" "least" "[J" .null := D151 (Or.inr (hw _ (List.mem_of_getElem? (i := 20) rfl))) (ty := (.array .long)) (by decide)
                have Fn151_most : Fld Z h151 b151 "com/example/slotwright/slotwright/SplitBox" "most" "[J" .null := D151 (Or.inr (hw _ (List.mem_of_getElem? (i := 22) rfl))) (ty := (.array .long)) (by decide)
                refine own_go st151 ?_
                show own_Go _ _ _ _ _ _ _ (T151.setTop (mkF m 202 #[.val (.long q0), .second, .val (.long q1), .second, .val (.long q2), .second, .val (.long q3), .second, .val (.long q4), .second, .val (.int p5), .val (.int (3 : Int32)), .val (.int t0), .val (.int t1), .val (.int t2), .val (.ref b81), .val (.ref b82), .val (.int (1 : Int32))] [(.ref b151)]))
                refine own_go (fun _ q => XS.dup X151.here hx rfl (hb hby at_202) rfl rfl q) ?_
                show own_Go _ _ _ _ _ _ _ (T151.setTop (mkF m 203 #[.val (.long q0), .second, .val (.long q1), .second, .val (.long q2), .second, .val (.long q3), .second, .val (.long q4), .second, .val (.int p5), .val (.int (3 : Int32)), .val (.int t0), .val (.int t1), .val (.int t2), .val (.ref b81), .val (.ref b82), .val (.int (1 : Int32))] [(.ref b151), (.ref b151)]))
                refine own_go (fun _ q => XS.aload X151.here hx rfl (hb hby at_203) rfl rfl q) ?_
                show own_Go _ _ _ _ _ _ _ (T151.setTop (mkF m 205 #[.val (.long q0), .second, .val (.long q1), .second, .val (.long q2), .second, .val (.long q3), .second, .val (.long q4), .second, .val (.int p5), .val (.int (3 : Int32)), .val (.int t0), .val (.int t1), .val (.int t2), .val (.ref b81), .val (.ref b82), .val (.int (1 : Int32))] [(.ref b81), (.ref b151), (.ref b151)]))
                refine own_go (fun _ q => XS.aload X151.here hx rfl (hb hby at_205) rfl rfl q) ?_
                show own_Go _ _ _ _ _ _ _ (T151.setTop (mkF m 207 #[.val (.long q0), .second, .val (.long q1), .second, .val (.long q2), .second, .val (.long q3), .second, .val (.long q4), .second, .val (.int p5), .val (.int (3 : Int32)), .val (.int t0), .val (.int t1), .val (.int t2), .val (.ref b81), .val (.ref b82), .val (.int (1 : Int32))] [(.ref b82), (.ref b81), (.ref b151), (.ref b151)]))
                refine own_init X151 hx hZ rfl hown (hw _ (List.mem_of_getElem? (i := 8) rfl)) (hw _ (List.mem_of_getElem? (i := 9) rfl)) (hw _ (List.mem_of_getElem? (i := 7) rfl)) (hw _ (List.mem_of_getElem? (i := 10) rfl)) (by decide) e151 (a := b151) (argsL := [(.ref b81), (.ref b82)]) (rest := [(.ref b151)]) (rm2 l Z a0 hw [] b151 b81 b82 h151 n0 Z151 A151 Fn151_least Fn151_most G151) 1 (by decide) (by decide) (by decide) (by decide) (by rw [hml]; rfl) pd_3 rfl rfl (Nat.le_of_eq rfl) (hb hby at_207) rfl ?_
                intro v154 T154 L154 X154 hQ154
                obtain ⟨rfl, N154q, K154, Eb, Fb1, Fb2⟩ := hQ154
                have N154 := Fr.app N99 N154q
                show own_Go _ _ _ _ _ _ _ (T154.setTop (mkF m 210 #[.val (.long q0), .second, .val (.long q1), .second, .val (.long q2), .second, .val (.long q3), .second, .val (.long q4), .second, .val (.int p5), .val (.int (3 : Int32)), .val (.int t0), .val (.int t1), .val (.int t2), .val (.ref b81), .val (.ref b82), .val (.int (1 : Int32))] [(.ref b151)]))
                have Z154 : n0 ≤ T154.heap.size := Nat.le_trans Z151 K154.1
                have f155 := ((B1.ext E151).keep K154 (ninS ne152 nin0))
                have f156 := ((B2.ext E151).keep K154 (ninS ne153 nin0))
                refine own_virtual X154 hx hZ hown (hw _ (List.mem_of_getElem? (i := 23) rfl)) (hw _ (List.mem_of_getElem? (i := 24) rfl)) (hw _ (List.mem_of_getElem? (i := 26) rfl)) (hw _ (List.mem_of_getElem? (i := 25) rfl)) (hw _ (List.mem_of_getElem? (i := 7) rfl)) (hw _ (List.mem_of_getElem? (i := 27) rfl)) (by decide) rfl (a := b151) Eb (argsL := []) (rest := []) (rm5 l Z a0 hw [] b151 b81 b82 (own_lo q0 q1 q2 q3 q4 t0 t1 t2) (own_hi q0 q1 q2 q3 q4 t0 t1 t2) 3 T154.heap n0 Z154 Fb1 Fb2 f155 f156 (by decide) (3 : Int32) rfl) 0 (by decide) (by decide) (by decide) (by decide) (by rw [hml]; rfl) pd_4 rfl rfl (Nat.le_of_eq rfl) (hb hby at_210) rfl ?_
                intro v157 T157 L157 X157 hQ157
                obtain ⟨r, rfl, N157q, e157q, hR⟩ := hQ157
                have N157 := Fr.app N154 N157q
                show own_Go _ _ _ _ _ _ _ (T157.setTop (mkF m 213 #[.val (.long q0), .second, .val (.long q1), .second, .val (.long q2), .second, .val (.long q3), .second, .val (.long q4), .second, .val (.int p5), .val (.int (3 : Int32)), .val (.int t0), .val (.int t1), .val (.int t2), .val (.ref b81), .val (.ref b82), .val (.int (1 : Int32))] [(.int r)]))
                refine own_go (fun _ q => XS.iload X157.here hx rfl (hb hby at_213) rfl q) ?_
                show own_Go _ _ _ _ _ _ _ (T157.setTop (mkF m 215 #[.val (.long q0), .second, .val (.long q1), .second, .val (.long q2), .second, .val (.long q3), .second, .val (.long q4), .second, .val (.int p5), .val (.int (3 : Int32)), .val (.int t0), .val (.int t1), .val (.int t2), .val (.ref b81), .val (.ref b82), .val (.int (1 : Int32))] [(.int (1 : Int32)), (.int r)]))
                refine own_go (fun _ q => XS.icmpNo X157.here hx rfl (hb hby at_215) rfl (teq ((own_final (k := 3) hb0 hb1 hb2 (by decide) hR).trans (by simp [own_exp, *]))).2 q) ?_
                show own_Go _ _ _ _ _ _ _ (T157.setTop (mkF m 218 #[.val (.long q0), .second, .val (.long q1), .second, .val (.long q2), .second, .val (.long q3), .second, .val (.long q4), .second, .val (.int p5), .val (.int (3 : Int32)), .val (.int t0), .val (.int t1), .val (.int t2), .val (.ref b81), .val (.ref b82), .val (.int (1 : Int32))] []))
                refine own_go (fun _ q => XS.iconst X157.here hx rfl (hb hby at_218) q) ?_
                show own_Go _ _ _ _ _ _ _ (T157.setTop (mkF m 219 #[.val (.long q0), .second, .val (.long q1), .second, .val (.long q2), .second, .val (.long q3), .second, .val (.long q4), .second, .val (.int p5), .val (.int (3 : Int32)), .val (.int t0), .val (.int t1), .val (.int t2), .val (.ref b81), .val (.ref b82), .val (.int (1 : Int32))] [(.int (1 : Int32))]))
                refine own_go (fun _ q => XS.goto X157.here hx rfl (pc0 := 219) (pc' := 223) rfl (hb hby at_219) (by decide) (by decide) q) ?_
                show own_Go _ _ _ _ _ _ _ (T157.setTop (mkF m 223 #[.val (.long q0), .second, .val (.long q1), .second, .val (.long q2), .second, .val (.long q3), .second, .val (.long q4), .second, .val (.int p5), .val (.int (3 : Int32)), .val (.int t0), .val (.int t1), .val (.int t2), .val (.ref b81), .val (.ref b82), .val (.int (1 : Int32))] [(.int (1 : Int32))]))
                exact own_retZ X157 hx hlk hret (hb hby at_223) (by decide) (by decide) (by decide) ⟨rfl, N157⟩
              · refine own_go (fun _ q => XS.ifNo X99.here hx rfl (hb hby at_193) rfl ((if0 _ _).trans (feq hc193_150).1) q) ?_
                show own_Go _ _ _ _ _ _ _ (T99.setTop (mkF m 196 #[.val (.long q0), .second, .val (.long q1), .second, .val (.long q2), .second, .val (.long q3), .second, .val (.long q4), .second, .val (.int p5), .val (.int (3 : Int32)), .val (.int t0), .val (.int t1), .val (.int t2), .val (.ref b81), .val (.ref b82), .val (.int (1 : Int32))] []))
                refine own_go (fun _ q => XS.iconst X99.here hx rfl (hb hby at_196) q) ?_
                show own_Go _ _ _ _ _ _ _ (T99.setTop (mkF m 197 #[.val (.long q0), .second, .val (.long q1), .second, .val (.long q2), .second, .val (.long q3), .second, .val (.long q4), .second, .val (.int p5), .val (.int (3 : Int32)), .val (.int t0), .val (.int t1), .val (.int t2), .val (.ref b81), .val (.ref b82), .val (.int (1 : Int32))] [(.int (0 : Int32))]))
                refine own_go (fun _ q => XS.istore X99.here hx rfl (hb hby at_197) rfl (l' := #[.val (.long q0), .second, .val (.long q1), .second, .val (.long q2), .second, .val (.long q3), .second, .val (.long q4), .second, .val (.int p5), .val (.int (3 : Int32)), .val (.int t0), .val (.int t1), .val (.int t2), .val (.ref b81), .val (.ref b82), .val (.int (0 : Int32))]) rfl q) ?_
                show own_Go _ _ _ _ _ _ _ (T99.setTop (mkF m 199 #[.val (.long q0), .second, .val (.long q1), .second, .val (.long q2), .second, .val (.long q3), .second, .val (.long q4), .second, .val (.int p5), .val (.int (3 : Int32)), .val (.int t0), .val (.int t1), .val (.int t2), .val (.ref b81), .val (.ref b82), .val (.int (0 : Int32))] []))
                obtain ⟨T158, h158, X158, e158, E158, A158, D158, -, st158⟩ := newO X99 hx hZ hown (hw _ (List.mem_of_getElem? (i := 5) rfl)) (hw _ (List.mem_of_getElem? (i := 6) rfl)) (hw _ (List.mem_of_getElem? (i := 7) rfl)) e99 (g := (mkF m 199 #[.val (.long q0), .second, .val (.long q1), .second, .val (.long q2), .second, .val (.long q3), .second, .val (.long q4), .second, .val (.int p5), .val (.int (3 : Int32)), .val (.int t0), .val (.int t1), .val (.int t2), .val (.ref b81), .val (.ref b82), .val (.int (0 : Int32))] [])) rfl (hb hby at_199) (by decide) (by decide)
                obtain ⟨b158, g158⟩ : ∃ z, z = h99.size := ⟨_, rfl⟩
                rw [← g158] at A158 D158 st158
                have ne159 : b81 ≠ b158 := Nat.ne_of_lt (Nat.lt_of_lt_of_eq (B1).lt g158.symm)
                have ne160 : b82 ≠ b158 := Nat.ne_of_lt (Nat.lt_of_lt_of_eq (B2).lt g158.symm)
                have G158 : n0 ≤ b158 := by have := Z99; omega
                have Z158 : n0 ≤ h158.size := Nat.le_trans Z99 E158.1
                have Fn158_least : Fld Z h158 b158 "com/example/slotwright/slotwright/SplitBox" "least" "[J" .null := D158 (Or.inr (hw _ (List.mem_of_getElem? (i := 20) rfl))) (ty := (.array .long)) (by decide)
                have Fn158_most : Fld Z h158 b158 "com/example/slotwright/slotwright/SplitBox" "most" "[J" .null := D158 (Or.inr (hw _ (List.mem_of_getElem? (i := 22) rfl))) (ty := (.array .long)) (by decide)
                refine own_go st158 ?_
                show own_Go _ _ _ _ _ _ _ (T158.setTop (mkF m 202 #[.val (.long q0), .second, .val (.long q1), .second, .val (.long q2), .second, .val (.long q3), .second, .val (.long q4), .second, .val (.int p5), .val (.int (3 : Int32)), .val (.int t0), .val (.int t1), .val (.int t2), .val (.ref b81), .val (.ref b82), .val (.int (0 : Int32))] [(.ref b158)]))
                refine own_go (fun _ q => XS.dup X158.here hx rfl (hb hby at_202) rfl rfl q) ?_
                show own_Go _ _ _ _ _ _ _ (T158.setTop (mkF m 203 #[.val (.long q0), .second, .val (.long q1), .second, .val (.long q2), .second, .val (.long q3), .second, .val (.long q4), .second, .val (.int p5), .val (.int (3 : Int32)), .val (.int t0), .val (.int t1), .val (.int t2), .val (.ref b81), .val (.ref b82), .val (.int (0 : Int32))] [(.ref b158), (.ref b158)]))
                refine own_go (fun _ q => XS.aload X158.here hx rfl (hb hby at_203) rfl rfl q) ?_
                show own_Go _ _ _ _ _ _ _ (T158.setTop (mkF m 205 #[.val (.long q0), .second, .val (.long q1), .second, .val (.long q2), .second, .val (.long q3), .second, .val (.long q4), .second, .val (.int p5), .val (.int (3 : Int32)), .val (.int t0), .val (.int t1), .val (.int t2), .val (.ref b81), .val (.ref b82), .val (.int (0 : Int32))] [(.ref b81), (.ref b158), (.ref b158)]))
                refine own_go (fun _ q => XS.aload X158.here hx rfl (hb hby at_205) rfl rfl q) ?_
                show own_Go _ _ _ _ _ _ _ (T158.setTop (mkF m 207 #[.val (.long q0), .second, .val (.long q1), .second, .val (.long q2), .second, .val (.long q3), .second, .val (.long q4), .second, .val (.int p5), .val (.int (3 : Int32)), .val (.int t0), .val (.int t1), .val (.int t2), .val (.ref b81), .val (.ref b82), .val (.int (0 : Int32))] [(.ref b82), (.ref b81), (.ref b158), (.ref b158)]))
                refine own_init X158 hx hZ rfl hown (hw _ (List.mem_of_getElem? (i := 8) rfl)) (hw _ (List.mem_of_getElem? (i := 9) rfl)) (hw _ (List.mem_of_getElem? (i := 7) rfl)) (hw _ (List.mem_of_getElem? (i := 10) rfl)) (by decide) e158 (a := b158) (argsL := [(.ref b81), (.ref b82)]) (rest := [(.ref b158)]) (rm2 l Z a0 hw [] b158 b81 b82 h158 n0 Z158 A158 Fn158_least Fn158_most G158) 1 (by decide) (by decide) (by decide) (by decide) (by rw [hml]; rfl) pd_3 rfl rfl (Nat.le_of_eq rfl) (hb hby at_207) rfl ?_
                intro v161 T161 L161 X161 hQ161
                obtain ⟨rfl, N161q, K161, Eb, Fb1, Fb2⟩ := hQ161
                have N161 := Fr.app N99 N161q
                show own_Go _ _ _ _ _ _ _ (T161.setTop (mkF m 210 #[.val (.long q0), .second, .val (.long q1), .second, .val (.long q2), .second, .val (.long q3), .second, .val (.long q4), .second, .val (.int p5), .val (.int (3 : Int32)), .val (.int t0), .val (.int t1), .val (.int t2), .val (.ref b81), .val (.ref b82), .val (.int (0 : Int32))] [(.ref b158)]))
                have Z161 : n0 ≤ T161.heap.size := Nat.le_trans Z158 K161.1
                have f162 := ((B1.ext E158).keep K161 (ninS ne159 nin0))
                have f163 := ((B2.ext E158).keep K161 (ninS ne160 nin0))
                refine own_virtual X161 hx hZ hown (hw _ (List.mem_of_getElem? (i := 23) rfl)) (hw _ (List.mem_of_getElem? (i := 24) rfl)) (hw _ (List.mem_of_getElem? (i := 26) rfl)) (hw _ (List.mem_of_getElem? (i := 25) rfl)) (hw _ (List.mem_of_getElem? (i := 7) rfl)) (hw _ (List.mem_of_getElem? (i := 27) rfl)) (by decide) rfl (a := b158) Eb (argsL := []) (rest := []) (rm5 l Z a0 hw [] b158 b81 b82 (own_lo q0 q1 q2 q3 q4 t0 t1 t2) (own_hi q0 q1 q2 q3 q4 t0 t1 t2) 3 T161.heap n0 Z161 Fb1 Fb2 f162 f163 (by decide) (3 : Int32) rfl) 0 (by decide) (by decide) (by decide) (by decide) (by rw [hml]; rfl) pd_4 rfl rfl (Nat.le_of_eq rfl) (hb hby at_210) rfl ?_
                intro v164 T164 L164 X164 hQ164
                obtain ⟨r, rfl, N164q, e164q, hR⟩ := hQ164
                have N164 := Fr.app N161 N164q
                show own_Go _ _ _ _ _ _ _ (T164.setTop (mkF m 213 #[.val (.long q0), .second, .val (.long q1), .second, .val (.long q2), .second, .val (.long q3), .second, .val (.long q4), .second, .val (.int p5), .val (.int (3 : Int32)), .val (.int t0), .val (.int t1), .val (.int t2), .val (.ref b81), .val (.ref b82), .val (.int (0 : Int32))] [(.int r)]))
                refine own_go (fun _ q => XS.iload X164.here hx rfl (hb hby at_213) rfl q) ?_
                show own_Go _ _ _ _ _ _ _ (T164.setTop (mkF m 215 #[.val (.long q0), .second, .val (.long q1), .second, .val (.long q2), .second, .val (.long q3), .second, .val (.long q4), .second, .val (.int p5), .val (.int (3 : Int32)), .val (.int t0), .val (.int t1), .val (.int t2), .val (.ref b81), .val (.ref b82), .val (.int (0 : Int32))] [(.int (0 : Int32)), (.int r)]))
                refine own_go (fun _ q => XS.icmpNo X164.here hx rfl (hb hby at_215) rfl (teq ((own_final (k := 3) hb0 hb1 hb2 (by decide) hR).trans (by simp [own_exp, *]))).2 q) ?_
                show own_Go _ _ _ _ _ _ _ (T164.setTop (mkF m 218 #[.val (.long q0), .second, .val (.long q1), .second, .val (.long q2), .second, .val (.long q3), .second, .val (.long q4), .second, .val (.int p5), .val (.int (3 : Int32)), .val (.int t0), .val (.int t1), .val (.int t2), .val (.ref b81), .val (.ref b82), .val (.int (0 : Int32))] []))
                refine own_go (fun _ q => XS.iconst X164.here hx rfl (hb hby at_218) q) ?_
                show own_Go _ _ _ _ _ _ _ (T164.setTop (mkF m 219 #[.val (.long q0), .second, .val (.long q1), .second, .val (.long q2), .second, .val (.long q3), .second, .val (.long q4), .second, .val (.int p5), .val (.int (3 : Int32)), .val (.int t0), .val (.int t1), .val (.int t2), .val (.ref b81), .val (.ref b82), .val (.int (0 : Int32))] [(.int (1 : Int32))]))
                refine own_go (fun _ q => XS.goto X164.here hx rfl (pc0 := 219) (pc' := 223) rfl (hb hby at_219) (by decide) (by decide) q) ?_
                show own_Go _ _ _ _ _ _ _ (T164.setTop (mkF m 223 #[.val (.long q0), .second, .val (.long q1), .second, .val (.long q2), .second, .val (.long q3), .second, .val (.long q4), .second, .val (.int p5), .val (.int (3 : Int32)), .val (.int t0), .val (.int t1), .val (.int t2), .val (.ref b81), .val (.ref b82), .val (.int (0 : Int32))] [(.int (1 : Int32))]))
                exact own_retZ X164 hx hlk hret (hb hby at_223) (by decide) (by decide) (by decide) ⟨rfl, N164⟩
      by_cases hc40_165 : (p5 &&& (4 : Int32)) = (0 : Int32)
      · refine own_go (fun _ q => XS.ifYes X0.here hx rfl (pc0 := 40) (pc' := 47) rfl (hb hby at_40) rfl ((if0 _ _).trans (teq hc40_165).1) (by decide) (by decide) q) ?_
        show own_Go _ _ _ _ _ _ _ (s₁.setTop (mkF m 47 #[.val (.long q0), .second, .val (.long q1), .second, .val (.long q2), .second, .val (.long q3), .second, .val (.long q4), .second, .val (.int p5), .val (.int nn), .val (.int t0), .val (.int t1), .unset, .unset, .unset, .unset] []))
        refine own_go (fun _ q => XS.iconst X0.here hx rfl (hb hby at_47) q) ?_
        show own_Go _ _ _ _ _ _ _ (s₁.setTop (mkF m 48 #[.val (.long q0), .second, .val (.long q1), .second, .val (.long q2), .second, .val (.long q3), .second, .val (.long q4), .second, .val (.int p5), .val (.int nn), .val (.int t0), .val (.int t1), .unset, .unset, .unset, .unset] [(.int (0 : Int32))]))
        exact join2 _ (by decide)
      · refine own_go (fun _ q => XS.ifNo X0.here hx rfl (hb hby at_40) rfl ((if0 _ _).trans (feq hc40_165).1) q) ?_
        show own_Go _ _ _ _ _ _ _ (s₁.setTop (mkF m 43 #[.val (.long q0), .second, .val (.long q1), .second, .val (.long q2), .second, .val (.long q3), .second, .val (.long q4), .second, .val (.int p5), .val (.int nn), .val (.int t0), .val (.int t1), .unset, .unset, .unset, .unset] []))
        refine own_go (fun _ q => XS.iconst X0.here hx rfl (hb hby at_43) q) ?_
        show own_Go _ _ _ _ _ _ _ (s₁.setTop (mkF m 44 #[.val (.long q0), .second, .val (.long q1), .second, .val (.long q2), .second, .val (.long q3), .second, .val (.long q4), .second, .val (.int p5), .val (.int nn), .val (.int t0), .val (.int t1), .unset, .unset, .unset, .unset] [(.int (1 : Int32))]))
        refine own_go (fun _ q => XS.goto X0.here hx rfl (pc0 := 44) (pc' := 48) rfl (hb hby at_44) (by decide) (by decide) q) ?_
        show own_Go _ _ _ _ _ _ _ (s₁.setTop (mkF m 48 #[.val (.long q0), .second, .val (.long q1), .second, .val (.long q2), .second, .val (.long q3), .second, .val (.long q4), .second, .val (.int p5), .val (.int nn), .val (.int t0), .val (.int t1), .unset, .unset, .unset, .unset] [(.int (1 : Int32))]))
        exact join2 _ (by decide)
    by_cases hc26_166 : (p5 &&& (2 : Int32)) = (0 : Int32)
    · refine own_go (fun _ q => XS.ifYes X0.here hx rfl (pc0 := 26) (pc' := 33) rfl (hb hby at_26) rfl ((if0 _ _).trans (teq hc26_166).1) (by decide) (by decide) q) ?_
      show own_Go _ _ _ _ _ _ _ (s₁.setTop (mkF m 33 #[.val (.long q0), .second, .val (.long q1), .second, .val (.long q2), .second, .val (.long q3), .second, .val (.long q4), .second, .val (.int p5), .val (.int nn), .val (.int t0), .unset, .unset, .unset, .unset, .unset] []))
      refine own_go (fun _ q => XS.iconst X0.here hx rfl (hb hby at_33) q) ?_
      show own_Go _ _ _ _ _ _ _ (s₁.setTop (mkF m 34 #[.val (.long q0), .second, .val (.long q1), .second, .val (.long q2), .second, .val (.long q3), .second, .val (.long q4), .second, .val (.int p5), .val (.int nn), .val (.int t0), .unset, .unset, .unset, .unset, .unset] [(.int (0 : Int32))]))
      exact join1 _ (by decide)
    · refine own_go (fun _ q => XS.ifNo X0.here hx rfl (hb hby at_26) rfl ((if0 _ _).trans (feq hc26_166).1) q) ?_
      show own_Go _ _ _ _ _ _ _ (s₁.setTop (mkF m 29 #[.val (.long q0), .second, .val (.long q1), .second, .val (.long q2), .second, .val (.long q3), .second, .val (.long q4), .second, .val (.int p5), .val (.int nn), .val (.int t0), .unset, .unset, .unset, .unset, .unset] []))
      refine own_go (fun _ q => XS.iconst X0.here hx rfl (hb hby at_29) q) ?_
      show own_Go _ _ _ _ _ _ _ (s₁.setTop (mkF m 30 #[.val (.long q0), .second, .val (.long q1), .second, .val (.long q2), .second, .val (.long q3), .second, .val (.long q4), .second, .val (.int p5), .val (.int nn), .val (.int t0), .unset, .unset, .unset, .unset, .unset] [(.int (1 : Int32))]))
      refine own_go (fun _ q => XS.goto X0.here hx rfl (pc0 := 30) (pc' := 34) rfl (hb hby at_30) (by decide) (by decide) q) ?_
      show own_Go _ _ _ _ _ _ _ (s₁.setTop (mkF m 34 #[.val (.long q0), .second, .val (.long q1), .second, .val (.long q2), .second, .val (.long q3), .second, .val (.long q4), .second, .val (.int p5), .val (.int nn), .val (.int t0), .unset, .unset, .unset, .unset, .unset] [(.int (1 : Int32))]))
      exact join1 _ (by decide)
  by_cases hc12_167 : (p5 &&& (1 : Int32)) = (0 : Int32)
  · refine own_go (fun _ q => XS.ifYes X0.here hx rfl (pc0 := 12) (pc' := 19) rfl (hb hby at_12) rfl ((if0 _ _).trans (teq hc12_167).1) (by decide) (by decide) q) ?_
    show own_Go _ _ _ _ _ _ _ (s₁.setTop (mkF m 19 #[.val (.long q0), .second, .val (.long q1), .second, .val (.long q2), .second, .val (.long q3), .second, .val (.long q4), .second, .val (.int p5), .val (.int nn), .unset, .unset, .unset, .unset, .unset, .unset] []))
    refine own_go (fun _ q => XS.iconst X0.here hx rfl (hb hby at_19) q) ?_
    show own_Go _ _ _ _ _ _ _ (s₁.setTop (mkF m 20 #[.val (.long q0), .second, .val (.long q1), .second, .val (.long q2), .second, .val (.long q3), .second, .val (.long q4), .second, .val (.int p5), .val (.int nn), .unset, .unset, .unset, .unset, .unset, .unset] [(.int (0 : Int32))]))
    exact join0 _ (by decide)
  · refine own_go (fun _ q => XS.ifNo X0.here hx rfl (hb hby at_12) rfl ((if0 _ _).trans (feq hc12_167).1) q) ?_
    show own_Go _ _ _ _ _ _ _ (s₁.setTop (mkF m 15 #[.val (.long q0), .second, .val (.long q1), .second, .val (.long q2), .second, .val (.long q3), .second, .val (.long q4), .second, .val (.int p5), .val (.int nn), .unset, .unset, .unset, .unset, .unset, .unset] []))
    refine own_go (fun _ q => XS.iconst X0.here hx rfl (hb hby at_15) q) ?_
    show own_Go _ _ _ _ _ _ _ (s₁.setTop (mkF m 16 #[.val (.long q0), .second, .val (.long q1), .second, .val (.long q2), .second, .val (.long q3), .second, .val (.long q4), .second, .val (.int p5), .val (.int nn), .unset, .unset, .unset, .unset, .unset, .unset] [(.int (1 : Int32))]))
    refine own_go (fun _ q => XS.goto X0.here hx rfl (pc0 := 16) (pc' := 20) rfl (hb hby at_16) (by decide) (by decide) q) ?_
    show own_Go _ _ _ _ _ _ _ (s₁.setTop (mkF m 20 #[.val (.long q0), .second, .val (.long q1), .second, .val (.long q2), .second, .val (.long q3), .second, .val (.long q4), .second, .val (.int p5), .val (.int nn), .unset, .unset, .unset, .unset, .unset, .unset] [(.int (1 : Int32))]))
    exact join0 _ (by decide)
set_option maxRecDepth 65536 in
set_option maxHeartbeats 40000000 in
theorem comes_1 {Post : Tables → Env → Array Value → State → Outcome → State → Prop} (hpost : ∀ tb e args s v u, (limb_1_1.after args s (.returned v) u = true ∧ limb_1_2.after args s (.returned v) u = true ∧ True) → FrameEnd s (.returned v) u (Jvm.fieldLocs frame_1_writes args s ++ Jvm.arrayLocs frame_1_arrays args s ++ Jvm.staticLocs frame_1_statics s) 16 128 → Post tb e args s (.returned v) u) :
    ArmFor flags0 classFile x code maxLocals ret World_1 tables_1 room_1 Calls_1 rest_1 Pre_1 Post := by
  intro l hfl _ _ p e ha hc hk s m args below hf hA hF happ hP
  obtain ⟨hcalls, hrest, hpre⟩ := hP
  obtain ⟨-, -, -, hnamed, -, -, -, hat⟩ := (Spec.applies_iff hf).mp happ
  obtain ⟨hg, hn⟩ := and_e (Cond.before_iff.mp (show (Jvm.Cond.and given_1 narrow_1).before args s = true from hpre))
  obtain ⟨ga1, gb1⟩ := and_e hg
  obtain ⟨ga2, gb2⟩ := and_e gb1
  obtain ⟨ga3, gb3⟩ := and_e gb2
  obtain ⟨ga4, gb4⟩ := and_e gb3
  obtain ⟨ga5, gb5⟩ := and_e gb4
  obtain ⟨ga6, gb6⟩ := and_e gb5
  obtain ⟨w0, w1, w2, w3, w4, w5, rfl⟩ : ∃ w0 w1 w2 w3 w4 w5 : Value, args = #[w0, w1, w2, w3, w4, w5] := by
    have hs : args.size = 6 := by simpa [Cond.value, given_1] using ga1
    obtain ⟨L⟩ := args
    match L, hs with
    | [w0, w1, w2, w3, w4, w5], _ => exact ⟨w0, w1, w2, w3, w4, w5, rfl⟩
  have hw := fun d (hd : d ∈ tables_1) => atoms_spec (ws := Jvm.Cond.code x code maxLocals ret :: tables_1) hat d (List.mem_cons_of_mem _ hd)
  obtain ⟨i0, ei0⟩ := isL_v ga2
  obtain rfl : w0 = (.long i0) := Option.some.inj ei0
  obtain ⟨i1, ei1⟩ := isL_v ga3
  obtain rfl : w1 = (.long i1) := Option.some.inj ei1
  obtain ⟨i2, ei2⟩ := isL_v ga4
  obtain rfl : w2 = (.long i2) := Option.some.inj ei2
  obtain ⟨i3, ei3⟩ := isL_v ga5
  obtain rfl : w3 = (.long i3) := Option.some.inj ei3
  obtain ⟨i4, ei4⟩ := isL_v ga6
  obtain rfl : w4 = (.long i4) := Option.some.inj ei4
  obtain ⟨i5, ei5⟩ := is_v gb6
  obtain rfl : w5 = (.int i5) := Option.some.inj ei5
  obtain ⟨n, o, h1, h2, h3, _, L, rfl, ⟨rfl, N⟩, hq⟩ := rm0 l s _ hw tables_1 i0 i1 i2 i3 i4 i5 s.heap s.heap.size (Nat.le_refl _)  p e ha hc hk s m _ below hf ((Spec.applies_iff_loose hf).mp happ).1 ⟨rfl, State.Warmed39.refl s, rfl⟩ trivial
  refine ⟨n, _, h1, h2, h3, hpost _ _ _ _ _ _ ⟨Cond.after_iff.mpr rfl, Cond.after_iff.mpr (eq_i res_at (Term.int_eval (1)) rfl), trivial⟩ ⟨hq.1, hq.2.1, (hq.2.2.sift fun y hy => Or.inr (N y hy)).mono (by decide) (by decide)⟩⟩
theorem main_1_1 : Claimed_1_1 := comes_1 fun _ _ _ _ _ _ h hF => ⟨h.1, hF⟩
theorem main_1_2 : Claimed_1_2 := comes_1 fun _ _ _ _ _ _ h hF => ⟨h.2.1, hF⟩
end Jvm.Pilot.@@N@@
namespace Jvm.Pilot.@@N@@
open Jvm Jvm.ClassFile Sem Op Lib Jvm.Free Jvm.Stand Jvm.Pilot.@@N@@.Jvm.D
/-! MADE BY PROGRAM (witnessworld.py) out of the Statement's table words and the real class files: 13 classes; the members and pool entries that the words name. The judged class is class 1, her method 1. -/
namespace start1
open Jvm.ClassFile
def u (s : String) : CpInfo := .utf8 (stringToUtf16 s)
/-- a pool by its gaps: so many unusable entries, then the entry; so many at the end -/
def gap : Nat → List CpInfo → List CpInfo
  | 0, r => r
  | n + 1, r => .unusable :: gap n r
def poolList (es : List (Nat × CpInfo)) (last : Nat) : List CpInfo := es.foldr (fun e r => gap e.1 (e.2 :: r)) (gap last [])
def pool (es : List (Nat × CpInfo)) (last : Nat) : Array CpInfo := ⟨poolList es last⟩
def fileOf (pool : Array CpInfo) (this : Nat) (attrs : Array Attribute := #[]) (ms : Array MethodInfo := #[]) (fl : Nat := 33) (sup : Nat := 0) (ifs : Array Nat := #[]) (fds : Array FieldInfo := #[]) : ClassFile where
  minorVersion := 0
  majorVersion := 65
  constantPool := pool
  accessFlags := fl
  thisClass := this
  superClass := sup
  interfaces := ifs
  fields := fds
  methods := ms
  attributes := attrs
def plain (name : String) (sup : Option ClassId) : Class where
  name := name
  kind := .ordinary
  loader := none
  accessFlags := 33
  super := sup
  interfaces := #[]
  cf := none
  fields := #[]
  methods := #[]
  instanceTypes := #[]
  staticTypes := #[]
  resolved := #[]
  callSites := []
  init := .initialized
  statics := none
  mirror := none

def pool0 : Array CpInfo := pool [(5, u "<init>"), (0, u "()V"), (1, .class_ 10), (1, u "java/lang/Object")] 113

def k0c0 : Code := { maxStack := 0, maxLocals := 1, code := object_method_1_code, exceptionTable := #[], attributes := #[] }
def k0m0 : Method := { name := "<init>", desc := "()V", sig := { parameters := [], returnType := none }, accessFlags := 1, code := some k0c0 }
/-- java/lang/Object -/
def k0 : Class := { plain "java/lang/Object" none with
  accessFlags := 33
  interfaces := #[]
  cf := some (fileOf pool0 8 #[] #[{ accessFlags := 1, nameIndex := 5, descriptorIndex := 6, attributes := #[] }] 33 0 #[] #[])
  fields := #[]
  methods := #[k0m0]
  instanceTypes := #[]
  staticTypes := #[]
  resolved := Array.replicate 124 none
  statics := none }

def pool1 : Array CpInfo := pool [(2, .class_ 4), (1, u "java/lang/Object"), (0, u "<init>"), (0, u "()V"), (0, .methodref 8 9), (0, .class_ 10), (0, .nameAndType 11 12), (0, u "com/example/slotwright/slotwright/SplitBoxFirstOpenPinLaw"), (0, u "sized"), (0, u "(I)[J"), (0, .methodref 8 14), (0, .nameAndType 15 16), (0, u "low"), (0, u "(JJZ)J"), (0, .methodref 8 18), (0, .nameAndType 19 16), (0, u "high"), (0, .class_ 21), (0, u "com/example/slotwright/slotwright/SplitBox"), (0, .methodref 20 23), (0, .nameAndType 5 24), (0, u "([J[J)V"), (0, .methodref 20 26), (0, .nameAndType 27 28), (0, u "firstOpen"), (0, u "()I"), (0, .methodref 30 31), (0, .class_ 32), (0, .nameAndType 33 34), (0, u "java/lang/Math"), (0, u "min"), (0, u "(JJ)J"), (0, .methodref 30 36), (0, .nameAndType 37 34), (0, u "max"), (2, .long 9223372036854775807), (3, u "law"), (0, u "(JJJJJI)Z")] 5

def k1m0 : Method := { name := "<init>", desc := "()V", sig := { parameters := [], returnType := none }, accessFlags := 1, code := none }
def k1c1 : Code := { maxStack := 7, maxLocals := 18, code := code, exceptionTable := #[], attributes := #[] }
def k1m1 : Method := { name := "law", desc := "(JJJJJI)Z", sig := { parameters := [.long, .long, .long, .long, .long, .int], returnType := some .boolean }, accessFlags := 9, code := some k1c1 }
def k1c2 : Code := { maxStack := 2, maxLocals := 1, code := method_3_code, exceptionTable := #[], attributes := #[] }
def k1m2 : Method := { name := "sized", desc := "(I)[J", sig := { parameters := [.int], returnType := some (.array .long) }, accessFlags := 10, code := some k1c2 }
def k1c3 : Code := { maxStack := 4, maxLocals := 9, code := method_4_code, exceptionTable := #[], attributes := #[] }
def k1m3 : Method := { name := "low", desc := "(JJZ)J", sig := { parameters := [.long, .long, .boolean], returnType := some .long }, accessFlags := 10, code := some k1c3 }
def k1c4 : Code := { maxStack := 4, maxLocals := 9, code := method_5_code, exceptionTable := #[], attributes := #[] }
def k1m4 : Method := { name := "high", desc := "(JJZ)J", sig := { parameters := [.long, .long, .boolean], returnType := some .long }, accessFlags := 10, code := some k1c4 }
/-- com/example/slotwright/slotwright/SplitBoxFirstOpenPinLaw -/
def k1 : Class := { plain "com/example/slotwright/slotwright/SplitBoxFirstOpenPinLaw" (some 0) with
  accessFlags := 49
  interfaces := #[]
  cf := some (fileOf pool1 8 #[] #[{ accessFlags := 1, nameIndex := 5, descriptorIndex := 6, attributes := #[] }, { accessFlags := 9, nameIndex := 44, descriptorIndex := 45, attributes := #[] }, { accessFlags := 10, nameIndex := 11, descriptorIndex := 12, attributes := #[] }, { accessFlags := 10, nameIndex := 15, descriptorIndex := 16, attributes := #[] }, { accessFlags := 10, nameIndex := 19, descriptorIndex := 16, attributes := #[] }] 49 2 #[] #[])
  fields := #[]
  methods := #[k1m0, k1m1, k1m2, k1m3, k1m4]
  instanceTypes := #[]
  staticTypes := #[]
  resolved := Array.replicate 51 none
  statics := none }

def pool2 : Array CpInfo := pool [(1, .methodref 2 3), (0, .class_ 4), (0, .nameAndType 5 6), (0, u "java/lang/Object"), (0, u "<init>"), (0, u "()V"), (0, .class_ 8), (0, u "java/lang/Record")] 13

def k2c0 : Code := { maxStack := 1, maxLocals := 1, code := jdk_30_method_1_code, exceptionTable := #[], attributes := #[] }
def k2m0 : Method := { name := "<init>", desc := "()V", sig := { parameters := [], returnType := none }, accessFlags := 4, code := some k2c0 }
/-- java/lang/Record -/
def k2 : Class := { plain "java/lang/Record" (some 0) with
  accessFlags := 1057
  interfaces := #[]
  cf := some (fileOf pool2 7 #[] #[{ accessFlags := 4, nameIndex := 5, descriptorIndex := 6, attributes := #[] }] 1057 2 #[] #[])
  fields := #[]
  methods := #[k2m0]
  instanceTypes := #[]
  staticTypes := #[]
  resolved := Array.replicate 22 none
  statics := none }

def pool3 : Array CpInfo := pool [(1, .methodref 2 3), (0, .class_ 4), (0, .nameAndType 5 6), (0, u "java/lang/Record"), (0, u "<init>"), (0, u "()V"), (0, .fieldref 8 9), (0, .class_ 10), (0, .nameAndType 11 12), (0, u "com/example/slotwright/slotwright/SplitBox"), (0, u "least"), (0, u "[J"), (0, .fieldref 8 14), (0, .nameAndType 15 12), (0, u "most"), (5, u "()I"), (18, u "([J[J)V"), (16, .class_ 59), (1, u "com/example/slotwright/slotwright/SplitBox$Gains"), (41, u "firstOpen")] 34

def k3c0 : Code := { maxStack := 2, maxLocals := 3, code := prog_36_method_1_code, exceptionTable := #[], attributes := #[] }
def k3m0 : Method := { name := "<init>", desc := "([J[J)V", sig := { parameters := [(.array .long), (.array .long)], returnType := none }, accessFlags := 0, code := some k3c0 }
def k3c1 : Code := { maxStack := 4, maxLocals := 2, code := prog_36_method_4_code, exceptionTable := #[], attributes := #[] }
def k3m1 : Method := { name := "firstOpen", desc := "()I", sig := { parameters := [], returnType := some .int }, accessFlags := 0, code := some k3c1 }
/-- com/example/slotwright/slotwright/SplitBox -/
def k3 : Class := { plain "com/example/slotwright/slotwright/SplitBox" (some 2) with
  accessFlags := 48
  interfaces := #[]
  cf := some (fileOf pool3 8 #[.nestMembers #[57]] #[{ accessFlags := 0, nameIndex := 5, descriptorIndex := 40, attributes := #[] }, { accessFlags := 0, nameIndex := 101, descriptorIndex := 21, attributes := #[] }] 48 2 #[] #[{ accessFlags := 18, nameIndex := 11, descriptorIndex := 12, attributes := #[] }, { accessFlags := 18, nameIndex := 15, descriptorIndex := 12, attributes := #[] }])
  fields := #[{ name := "least", type := (.array .long), accessFlags := 18, slot := 0, constantValue := 0 }, { name := "most", type := (.array .long), accessFlags := 18, slot := 1, constantValue := 0 }]
  methods := #[k3m0, k3m1]
  instanceTypes := #[(.array .long), (.array .long)]
  staticTypes := #[]
  resolved := Array.replicate 136 none
  statics := none }

def pool4 : Array CpInfo := pool [(1, .class_ 2), (0, u "java/lang/Math"), (1, .class_ 6), (1, u "java/lang/Object"), (0, u "<init>"), (0, u "()V"), (89, .class_ 100), (1, u "java/lang/Math$RandomNumberGeneratorHolder"), (20, u "(JJ)J"), (50, u "negativeZeroFloatBits"), (0, u "J"), (2, u "negativeZeroDoubleBits"), (21, u "max"), (2, u "min"), (43, u "$assertionsDisabled"), (0, u "Z"), (91, u "twoToTheDoubleScaleDown"), (0, u "D"), (4, u "twoToTheDoubleScaleUp"), (9, u "E"), (3, u "PI"), (2, u "TAU"), (2, u "DEGREES_TO_RADIANS"), (0, u "RADIANS_TO_DEGREES")] 94

def k4m0 : Method := { name := "<init>", desc := "()V", sig := { parameters := [], returnType := none }, accessFlags := 2, code := none }
def k4c1 : Code := { maxStack := 4, maxLocals := 4, code := jdk_29_method_66_code, exceptionTable := #[], attributes := #[] }
def k4m1 : Method := { name := "max", desc := "(JJ)J", sig := { parameters := [.long, .long], returnType := some .long }, accessFlags := 9, code := some k4c1 }
def k4c2 : Code := { maxStack := 4, maxLocals := 4, code := jdk_29_method_70_code, exceptionTable := #[], attributes := #[] }
def k4m2 : Method := { name := "min", desc := "(JJ)J", sig := { parameters := [.long, .long], returnType := some .long }, accessFlags := 9, code := some k4c2 }
/-- java/lang/Math -/
def k4 : Class := { plain "java/lang/Math" (some 0) with
  accessFlags := 49
  interfaces := #[]
  cf := some (fileOf pool4 1 #[.nestMembers #[98]] #[{ accessFlags := 2, nameIndex := 7, descriptorIndex := 8, attributes := #[] }, { accessFlags := 9, nameIndex := 198, descriptorIndex := 121, attributes := #[] }, { accessFlags := 9, nameIndex := 201, descriptorIndex := 121, attributes := #[] }] 49 4 #[] #[{ accessFlags := 25, nameIndex := 354, descriptorIndex := 339, attributes := #[] }, { accessFlags := 25, nameIndex := 358, descriptorIndex := 339, attributes := #[] }, { accessFlags := 25, nameIndex := 361, descriptorIndex := 339, attributes := #[] }, { accessFlags := 26, nameIndex := 364, descriptorIndex := 339, attributes := #[] }, { accessFlags := 26, nameIndex := 365, descriptorIndex := 339, attributes := #[] }, { accessFlags := 26, nameIndex := 172, descriptorIndex := 173, attributes := #[] }, { accessFlags := 26, nameIndex := 176, descriptorIndex := 173, attributes := #[] }, { accessFlags := 8, nameIndex := 344, descriptorIndex := 339, attributes := #[] }, { accessFlags := 8, nameIndex := 338, descriptorIndex := 339, attributes := #[] }, { accessFlags := 4120, nameIndex := 245, descriptorIndex := 246, attributes := #[] }])
  fields := #[{ name := "E", type := .double, accessFlags := 25, slot := 0, constantValue := 0 }, { name := "PI", type := .double, accessFlags := 25, slot := 1, constantValue := 0 }, { name := "TAU", type := .double, accessFlags := 25, slot := 2, constantValue := 0 }, { name := "DEGREES_TO_RADIANS", type := .double, accessFlags := 26, slot := 3, constantValue := 0 }, { name := "RADIANS_TO_DEGREES", type := .double, accessFlags := 26, slot := 4, constantValue := 0 }, { name := "negativeZeroFloatBits", type := .long, accessFlags := 26, slot := 5, constantValue := 0 }, { name := "negativeZeroDoubleBits", type := .long, accessFlags := 26, slot := 6, constantValue := 0 }, { name := "twoToTheDoubleScaleUp", type := .double, accessFlags := 8, slot := 7, constantValue := 0 }, { name := "twoToTheDoubleScaleDown", type := .double, accessFlags := 8, slot := 8, constantValue := 0 }, { name := "$assertionsDisabled", type := .boolean, accessFlags := 4120, slot := 9, constantValue := 0 }]
  methods := #[k4m0, k4m1, k4m2]
  instanceTypes := #[]
  staticTypes := #[.double, .double, .double, .double, .double, .long, .long, .double, .double, .boolean]
  resolved := Array.replicate 460 none
  statics := none }

def pool5 : Array CpInfo := pool [(1, u "java/lang/Cloneable"), (0, .class_ 1), (0, u "java/lang/Object"), (0, .class_ 3)] 3

/-- java/lang/Cloneable -/
def k5 : Class := { plain "java/lang/Cloneable" (some 0) with
  accessFlags := 1537
  interfaces := #[]
  cf := some (fileOf pool5 2 #[] #[] 1537 4 #[] #[])
  fields := #[]
  methods := #[]
  instanceTypes := #[]
  staticTypes := #[]
  resolved := Array.replicate 8 none
  statics := none }

def pool6 : Array CpInfo := pool [(1, u "java/io/Serializable"), (0, .class_ 1), (0, u "java/lang/Object"), (0, .class_ 3)] 3

/-- java/io/Serializable -/
def k6 : Class := { plain "java/io/Serializable" (some 0) with
  accessFlags := 1537
  interfaces := #[]
  cf := some (fileOf pool6 2 #[] #[] 1537 4 #[] #[])
  fields := #[]
  methods := #[]
  instanceTypes := #[]
  staticTypes := #[]
  resolved := Array.replicate 8 none
  statics := none }

/-- the primitive byte -/
def k7 : Class := { plain "byte" none with kind := .primitive 'B', accessFlags := 0x411 }
/-- [B -/
def k8 : Class := { plain "[B" (some 0) with kind := .array 7 .byte, interfaces := #[5, 6], accessFlags := 1041 }

/-- the primitive int -/
def k9 : Class := { plain "int" none with kind := .primitive 'I', accessFlags := 0x411 }
/-- [I -/
def k10 : Class := { plain "[I" (some 0) with kind := .array 9 .int, interfaces := #[5, 6], accessFlags := 1041 }

/-- the primitive long -/
def k11 : Class := { plain "long" none with kind := .primitive 'J', accessFlags := 0x411 }
/-- [J -/
def k12 : Class := { plain "[J" (some 0) with kind := .array 11 .long, interfaces := #[5, 6], accessFlags := 1041 }

def heap : Heap := #[]
def classes : Array Class := #[k0, k1, k2, k3, k4, k5, k6, k7, k8, k9, k10, k11, k12]
def interned : List (Array UInt16 × Addr) := []
def slotsUsed : Nat := 0
def theMethod : MethodId := ⟨1, 1⟩
def args0 : Array Value := #[.long 3, .long 4, .long 5, .long 6, .long 7, .int 9]
def aboutOver (below : List Frame) : State where
  vm := { classes := classes, interned := interned.toArray }
  heap := heap
  slotsUsed := slotsUsed
  threads := #[{ frames := .invoking theMethod args0 :: below }]
def below0 : List Frame := [.native { method := ⟨0, 0⟩, args := #[] }]
def about1 : State := aboutOver below0
def p0 : Program := .bare "" "" ""
def e0 : Env := launch0.env 0 0 0
theorem w_frames : about1.frames = Frame.invoking theMethod args0 :: below0 := rfl
set_option maxRecDepth 65536 in
theorem w_args : argsFit about1.vm theMethod args0 = true := by decide +kernel
set_option maxRecDepth 65536 in
theorem w_heap : heapFits about1 = true := by decide +kernel
set_option maxRecDepth 65536 in
theorem w_runnable : about1.curStatus? = some .runnable := by decide +kernel
set_option maxRecDepth 65536 in
theorem w_alone : about1.alone = true := by decide +kernel
set_option maxRecDepth 65536 in
theorem w_named : about1.methodNamed? x = some theMethod := by decide +kernel
set_option maxRecDepth 65536 in
theorem w_hears : about1.hears theMethod below0 = true := by decide +kernel
set_option maxRecDepth 65536 in
theorem w_ripe : about1.ripe theMethod args0 below0 = true := by decide +kernel
theorem w_running : about1.status = .running := rfl
set_option maxRecDepth 65536 in
theorem w_room : about1.hasRoom e0.platform room_1 = true :=
  launch0.hasRoom_least _ room_1 (by decide +kernel) (by decide +kernel) (by decide +kernel) (by decide +kernel) (by decide +kernel) (by decide +kernel)
theorem allAtoms_all (ts : List Jvm.Cond) (a : Array Jvm.Value) (st : Jvm.State) : (allAtoms ts).before a st = ts.all (fun c => c.before a st) := by
  induction ts with
  | nil => rfl
  | cons c t ih =>
    show (Jvm.Cond.and c (allAtoms t)).before a st = _
    rw [Jvm.Cond.before_and, ih, List.all_cons]
def words1 : List Jvm.Cond := Jvm.Cond.code x code maxLocals ret :: tables_1
/-- a 'code' word, met by the world's own term for the bytes: nothing is compared byte by byte -/
theorem code_word {y : MethodName} {bytes : ByteArray} {mx : Nat} {rt : Option FieldType} {a : Array Value} {s : State} {m : MethodId} {meth : Method} {c : Code} (h1 : s.methodNamed? y = some m) (h2 : s.vm.method? m = some meth) (h3 : meth.code = some c) (h4 : c.code = bytes)
    (h5 : (c.maxLocals == mx && c.exceptionTable.isEmpty && decide (c.maxStack ≤ mostOperands) && decide (meth.sig.returnType = rt) && !meth.locks && decide (parseMethodDescriptor y.desc = some meth.sig)) = true) : (Jvm.Cond.code y bytes mx rt).before a s = true := by
  simp only [Bool.and_eq_true, beq_iff_eq, Bool.not_eq_true', decide_eq_true_eq] at h5
  obtain ⟨⟨⟨⟨⟨g1, g2⟩, g3⟩, g4⟩, g5⟩, g6⟩ := h5
  simp [Cond.before, Cond.holds, Cond.value, h1, h2, h3, h4, g1, g2, g3, g4, g5, g6]
def isCode : Jvm.Cond → Bool
  | .code _ _ _ _ => true
  | _ => false
theorem all_split {L : List Jvm.Cond} {P : Jvm.Cond → Bool} (h1 : L.all (fun c => isCode c || P c) = true) (h2 : ∀ c ∈ L.filter isCode, P c = true) : L.all P = true := by
  refine List.all_eq_true.mpr fun c hc => ?_
  have h := List.all_eq_true.mp h1 c hc
  rcases Bool.eq_false_or_eq_true (isCode c) with hi | hi
  · exact h2 c (List.mem_filter.mpr ⟨hc, hi⟩)
  · simpa [hi] using h
set_option maxRecDepth 65536 in
theorem w_c0 : (Jvm.Cond.code x code maxLocals ret).before args0 about1 = true := code_word (m := ⟨1, 1⟩) (meth := k1m1) (c := k1c1) (by decide +kernel) rfl rfl rfl (by decide +kernel)
set_option maxRecDepth 65536 in
theorem w_c1 : (Jvm.Cond.code ({ cls := "com/example/slotwright/slotwright/SplitBoxFirstOpenPinLaw", name := "sized", desc := "(I)[J" } : Jvm.MethodName) method_3_code (1 : Nat) (Option.some (Jvm.ClassFile.FieldType.array Jvm.ClassFile.FieldType.long))).before args0 about1 = true := code_word (m := ⟨1, 2⟩) (meth := k1m2) (c := k1c2) (by decide +kernel) rfl rfl rfl (by decide +kernel)
set_option maxRecDepth 65536 in
theorem w_c2 : (Jvm.Cond.code ({ cls := "com/example/slotwright/slotwright/SplitBox", name := "<init>", desc := "([J[J)V" } : Jvm.MethodName) prog_36_method_1_code (3 : Nat) (Option.none : Option Jvm.ClassFile.FieldType)).before args0 about1 = true := code_word (m := ⟨3, 0⟩) (meth := k3m0) (c := k3c0) (by decide +kernel) rfl rfl rfl (by decide +kernel)
set_option maxRecDepth 65536 in
theorem w_c3 : (Jvm.Cond.code ({ cls := "java/lang/Record", name := "<init>", desc := "()V" } : Jvm.MethodName) jdk_30_method_1_code (1 : Nat) (Option.none : Option Jvm.ClassFile.FieldType)).before args0 about1 = true := code_word (m := ⟨2, 0⟩) (meth := k2m0) (c := k2c0) (by decide +kernel) rfl rfl rfl (by decide +kernel)
set_option maxRecDepth 65536 in
theorem w_c4 : (Jvm.Cond.code ({ cls := "java/lang/Object", name := "<init>", desc := "()V" } : Jvm.MethodName) object_method_1_code (1 : Nat) (Option.none : Option Jvm.ClassFile.FieldType)).before args0 about1 = true := code_word (m := ⟨0, 0⟩) (meth := k0m0) (c := k0c0) (by decide +kernel) rfl rfl rfl (by decide +kernel)
set_option maxRecDepth 65536 in
theorem w_c5 : (Jvm.Cond.code ({ cls := "com/example/slotwright/slotwright/SplitBox", name := "firstOpen", desc := "()I" } : Jvm.MethodName) prog_36_method_4_code (2 : Nat) (Option.some Jvm.ClassFile.FieldType.int)).before args0 about1 = true := code_word (m := ⟨3, 1⟩) (meth := k3m1) (c := k3c1) (by decide +kernel) rfl rfl rfl (by decide +kernel)
set_option maxRecDepth 65536 in
theorem w_c6 : (Jvm.Cond.code ({ cls := "com/example/slotwright/slotwright/SplitBoxFirstOpenPinLaw", name := "low", desc := "(JJZ)J" } : Jvm.MethodName) method_4_code (9 : Nat) (Option.some Jvm.ClassFile.FieldType.long)).before args0 about1 = true := code_word (m := ⟨1, 3⟩) (meth := k1m3) (c := k1c3) (by decide +kernel) rfl rfl rfl (by decide +kernel)
set_option maxRecDepth 65536 in
theorem w_c7 : (Jvm.Cond.code ({ cls := "com/example/slotwright/slotwright/SplitBoxFirstOpenPinLaw", name := "high", desc := "(JJZ)J" } : Jvm.MethodName) method_5_code (9 : Nat) (Option.some Jvm.ClassFile.FieldType.long)).before args0 about1 = true := code_word (m := ⟨1, 4⟩) (meth := k1m4) (c := k1c4) (by decide +kernel) rfl rfl rfl (by decide +kernel)
set_option maxRecDepth 65536 in
theorem w_c8 : (Jvm.Cond.code ({ cls := "java/lang/Math", name := "min", desc := "(JJ)J" } : Jvm.MethodName) jdk_29_method_70_code (4 : Nat) (Option.some Jvm.ClassFile.FieldType.long)).before args0 about1 = true := code_word (m := ⟨4, 2⟩) (meth := k4m2) (c := k4c2) (by decide +kernel) rfl rfl rfl (by decide +kernel)
set_option maxRecDepth 65536 in
theorem w_c9 : (Jvm.Cond.code ({ cls := "java/lang/Math", name := "max", desc := "(JJ)J" } : Jvm.MethodName) jdk_29_method_66_code (4 : Nat) (Option.some Jvm.ClassFile.FieldType.long)).before args0 about1 = true := code_word (m := ⟨4, 1⟩) (meth := k4m1) (c := k4c1) (by decide +kernel) rfl rfl rfl (by decide +kernel)
def codes1 : List Jvm.Cond := [Jvm.Cond.code x code maxLocals ret, Jvm.Cond.code ({ cls := "com/example/slotwright/slotwright/SplitBoxFirstOpenPinLaw", name := "sized", desc := "(I)[J" } : Jvm.MethodName) method_3_code (1 : Nat) (Option.some (Jvm.ClassFile.FieldType.array Jvm.ClassFile.FieldType.long)), Jvm.Cond.code ({ cls := "com/example/slotwright/slotwright/SplitBox", name := "<init>", desc := "([J[J)V" } : Jvm.MethodName) prog_36_method_1_code (3 : Nat) (Option.none : Option Jvm.ClassFile.FieldType), Jvm.Cond.code ({ cls := "java/lang/Record", name := "<init>", desc := "()V" } : Jvm.MethodName) jdk_30_method_1_code (1 : Nat) (Option.none : Option Jvm.ClassFile.FieldType), Jvm.Cond.code ({ cls := "java/lang/Object", name := "<init>", desc := "()V" } : Jvm.MethodName) object_method_1_code (1 : Nat) (Option.none : Option Jvm.ClassFile.FieldType), Jvm.Cond.code ({ cls := "com/example/slotwright/slotwright/SplitBox", name := "firstOpen", desc := "()I" } : Jvm.MethodName) prog_36_method_4_code (2 : Nat) (Option.some Jvm.ClassFile.FieldType.int), Jvm.Cond.code ({ cls := "com/example/slotwright/slotwright/SplitBoxFirstOpenPinLaw", name := "low", desc := "(JJZ)J" } : Jvm.MethodName) method_4_code (9 : Nat) (Option.some Jvm.ClassFile.FieldType.long), Jvm.Cond.code ({ cls := "com/example/slotwright/slotwright/SplitBoxFirstOpenPinLaw", name := "high", desc := "(JJZ)J" } : Jvm.MethodName) method_5_code (9 : Nat) (Option.some Jvm.ClassFile.FieldType.long), Jvm.Cond.code ({ cls := "java/lang/Math", name := "min", desc := "(JJ)J" } : Jvm.MethodName) jdk_29_method_70_code (4 : Nat) (Option.some Jvm.ClassFile.FieldType.long), Jvm.Cond.code ({ cls := "java/lang/Math", name := "max", desc := "(JJ)J" } : Jvm.MethodName) jdk_29_method_66_code (4 : Nat) (Option.some Jvm.ClassFile.FieldType.long)]
set_option maxRecDepth 65536 in
theorem codes_eq : words1.filter isCode = codes1 := rfl
theorem w_codes : ∀ c ∈ words1.filter isCode, c.before args0 about1 = true := by
  rw [codes_eq]
  intro c hc
  simp only [codes1, List.mem_cons, List.not_mem_nil, or_false] at hc
  rcases hc with rfl | rfl | rfl | rfl | rfl | rfl | rfl | rfl | rfl | rfl
  · exact w_c0
  · exact w_c1
  · exact w_c2
  · exact w_c3
  · exact w_c4
  · exact w_c5
  · exact w_c6
  · exact w_c7
  · exact w_c8
  · exact w_c9
set_option maxRecDepth 65536 in
theorem w_t1 : (words1.take 24).all (fun c => isCode c || c.before args0 about1) = true := by decide +kernel
set_option maxRecDepth 65536 in
theorem w_t2 : (words1.drop 24).all (fun c => isCode c || c.before args0 about1) = true := by decide +kernel
theorem w_tables : (allAtoms (Jvm.Cond.code x code maxLocals ret :: tables_1)).before args0 about1 = true := by
  rw [allAtoms_all]
  show words1.all (fun c => c.before args0 about1) = true
  refine all_split ?_ w_codes
  rw [← List.take_append_drop 24 words1, List.all_append, w_t1, w_t2]
  rfl
set_option maxRecDepth 65536 in
theorem w_case : (Jvm.Cond.and given_1 narrow_1).before args0 about1 = true := by decide +kernel
theorem w_applies : (headSpec (Jvm.Cond.code x code maxLocals ret :: tables_1) room_1).applies x e0.platform about1 = true :=
  (Spec.applies_iff w_frames).mpr ⟨w_running, w_runnable, w_alone, w_named, w_hears, w_ripe, w_room, w_tables⟩
theorem atStart : AtStart classFile x code maxLocals ret World_1 tables_1 room_1 Calls_1 rest_1 Pre_1 launch0 p0 e0 about1 theMethod args0 below0 :=
  ⟨lists_1, trivial, launch0.admits_env _ _ _, launch0.least_env, fairChoices_fair.cas, fairChoices_fair.clock, w_frames, w_args, w_heap, w_applies, trivial, trivial, w_case⟩
end start1
theorem witness_1 : WitnessClaimed_1 := ⟨start1.p0, start1.e0, start1.about1, start1.theMethod, start1.args0, start1.below0, start1.atStart⟩
end Jvm.Pilot.@@N@@
