import JvmDerived
import JvmDerived.Pilot.@@N@@Statement
import JvmDerived.Pilot.@@N@@Code
set_option linter.unusedVariables false
set_option linter.unusedSimpArgs false
namespace Jvm.Pilot.@@N@@
open Jvm Jvm.ClassFile Sem Op Lib Jvm.Free Jvm.Stand Jvm.LawKit Jvm.RoadKit Bundle Jvm.Pilot.@@N@@.Jvm.D
section OwnKit
variable {p : Program} {l : Launch} {e : Env} {R : Room} {s : State} {m : MethodId} {args : Array Value} {below : List Frame} {meth : Method} {c : Code} {T : State} {locs : List Loc} {cells slots : Nat} {Z : State} {a0 : Array Value} {h h' : Heap}
/-- the run from t comes to the method's end, where Q holds -/
def own_Go (p : Program) (e : Env) (below : List Frame) (s : State) (Q : Option Value → Heap → List Loc → Prop) (k n : Nat) (t : State) : Prop :=
  ∃ s₂ o, Steps p.tables e below t s₂ ∧ s₂.status = .running ∧ Ended s₂ below o ∧ ∃ v L, o = .returned v ∧ Q v s₂.heap L ∧ FrameEnd s o s₂ L k n
theorem own_go {Q : Option Value → Heap → List Loc → Prop} {k n : Nat} {t t' : State} (st : ∀ u, Steps p.tables e below t' u → Steps p.tables e below t u) (G : own_Go p e below s Q k n t') : own_Go p e below s Q k n t := by
  obtain ⟨s2, o, h1, r⟩ := G
  exact ⟨s2, o, st _ h1, r⟩
theorem own_ret {Q : Option Value → Heap → List Loc → Prop} {k n : Nat} (X : Stand p l e R s m args below meth c T locs cells slots) (hx : p.tables.exec = Jvm.exec) (hlk : meth.locks = false) {pc : Nat} {Ls : Array Slot} {w : Value} {t : FieldType} {i : Instr} {rest : List Value} (hret : meth.sig.returnType = some t) (hn : narrow t w = w)
    (hi : (i = .ireturn ∧ (t = .int ∨ t = .boolean ∨ t = .byte ∨ t = .char ∨ t = .short) ∧ ∃ z, w = .int z) ∨ (i = .lreturn ∧ t = .long ∧ ∃ z, w = .long z) ∨ (i = .dreturn ∧ t = .double ∧ ∃ z, w = .double z) ∨ (i = .freturn ∧ t = .float ∧ ∃ z, w = .float z) ∨ (i = .areturn ∧ t.isReference = true ∧ w.isRef = true))
    (hd : decode c.code pc = .ok (i, 1)) (hk : cells ≤ k) (hs : slots ≤ n) (hq : Q (some w) T.heap locs) : own_Go p e below s Q k n (T.setTop (mkF m pc Ls (w :: rest))) := by
  obtain ⟨fs, hr, hrun, hended, hW, hsame⟩ := X.leave (v := some w) (fun q => by rw [hret] at q; cases q) hlk
  exact ⟨_, _, retOut X hx hret hn hi hd hr, hrun, hended, _, _, rfl, hq, ⟨_, rfl⟩, hW, hsame.mono hk hs⟩
theorem own_retI {Q : Option Value → Heap → List Loc → Prop} {k n : Nat} (X : Stand p l e R s m args below meth c T locs cells slots) (hx : p.tables.exec = Jvm.exec) (hlk : meth.locks = false) {pc : Nat} {Ls : Array Slot} {z : Int32} {rest : List Value} (hret : meth.sig.returnType = some .int)
    (hd : decode c.code pc = .ok (.ireturn, 1)) (hk : cells ≤ k) (hs : slots ≤ n) (hq : Q (some (.int z)) T.heap locs) : own_Go p e below s Q k n (T.setTop (mkF m pc Ls (.int z :: rest))) :=
  own_ret X hx hlk hret rfl (Or.inl ⟨rfl, Or.inl rfl, z, rfl⟩) hd hk hs hq
theorem own_retZ {Q : Option Value → Heap → List Loc → Prop} {k n : Nat} (X : Stand p l e R s m args below meth c T locs cells slots) (hx : p.tables.exec = Jvm.exec) (hlk : meth.locks = false) {pc : Nat} {Ls : Array Slot} {z : Int32} {rest : List Value} (hret : meth.sig.returnType = some .boolean)
    (hd : decode c.code pc = .ok (.ireturn, 1)) (hz : z = 0 ∨ z = 1) (hk : cells ≤ k) (hs : slots ≤ n) (hq : Q (some (.int z)) T.heap locs) : own_Go p e below s Q k n (T.setTop (mkF m pc Ls (.int z :: rest))) :=
  own_ret X hx hlk hret (by rcases hz with rfl | rfl <;> rfl) (Or.inl ⟨rfl, Or.inr (Or.inl rfl), z, rfl⟩) hd hk hs hq
theorem own_retJ {Q : Option Value → Heap → List Loc → Prop} {k n : Nat} (X : Stand p l e R s m args below meth c T locs cells slots) (hx : p.tables.exec = Jvm.exec) (hlk : meth.locks = false) {pc : Nat} {Ls : Array Slot} {z : Int64} {rest : List Value} (hret : meth.sig.returnType = some .long)
    (hd : decode c.code pc = .ok (.lreturn, 1)) (hk : cells ≤ k) (hs : slots ≤ n) (hq : Q (some (.long z)) T.heap locs) : own_Go p e below s Q k n (T.setTop (mkF m pc Ls (.long z :: rest))) :=
  own_ret X hx hlk hret rfl (Or.inr (Or.inl ⟨rfl, rfl, z, rfl⟩)) hd hk hs hq
theorem own_retR {Q : Option Value → Heap → List Loc → Prop} {k n : Nat} (X : Stand p l e R s m args below meth c T locs cells slots) (hx : p.tables.exec = Jvm.exec) (hlk : meth.locks = false) {pc : Nat} {Ls : Array Slot} {w : Value} {t : FieldType} {rest : List Value} (hret : meth.sig.returnType = some t) (ht : t.isReference = true) (hw : w.isRef = true) (hnr : narrow t w = w)
    (hd : decode c.code pc = .ok (.areturn, 1)) (hk : cells ≤ k) (hs : slots ≤ n) (hq : Q (some w) T.heap locs) : own_Go p e below s Q k n (T.setTop (mkF m pc Ls (w :: rest))) :=
  own_ret X hx hlk hret hnr (Or.inr (Or.inr (Or.inr (Or.inr ⟨rfl, ht, hw⟩)))) hd hk hs hq
theorem own_retV {Q : Option Value → Heap → List Loc → Prop} {k n : Nat} (X : Stand p l e R s m args below meth c T locs cells slots) (hx : p.tables.exec = Jvm.exec) (hlk : meth.locks = false) {pc : Nat} {Ls : Array Slot} (hret : meth.sig.returnType = none)
    (hd : decode c.code pc = .ok (.return_, 1)) (hk : cells ≤ k) (hs : slots ≤ n) (hq : Q none T.heap locs) : own_Go p e below s Q k n (T.setTop (mkF m pc Ls [])) := by
  obtain ⟨fs, hr, hrun, hended, hW, hsame⟩ := X.leave (v := none) (fun _ => rfl) hlk
  exact ⟨_, _, X.returnOut hx hret hd hr, hrun, hended, _, _, rfl, hq, ⟨_, rfl⟩, hW, hsame.mono hk hs⟩
/-- a body's contract: handed as', at a heap h0, it ends as Q says -/
abbrev own_Met (l : Launch) (Z : State) (y : MethodName) (bytes : ByteArray) (maxL : Nat) (ret : Option FieldType) (rm : Room) (ws : List Jvm.Cond) (as' : Array Value) (h0 : Heap) (Q : Option Value → Heap → List Loc → Prop) : Prop :=
  MetFree l y (head1 (Jvm.Cond.code y bytes maxL ret :: ws) rm) (fun a U => a = as' ∧ Z.Warmed39 U.vm ∧ U.heap = h0) (fun _ _ _ _ _ => True) (fun _ U o U' => ∃ v L, o = .returned v ∧ Q v U'.heap L ∧ FrameEnd U o U' L rm.cells rm.slots)
theorem own_enter {y : MethodName} {bytes : ByteArray} {maxL : Nat} {ret : Option FieldType} {rm : Room} {ws : List Jvm.Cond} {as' : Array Value} {h0 : Heap} {Q : Option Value → Heap → List Loc → Prop} (hpl : plainFor y = true)
    (body : ∀ (p : Program) (e : Env) (s : State) (m : MethodId) (below : List Frame) (meth : Method) (c : Code) (s₁ : State), p.tables.exec = Jvm.exec → c.code = bytes → c.maxLocals = maxL → s.vm.findClass y.cls = some m.cls → meth.name = y.name → meth.locks = false → meth.sig.returnType = ret → Z.Warmed39 s.vm →
      Stand p l e rm s m as' below meth c s₁ [] 0 0 → s₁.heap = h0 → own_Go p e below s Q rm.cells rm.slots (s₁.setTop (entryFrame m as' maxL))) : own_Met l Z y bytes maxL ret rm ws as' h0 Q := by
  refine MetFree.of_bodySF hpl hisR ?_
  intro p e s m args below meth c s₁ Bd hml0 hP hK
  obtain ⟨rfl, hZ, hh⟩ := hP
  exact body p e s m below meth c s₁ Bd.exec Bd.bytes hml0 (findClass_of_methodNamed Bd.named) (name_of_methodNamed Bd.named Bd.method).1 Bd.notSynchronized Bd.returns hZ (Stand.of_body Bd) (by rw [← hh, Bd.state]; rfl)
/-- a static call by the callee's contract -/
theorem own_static {Q Q' : Option Value → Heap → List Loc → Prop} {k n : Nat} (X : Stand p l e R s m args below meth c T locs cells slots) (hx : p.tables.exec = Jvm.exec) (hZ : Z.Warmed39 s.vm) {own : String} {index : Nat} {y : MethodName} {bytes : ByteArray} {maxL : Nat} {ret : Option FieldType} {rm : Room}
    (hown : s.vm.findClass own = some m.cls) (w1 : (Cond.methodLink own index y).before a0 Z = true) (w2 : (Cond.static y).before a0 Z = true) (w3 : (Cond.initialized y.cls).before a0 Z = true) (w4 : (Cond.code y bytes maxL ret).before a0 Z = true)
    (hy : y.cls ≠ "java/lang/invoke/MethodHandle" ∧ y.cls ≠ "java/lang/invoke/VarHandle") (eT : T.heap = h) {argsL rest : List Value} (hM : own_Met l Z y bytes maxL ret rm [] argsL.toArray h Q) (W : Nat) (hf : rm.frames + 1 ≤ R.frames) (hl : W + (maxL + 11) + rm.locals ≤ R.locals) (hc : cells + rm.cells ≤ R.cells) (hsl : slots + rm.slots ≤ R.slots)
    {pc pc' : Nat} {Ls : Array Slot} {st : List Value} (hsize : Ls.size = c.maxLocals) {ps : List FieldType} {rt : Option FieldType} (hdesc : parseMethodDescriptor y.desc = some ⟨ps, rt⟩) (hlen : argsL.length = ps.length) (hst : st = argsL.reverse ++ rest) (hW : (rest.map fun v => v.category).sum ≤ W) (hd : decode c.code pc = .ok (.invokestatic index, 3)) (hpc : pc + 3 = pc')
    (go : ∀ (v : Option Value) (T' : State) (L : List Loc), Stand p l e R s m args below meth c T' (locs ++ L) (cells + rm.cells) (slots + rm.slots) → Q v T'.heap L → own_Go p e below s Q' k n (T'.setTop (mkF m pc' Ls (v.toList ++ rest)))) : own_Go p e below s Q' k n (T.setTop (mkF m pc Ls st)) := by
  subst hpc
  obtain ⟨v, _, ⟨T', L', k', n'⟩, -, X', ⟨L, hQ, hl', hk', hn'⟩, stp⟩ := Jvm.LawKit.callS X hx hown (mvT hZ w1) (mvT hZ w2) (mvT hZ w3) (mvT hZ w4) hy (backOf (W := W) hM hZ w4 w3 hf hl) (g := mkF m pc Ls st) rfl hsize (argsL := argsL) (rest := rest) (lenOf hdesc hlen) hst (by show 2 * 0 + _ ≤ _; omega) hd (fun _ _ => ⟨rfl, eT, hc, hsl⟩)
  dsimp only [Pt.U, Pt.locs, Pt.cells, Pt.slots] at X' hl' hk' hn' stp hQ
  subst hl' hk' hn'
  exact own_go stp (go v T' L X' hQ)
/-- a constructor by its contract -/
theorem own_init {Q Q' : Option Value → Heap → List Loc → Prop} {k n : Nat} (X : Stand p l e R s m args below meth c T locs cells slots) (hx : p.tables.exec = Jvm.exec) (hZ : Z.Warmed39 s.vm) {own : String} {index : Nat} {y : MethodName} {bytes : ByteArray} {maxL : Nat} {rm : Room} (hyi : y.name = "<init>")
    (hown : s.vm.findClass own = some m.cls) (w1 : (Cond.methodLink own index y).before a0 Z = true) (w2 : (Cond.instanceMethod y).before a0 Z = true) (w3 : (Cond.initialized y.cls).before a0 Z = true) (w4 : (Cond.code y bytes maxL none).before a0 Z = true)
    (hy : y.cls ≠ "java/lang/invoke/MethodHandle" ∧ y.cls ≠ "java/lang/invoke/VarHandle") (eT : T.heap = h) {a : Addr} {argsL rest : List Value} (hM : own_Met l Z y bytes maxL none rm [] (.ref a :: argsL).toArray h Q) (W : Nat) (hf : rm.frames + 1 ≤ R.frames) (hl : W + (maxL + 11) + rm.locals ≤ R.locals) (hc : cells + rm.cells ≤ R.cells) (hsl : slots + rm.slots ≤ R.slots)
    {pc pc' : Nat} {Ls : Array Slot} {st : List Value} (hsize : Ls.size = c.maxLocals) {ps : List FieldType} {rt : Option FieldType} (hdesc : parseMethodDescriptor y.desc = some ⟨ps, rt⟩) (hlen : argsL.length = ps.length) (hst : st = argsL.reverse ++ .ref a :: rest) (hW : (rest.map fun v => v.category).sum ≤ W) (hd : decode c.code pc = .ok (.invokespecial index, 3)) (hpc : pc + 3 = pc')
    (go : ∀ (v : Option Value) (T' : State) (L : List Loc), Stand p l e R s m args below meth c T' (locs ++ L) (cells + rm.cells) (slots + rm.slots) → Q v T'.heap L → own_Go p e below s Q' k n (T'.setTop (mkF m pc' Ls (v.toList ++ rest)))) : own_Go p e below s Q' k n (T.setTop (mkF m pc Ls st)) := by
  subst hpc
  obtain ⟨v, _, ⟨T', L', k', n'⟩, -, X', ⟨L, hQ, hl', hk', hn'⟩, stp⟩ := X.specialBack hx hyi hown (mvT hZ w1) (mvT hZ w2) (mvT hZ w4) hy (backOf (W := W) hM hZ w4 w3 hf hl) (g := mkF m pc Ls st) rfl hsize (Steps.refl _) (a := a) (argsL := argsL) (rest := rest) (lenOf hdesc hlen) hst (by show 2 * 0 + _ ≤ _; omega) hd (fun _ _ => ⟨rfl, eT, hc, hsl⟩)
  dsimp only [Pt.U, Pt.locs, Pt.cells, Pt.slots] at X' hl' hk' hn' stp hQ
  subst hl' hk' hn'
  exact own_go (fun _ q => stp.trans q) (go v T' L X' hQ)
/-- an instance method by its contract: the receiver is exactly of the class C, which selects z -/
theorem own_virtual {Q Q' : Option Value → Heap → List Loc → Prop} {k n : Nat} (X : Stand p l e R s m args below meth c T locs cells slots) (hx : p.tables.exec = Jvm.exec) (hZ : Z.Warmed39 s.vm) {own C : String} {index : Nat} {y : MethodName} {bytes : ByteArray} {maxL : Nat} {ret : Option FieldType} {rm : Room}
    (hown : s.vm.findClass own = some m.cls) (w1 : (Cond.methodLink own index y).before a0 Z = true) (w2 : (Cond.declares y).before a0 Z = true) (w3 : (Cond.selects C y y).before a0 Z = true) (w5 : (Cond.instanceMethod y).before a0 Z = true) (w6 : (Cond.initialized y.cls).before a0 Z = true) (w4 : (Cond.code y bytes maxL ret).before a0 Z = true)
    (hy : y.cls ≠ "java/lang/invoke/MethodHandle" ∧ y.cls ≠ "java/lang/invoke/VarHandle") (eT : T.heap = h) {a : Addr} (E : Exa Z h a C) {argsL rest : List Value} (hM : own_Met l Z y bytes maxL ret rm [] (.ref a :: argsL).toArray h Q) (W : Nat) (hf : rm.frames + 1 ≤ R.frames) (hl : W + (maxL + 11) + rm.locals ≤ R.locals) (hc : cells + rm.cells ≤ R.cells) (hsl : slots + rm.slots ≤ R.slots)
    {pc pc' : Nat} {Ls : Array Slot} {st : List Value} (hsize : Ls.size = c.maxLocals) {ps : List FieldType} {rt : Option FieldType} (hdesc : parseMethodDescriptor y.desc = some ⟨ps, rt⟩) (hlen : argsL.length = ps.length) (hst : st = argsL.reverse ++ .ref a :: rest) (hW : (rest.map fun v => v.category).sum ≤ W) (hd : decode c.code pc = .ok (.invokevirtual index, 3)) (hpc : pc + 3 = pc')
    (go : ∀ (v : Option Value) (T' : State) (L : List Loc), Stand p l e R s m args below meth c T' (locs ++ L) (cells + rm.cells) (slots + rm.slots) → Q v T'.heap L → own_Go p e below s Q' k n (T'.setTop (mkF m pc' Ls (v.toList ++ rest)))) : own_Go p e below s Q' k n (T.setTop (mkF m pc Ls st)) := by
  subst hpc
  obtain ⟨cq, kq, qa, qb, qc⟩ := isOf hZ eT E
  obtain ⟨v, _, ⟨T', L', k', n'⟩, -, X', ⟨L, hQ, hl', hk', hn'⟩, stp⟩ := X.virtualBack hx (z := y) hown (mvT hZ w1) (mvT hZ w2) (notFace_of_selects (args := #[]) (mvT hZ w3)) (mvT hZ w3) (mvT hZ w5) hy (backOf (W := W) hM hZ w4 w6 hf hl) qa qc (g := mkF m pc Ls st) rfl hsize (Steps.refl _) (argsL := argsL) (rest := rest) (lenOf hdesc hlen) hst (by show 2 * 0 + _ ≤ _; omega) hd (fun _ _ => ⟨rfl, eT, hc, hsl⟩)
  dsimp only [Pt.U, Pt.locs, Pt.cells, Pt.slots] at X' hl' hk' hn' stp hQ
  subst hl' hk' hn'
  exact own_go (fun _ q => stp.trans q) (go v T' L X' hQ)
/-- an array of n places that hold F 0, F 1 .. -/
def own_Ar (Z : State) (h : Heap) (a : Addr) (ty : FieldType) (n : Nat) (F : Nat → Value) : Prop := n < 2 ^ 31 ∧ ∃ c : Cell, Arr Z h a c ty ∧ c.slots.size = n ∧ ∀ j, j < n → c.slots[j]? = some (F j)
section ArFacts
variable {a b : Addr} {ty : FieldType} {F G : Nat → Value} {nn : Nat} {sl : Nat} {v : Value} {ws : List Addr}
theorem own_Ar.lt (A : own_Ar Z h a ty nn F) : a < h.size := by obtain ⟨-, c, A, -⟩ := A; exact A.lt
theorem own_Ar.ext (A : own_Ar Z h a ty nn F) (E : Ext h h') : own_Ar Z h' a ty nn F := by obtain ⟨q, c, A, r⟩ := A; exact ⟨q, c, A.ext E, r⟩
theorem own_Ar.other (A : own_Ar Z h a ty nn F) (W : Wr h h' b sl v) (q : a ≠ b) : own_Ar Z h' a ty nn F := by obtain ⟨q0, c, A, r⟩ := A; exact ⟨q0, c, A.other W q, r⟩
theorem own_Ar.keep (A : own_Ar Z h a ty nn F) (K : Keep h h' ws) (q : a ∉ ws) : own_Ar Z h' a ty nn F := by obtain ⟨q0, c, A, r⟩ := A; exact ⟨q0, c, ⟨K.2.1 a c A.1 q, A.2⟩, r⟩
theorem own_Ar.eqv (A : own_Ar Z h a ty nn F) (q : ∀ j, j < nn → F j = G j) : own_Ar Z h a ty nn G := by obtain ⟨q0, c, A, r, r2⟩ := A; exact ⟨q0, c, A, r, fun j hj => by rw [r2 j hj, q j hj]⟩
theorem own_Ar.set (A : own_Ar Z h a ty nn F) (W : Wr h h' a sl v) : own_Ar Z h' a ty nn (fun j => if j = sl then v else F j) := by
  obtain ⟨q0, c, A, r, r2⟩ := A
  refine ⟨q0, _, A.same W, by rw [sz_set]; exact r, fun j hj => ?_⟩
  by_cases q : j = sl
  · subst q
    simp [Cell.setSlot, r, hj]
  · have q' : sl ≠ j := fun x => q x.symm
    simp only [if_neg q]
    rw [← r2 j hj]
    simp [Cell.setSlot, Array.getElem?_setIfInBounds, q']
theorem own_Ar.new {k : ClassId} {z : Int32} (A : Arr Z h a (newA k ty z) ty) (q : ¬ z < 0) (hz : z.toNatClampNeg = nn) : own_Ar Z h a ty nn (fun _ => defaultValue ty) := by
  subst hz
  refine ⟨(back32 q).2, _, A, sz_new _ _ _, fun j hj => ?_⟩
  simp [newA, hj]
end ArFacts
theorem own_inb {c : Cell} {n i : Nat} {z : Int32} (hs : c.slots.size = n) (hz : z.toInt = (i : Int)) (hi : i < n) : ¬ (z < 0 ∨ c.slots.size ≤ z.toNatClampNeg) ∧ z.toNatClampNeg = i := by
  have h1 : z.toNatClampNeg = i := by rw [Int32.toNatClampNeg, hz]; rfl
  refine ⟨?_, h1⟩
  rintro (q | q)
  · rw [Int32.lt_iff_toInt_lt, hz] at q
    have : (0 : Int32).toInt = 0 := rfl
    omega
  · rw [h1, hs] at q
    omega
theorem own_lt {x y : Int32} (q : x.toInt < y.toInt) : x < y := Int32.lt_iff_toInt_lt.mpr q
theorem own_nlt {x y : Int32} (q : y.toInt ≤ x.toInt) : ¬ x < y := fun r => by rw [Int32.lt_iff_toInt_lt] at r; omega
theorem own_ltI {x y : Int32} (q : x < y) : x.toInt < y.toInt := Int32.lt_iff_toInt_lt.mp q
theorem own_nltI {x y : Int32} (q : ¬ x < y) : y.toInt ≤ x.toInt := by rw [Int32.lt_iff_toInt_lt] at q; omega
theorem own_eq {x y : Int32} (q : x.toInt = y.toInt) : x = y := Int32.toInt_inj.mp q
theorem own_ne {x y : Int32} (q : x.toInt ≠ y.toInt) : ¬ x = y := fun r => q (by rw [r])
theorem own_neI {x y : Int32} (q : ¬ x = y) : x.toInt ≠ y.toInt := fun r => q (own_eq r)
/-- the read of an int out of an array -/
theorem own_iaload {Q : Option Value → Heap → List Loc → Prop} {k n : Nat} (X : Stand p l e R s m args below meth c T locs cells slots) (hx : p.tables.exec = Jvm.exec) (hZ : Z.Warmed39 s.vm) (eT : T.heap = h) {a : Addr} {nn i : Nat} {F : Nat → Value} {x z : Int32} (A : own_Ar Z h a .int nn F) (hz : z.toInt = (i : Int)) (hi : i < nn) (hF : F i = .int x)
    {pc pc' : Nat} {Ls : Array Slot} {rest : List Value} (hd : decode c.code pc = .ok (.iaload, 1)) (hpc : pc + 1 = pc') (go : own_Go p e below s Q k n (T.setTop (mkF m pc' Ls (.int x :: rest)))) : own_Go p e below s Q k n (T.setTop (mkF m pc Ls (.int z :: .ref a :: rest))) := by
  subst hpc
  obtain ⟨-, c, A, r, r2⟩ := A
  obtain ⟨q1, q2⟩ := own_inb r hz hi
  exact own_go (X.iaload hx (j := z) (v := .int x) (by rw [eT]; exact A.1) (State.isArrayOf_alike hZ.alike A.2.1) A.2.2 q1 (by rw [q2, r2 i hi, hF]) (g := mkF m pc Ls (.int z :: .ref a :: rest)) rfl rfl hd) go
theorem own_laload {Q : Option Value → Heap → List Loc → Prop} {k n : Nat} (X : Stand p l e R s m args below meth c T locs cells slots) (hx : p.tables.exec = Jvm.exec) (hZ : Z.Warmed39 s.vm) (eT : T.heap = h) {a : Addr} {nn i : Nat} {F : Nat → Value} {x : Int64} {z : Int32} (A : own_Ar Z h a .long nn F) (hz : z.toInt = (i : Int)) (hi : i < nn) (hF : F i = .long x)
    {pc pc' : Nat} {Ls : Array Slot} {rest : List Value} (hd : decode c.code pc = .ok (.laload, 1)) (hpc : pc + 1 = pc') (go : own_Go p e below s Q k n (T.setTop (mkF m pc' Ls (.long x :: rest)))) : own_Go p e below s Q k n (T.setTop (mkF m pc Ls (.int z :: .ref a :: rest))) := by
  subst hpc
  obtain ⟨-, c, A, r, r2⟩ := A
  obtain ⟨q1, q2⟩ := own_inb r hz hi
  exact own_go (X.laload hx (j := z) (v := .long x) (by rw [eT]; exact A.1) (State.isArrayOf_alike hZ.alike A.2.1) A.2.2 q1 (by rw [q2, r2 i hi, hF]) (g := mkF m pc Ls (.int z :: .ref a :: rest)) rfl rfl hd) go
theorem own_iastore {Q : Option Value → Heap → List Loc → Prop} {k n : Nat} (X : Stand p l e R s m args below meth c T locs cells slots) (hx : p.tables.exec = Jvm.exec) (hZ : Z.Warmed39 s.vm) (eT : T.heap = h) {a : Addr} {nn i : Nat} {F : Nat → Value} {x z : Int32} (A : own_Ar Z h a .int nn F) (hz : z.toInt = (i : Int)) (hi : i < nn)
    {pc pc' : Nat} {Ls : Array Slot} {rest : List Value} (hd : decode c.code pc = .ok (.iastore, 1)) (hpc : pc + 1 = pc') (go : ∀ T' h', Stand p l e R s m args below meth c T' (locs ++ [⟨a, i⟩]) cells slots → T'.heap = h' → Wr h h' a i (.int x) → own_Ar Z h' a .int nn (fun j => if j = i then .int x else F j) → own_Go p e below s Q k n (T'.setTop (mkF m pc' Ls rest))) : own_Go p e below s Q k n (T.setTop (mkF m pc Ls (.int x :: .int z :: .ref a :: rest))) := by
  subst hpc
  have A' := A
  obtain ⟨-, c, A, r, r2⟩ := A
  obtain ⟨q1, q2⟩ := own_inb r hz hi
  obtain ⟨T', h', X', e', W', st⟩ := stI X hx hZ eT A (j := z) (x := x) q1 (g := mkF m pc Ls (.int x :: .int z :: .ref a :: rest)) rfl rfl hd
  rw [q2] at X' W'
  exact own_go st (go T' h' X' e' W' (A'.set W'))
theorem own_lastore {Q : Option Value → Heap → List Loc → Prop} {k n : Nat} (X : Stand p l e R s m args below meth c T locs cells slots) (hx : p.tables.exec = Jvm.exec) (hZ : Z.Warmed39 s.vm) (eT : T.heap = h) {a : Addr} {nn i : Nat} {F : Nat → Value} {x : Int64} {z : Int32} (A : own_Ar Z h a .long nn F) (hz : z.toInt = (i : Int)) (hi : i < nn)
    {pc pc' : Nat} {Ls : Array Slot} {rest : List Value} (hd : decode c.code pc = .ok (.lastore, 1)) (hpc : pc + 1 = pc') (go : ∀ T' h', Stand p l e R s m args below meth c T' (locs ++ [⟨a, i⟩]) cells slots → T'.heap = h' → Wr h h' a i (.long x) → own_Ar Z h' a .long nn (fun j => if j = i then .long x else F j) → own_Go p e below s Q k n (T'.setTop (mkF m pc' Ls rest))) : own_Go p e below s Q k n (T.setTop (mkF m pc Ls (.long x :: .int z :: .ref a :: rest))) := by
  subst hpc
  have A' := A
  obtain ⟨-, c, A, r, r2⟩ := A
  obtain ⟨q1, q2⟩ := own_inb r hz hi
  obtain ⟨T', h', X', e', W', st⟩ := stJ X hx hZ eT A (j := z) (x := x) q1 (g := mkF m pc Ls (.long x :: .int z :: .ref a :: rest)) rfl rfl hd
  rw [q2] at X' W'
  exact own_go st (go T' h' X' e' W' (A'.set W'))
theorem own_length {Q : Option Value → Heap → List Loc → Prop} {k n : Nat} (X : Stand p l e R s m args below meth c T locs cells slots) (hx : p.tables.exec = Jvm.exec) (hZ : Z.Warmed39 s.vm) (eT : T.heap = h) {a : Addr} {nn : Nat} {ty : FieldType} {F : Nat → Value} {z : Int32} (A : own_Ar Z h a ty nn F) (hz : z.toInt = (nn : Int))
    {pc pc' : Nat} {Ls : Array Slot} {rest : List Value} (hd : decode c.code pc = .ok (.arraylength, 1)) (hpc : pc + 1 = pc') (go : own_Go p e below s Q k n (T.setTop (mkF m pc' Ls (.int z :: rest)))) : own_Go p e below s Q k n (T.setTop (mkF m pc Ls (.ref a :: rest))) := by
  subst hpc
  obtain ⟨q, c, A, r, r2⟩ := A
  have hz' : c.slots.size.toInt32 = z := own_eq (by rw [r, hz]; exact len_toInt q)
  subst hz'
  exact own_go (X.arraylength hx (by rw [eT]; exact A.1) (State.isArrayOf_alike hZ.alike A.2.1) (g := mkF m pc Ls (.ref a :: rest)) rfl rfl hd) go
end OwnKit
theorem pd_0 : parseMethodDescriptor "([[D)V" = some ⟨[(.array (.array .double))], none⟩ := by decide +kernel
theorem pd_1 : parseMethodDescriptor "([II)V" = some ⟨[(.array .int), .int], none⟩ := by decide +kernel
theorem pd_2 : parseMethodDescriptor "([DD)V" = some ⟨[(.array .double), .double], none⟩ := by decide +kernel
theorem pd_3 : parseMethodDescriptor "(I[[I[[D[I)V" = some ⟨[.int, (.array (.array .int)), (.array (.array .double)), (.array .int)], none⟩ := by decide +kernel
theorem pd_4 : parseMethodDescriptor "([D[D)V" = some ⟨[(.array .double), (.array .double)], none⟩ := by decide +kernel
theorem pd_5 : parseMethodDescriptor "([D[D[D)V" = some ⟨[(.array .double), (.array .double), (.array .double)], none⟩ := by decide +kernel
theorem pd_6 : parseMethodDescriptor "(IDD)D" = some ⟨[.int, .double, .double], some .double⟩ := by decide +kernel
theorem pd_7 : parseMethodDescriptor "()D" = some ⟨[], some .double⟩ := by decide +kernel
section OwnRef
variable {p : Program} {l : Launch} {e : Env} {R : Room} {s : State} {m : MethodId} {args : Array Value} {below : List Frame} {meth : Method} {c : Code} {T : State} {locs : List Loc} {cells slots : Nat} {Z : State} {a0 : Array Value} {h h' : Heap}
theorem own_aaload {Q : Option Value → Heap → List Loc → Prop} {k n : Nat} (X : Stand p l e R s m args below meth c T locs cells slots) (hx : p.tables.exec = Jvm.exec) (hZ : Z.Warmed39 s.vm) (eT : T.heap = h) {a : Addr} {nn i : Nat} {ty : FieldType} {F : Nat → Value} {x : Value} {z : Int32} (hty : ty.isReference = true) (A : own_Ar Z h a ty nn F) (hz : z.toInt = (i : Int)) (hi : i < nn) (hF : F i = x)
    {pc pc' : Nat} {Ls : Array Slot} {rest : List Value} (hd : decode c.code pc = .ok (.aaload, 1)) (hpc : pc + 1 = pc') (go : own_Go p e below s Q k n (T.setTop (mkF m pc' Ls (x :: rest)))) : own_Go p e below s Q k n (T.setTop (mkF m pc Ls (.int z :: .ref a :: rest))) := by
  subst hpc
  obtain ⟨-, c, A, r, r2⟩ := A
  obtain ⟨q1, q2⟩ := own_inb r hz hi
  exact own_go (X.aaload hx (j := z) (v := x) (by rw [eT]; exact A.1) (State.isArrayOf_alike hZ.alike A.2.1) hty A.2.2 q1 (by rw [q2, r2 i hi, hF]) (g := mkF m pc Ls (.int z :: .ref a :: rest)) rfl rfl hd) go
theorem own_aastore {Q : Option Value → Heap → List Loc → Prop} {k n : Nat} (X : Stand p l e R s m args below meth c T locs cells slots) (hx : p.tables.exec = Jvm.exec) (hZ : Z.Warmed39 s.vm) (eT : T.heap = h) {a : Addr} {nn i : Nat} {ty : FieldType} {F : Nat → Value} {x : Value} {z : Int32} (hty : ty.isReference = true) (A : own_Ar Z h a ty nn F) (S : Sto Z h a x) (hz : z.toInt = (i : Int)) (hi : i < nn)
    {pc pc' : Nat} {Ls : Array Slot} {rest : List Value} (hd : decode c.code pc = .ok (.aastore, 1)) (hpc : pc + 1 = pc') (go : ∀ T' h', Stand p l e R s m args below meth c T' (locs ++ [⟨a, i⟩]) cells slots → T'.heap = h' → Wr h h' a i x → own_Ar Z h' a ty nn (fun j => if j = i then x else F j) → own_Go p e below s Q k n (T'.setTop (mkF m pc' Ls rest))) : own_Go p e below s Q k n (T.setTop (mkF m pc Ls (x :: .int z :: .ref a :: rest))) := by
  subst hpc
  have A' := A
  obtain ⟨-, c, A, r, r2⟩ := A
  obtain ⟨q1, q2⟩ := own_inb r hz hi
  obtain ⟨T', h', X', e', W', st⟩ := stR X hx hZ eT A (j := z) (v := x) q1 hty S (g := mkF m pc Ls (x :: .int z :: .ref a :: rest)) rfl rfl hd
  rw [q2] at X' W'
  exact own_go st (go T' h' X' e' W' (A'.set W'))
theorem own_keepExt (K : Keep h h' []) : Ext h h' := ⟨K.1, fun x c q => K.2.1 x c q nin0⟩
end OwnRef
section OwnDbl
variable {p : Program} {l : Launch} {e : Env} {R : Room} {s : State} {m : MethodId} {args : Array Value} {below : List Frame} {meth : Method} {c : Code} {T : State} {locs : List Loc} {cells slots : Nat} {Z : State} {a0 : Array Value} {h h' : Heap}
theorem own_dstore (X : Stand p l e R s m args below meth c T locs cells slots) (hx : p.tables.exec = Jvm.exec) {g : JFrame} (hg : g.method = m) {k : Nat} {x : UInt64} {rest : List Value} {l' : Array Slot} (hd : decode c.code g.pc = .ok (.dstore k, 2)) (hs : g.stack = .double x :: rest) (hl : storeLocals g.locals k (.double x) = some l') :
    ∀ target, Steps p.tables e below (T.setTop { g with pc := g.pc + 2, stack := rest, locals := l' }) target → Steps p.tables e below (T.setTop g) target := fun target hr => by
  subst hg
  jvm_step X.here [X.here.top, hx, hd, hs, hl]
  exact hr
theorem own_dstoreN (X : Stand p l e R s m args below meth c T locs cells slots) (hx : p.tables.exec = Jvm.exec) {g : JFrame} (hg : g.method = m) {k : Fin 4} {x : UInt64} {rest : List Value} {l' : Array Slot} (hd : decode c.code g.pc = .ok (.dstore_n k, 1)) (hs : g.stack = .double x :: rest) (hl : storeLocals g.locals k.val (.double x) = some l') :
    ∀ target, Steps p.tables e below (T.setTop { g with pc := g.pc + 1, stack := rest, locals := l' }) target → Steps p.tables e below (T.setTop g) target := fun target hr => by
  subst hg
  jvm_step X.here [X.here.top, hx, hd, hs, hl]
  exact hr
theorem own_dconst0 (X : Stand p l e R s m args below meth c T locs cells slots) (hx : p.tables.exec = Jvm.exec) {g : JFrame} (hg : g.method = m) (hd : decode c.code g.pc = .ok (.dconst 0, 1)) :
    ∀ target, Steps p.tables e below (T.setTop { g with pc := g.pc + 1, stack := .double FP.dconst0 :: g.stack }) target → Steps p.tables e below (T.setTop g) target := fun target hr => by
  subst hg
  jvm_step X.here [X.here.top, hx, hd]
  exact hr
theorem own_dconst1 (X : Stand p l e R s m args below meth c T locs cells slots) (hx : p.tables.exec = Jvm.exec) {g : JFrame} (hg : g.method = m) (hd : decode c.code g.pc = .ok (.dconst 1, 1)) :
    ∀ target, Steps p.tables e below (T.setTop { g with pc := g.pc + 1, stack := .double FP.dconst1 :: g.stack }) target → Steps p.tables e below (T.setTop g) target := fun target hr => by
  subst hg
  jvm_step X.here [X.here.top, hx, hd]
  exact hr
theorem own_i2d (X : Stand p l e R s m args below meth c T locs cells slots) (hx : p.tables.exec = Jvm.exec) {g : JFrame} (hg : g.method = m) {x : Int32} {rest : List Value} (hd : decode c.code g.pc = .ok (.i2d, 1)) (hs : g.stack = .int x :: rest) :
    ∀ target, Steps p.tables e below (T.setTop { g with pc := g.pc + 1, stack := .double (FP.i2d x) :: rest }) target → Steps p.tables e below (T.setTop g) target := fun target hr => by
  subst hg
  jvm_step X.here [X.here.top, hx, hd, hs]
  exact hr
theorem own_l2d (X : Stand p l e R s m args below meth c T locs cells slots) (hx : p.tables.exec = Jvm.exec) {g : JFrame} (hg : g.method = m) {x : Int64} {rest : List Value} (hd : decode c.code g.pc = .ok (.l2d, 1)) (hs : g.stack = .long x :: rest) :
    ∀ target, Steps p.tables e below (T.setTop { g with pc := g.pc + 1, stack := .double (FP.l2d x) :: rest }) target → Steps p.tables e below (T.setTop g) target := fun target hr => by
  subst hg
  jvm_step X.here [X.here.top, hx, hd, hs]
  exact hr
theorem own_dneg (X : Stand p l e R s m args below meth c T locs cells slots) (hx : p.tables.exec = Jvm.exec) {g : JFrame} (hg : g.method = m) {x : UInt64} {rest : List Value} (hd : decode c.code g.pc = .ok (.dneg, 1)) (hs : g.stack = .double x :: rest) :
    ∀ target, Steps p.tables e below (T.setTop { g with pc := g.pc + 1, stack := .double (FP.dneg x) :: rest }) target → Steps p.tables e below (T.setTop g) target := fun target hr => by
  subst hg
  jvm_step X.here [X.here.top, hx, hd, hs]
  exact hr
theorem own_dmul (X : Stand p l e R s m args below meth c T locs cells slots) (hx : p.tables.exec = Jvm.exec) {g : JFrame} (hg : g.method = m) {x y : UInt64} {rest : List Value} (hd : decode c.code g.pc = .ok (.dmul, 1)) (hs : g.stack = .double y :: .double x :: rest) (hr : FP.dmul x y &&& 0x7fffffffffffffff ≤ 0x7ff0000000000000) :
    ∀ target, Steps p.tables e below (T.setTop { g with pc := g.pc + 1, stack := .double (FP.dmul x y) :: rest }) target → Steps p.tables e below (T.setTop g) target := fun target hrest => by
  subst hg
  jvm_step X.here [hx, hd, Op.dmul.wp_number (e := e) (s := T) (f := g) X.here.top hs hr]
  exact hrest
theorem own_dadd (X : Stand p l e R s m args below meth c T locs cells slots) (hx : p.tables.exec = Jvm.exec) {g : JFrame} (hg : g.method = m) {x y : UInt64} {rest : List Value} (hd : decode c.code g.pc = .ok (.dadd, 1)) (hs : g.stack = .double y :: .double x :: rest) (hr : FP.dadd x y &&& 0x7fffffffffffffff ≤ 0x7ff0000000000000) :
    ∀ target, Steps p.tables e below (T.setTop { g with pc := g.pc + 1, stack := .double (FP.dadd x y) :: rest }) target → Steps p.tables e below (T.setTop g) target := fun target hrest => by
  subst hg
  jvm_step X.here [hx, hd, Op.dadd.wp_number (e := e) (s := T) (f := g) X.here.top hs hr]
  exact hrest
theorem own_ddiv (X : Stand p l e R s m args below meth c T locs cells slots) (hx : p.tables.exec = Jvm.exec) {g : JFrame} (hg : g.method = m) {x y : UInt64} {rest : List Value} (hd : decode c.code g.pc = .ok (.ddiv, 1)) (hs : g.stack = .double y :: .double x :: rest) (hr : FP.ddiv x y &&& 0x7fffffffffffffff ≤ 0x7ff0000000000000) :
    ∀ target, Steps p.tables e below (T.setTop { g with pc := g.pc + 1, stack := .double (FP.ddiv x y) :: rest }) target → Steps p.tables e below (T.setTop g) target := fun target hrest => by
  subst hg
  jvm_step X.here [hx, hd, Op.ddiv.wp_number (e := e) (s := T) (f := g) X.here.top hs hr]
  exact hrest
def own_oi : Ordering → Int32
  | .lt => -1
  | .eq => 0
  | .gt => 1
theorem own_dcmp (X : Stand p l e R s m args below meth c T locs cells slots) (hx : p.tables.exec = Jvm.exec) {g : JFrame} (hg : g.method = m) {op : CmpOp} {x y : UInt64} {o : Ordering} {rest : List Value} (hc : FP.dcmp x y = some o) (hd : decode c.code g.pc = .ok (.dcmp op, 1)) (hs : g.stack = .double y :: .double x :: rest) :
    ∀ target, Steps p.tables e below (T.setTop { g with pc := g.pc + 1, stack := .int (own_oi o) :: rest }) target → Steps p.tables e below (T.setTop g) target := fun target hrest => by
  subst hg
  cases o <;>
  · jvm_step X.here [X.here.top, hx, hd, hs, hc]
    exact hrest
theorem own_retD {Q : Option Value → Heap → List Loc → Prop} {k n : Nat} (X : Stand p l e R s m args below meth c T locs cells slots) (hx : p.tables.exec = Jvm.exec) (hlk : meth.locks = false) {pc : Nat} {Ls : Array Slot} {z : UInt64} {rest : List Value} (hret : meth.sig.returnType = some .double)
    (hd : decode c.code pc = .ok (.dreturn, 1)) (hk : cells ≤ k) (hs : slots ≤ n) (hq : Q (some (.double z)) T.heap locs) : own_Go p e below s Q k n (T.setTop (mkF m pc Ls (.double z :: rest))) :=
  own_ret X hx hlk hret rfl (Or.inr (Or.inr (Or.inl ⟨rfl, rfl, z, rfl⟩))) hd hk hs hq
end OwnDbl
section OwnFP
open Jvm.FP.Core
/-- x is the double m / 2, exactly, m a natural -/
def own_H (x : UInt64) (m : Nat) : Prop := ∃ c q, val64 x = .fin false c q ∧ inUnits c q b64.qmin = m * 2 ^ 1073
theorem own_qm : b64.qmin = -1074 := by decide
theorem own_ac1 (c d P Q : Nat) : c * d * (P * Q) = (c * P) * (d * Q) := by ac_rfl
theorem own_ac2 (a P Q : Nat) : (2 * a) * (P * Q) = a * (2 * (P * Q)) := by ac_rfl
theorem own_ac3 (c m P Q : Nat) : ((c * m) * P) * Q = (c * P) * (m * Q) := by ac_rfl
theorem own_ac4 (m d P Q : Nat) : (m * Q) * (d * P) = ((m * d) * P) * Q := by ac_rfl
theorem own_cut {a b n k : Nat} (h : a * 2 ^ (n + k) = b * 2 ^ k) : a * 2 ^ n = b := by
  rw [Nat.pow_add, ← Nat.mul_assoc] at h
  exact Nat.eq_of_mul_eq_mul_right (Nat.two_pow_pos k) h
/-- c * 2^q = m * 2^e, said at the units 2^u -/
theorem own_cross {c m : Nat} {q e : Int} {u : Int} (hq : u ≤ q) (he : u ≤ e) (h : c * 2 ^ (q - u).toNat = m * 2 ^ (e - u).toNat) : c * 2 ^ (q - e).toNat = m * 2 ^ (e - q).toNat := by
  by_cases k : e ≤ q
  · have h1 : (q - u).toNat = (q - e).toNat + (e - u).toNat := by omega
    have h2 : (e - q).toNat = 0 := by omega
    rw [h1] at h
    rw [h2, Nat.pow_zero, Nat.mul_one]
    exact own_cut h
  · have h1 : (e - u).toNat = (e - q).toNat + (q - u).toNat := by omega
    have h2 : (q - e).toNat = 0 := by omega
    rw [h1] at h
    rw [h2, Nat.pow_zero, Nat.mul_one]
    exact (own_cut h.symm).symm
/-- a rounding that is exact: the value m / 2 -/
theorem own_exact {d : Datum} {m : Nat} (hm : m < 2 ^ 53) (h : d = roundRatio b64 false m 1 (-1)) : ∃ c q, d = .fin false c q ∧ inUnits c q b64.qmin = m * 2 ^ 1073 := by
  obtain ⟨c, q, h1, h2⟩ := round_exact good_b64 false (c := m) (q := -1) (by exact hm) (by decide) (by decide)
  refine ⟨c, q, h.trans h1, h2.trans ?_⟩
  show m * 2 ^ ((-1 : Int) - b64.qmin).toNat = _
  rw [own_qm]; rfl
theorem own_H_int {v : UInt64} {i : Int} {n : Nat} (hv : val64 v = round b64 (ofInt i)) (hi : i = (n : Int)) (hn : 2 * n < 2 ^ 53) : own_H v (2 * n) := by
  refine own_exact hn (hv.trans ?_)
  subst hi
  show roundRatio b64 (decide ((n : Int) < 0)) (n : Int).natAbs 1 0 = _
  have e1 : decide ((n : Int) < 0) = false := decide_eq_false (by omega)
  rw [e1]
  refine roundRatio_congr (by decide) (by decide) ?_
  show n * 1 * 2 ^ 1 = 2 * n * 1 * 2 ^ 0
  omega
theorem own_H_fits {x : UInt64} {c : Nat} {q : Int} (h : val64 x = .fin false c q) : b64.qmin ≤ q := by
  have := val64_fits x
  rw [h] at this
  exact this.2.1
theorem own_H_mul {x y : UInt64} {m1 m2 m3 : Nat} (hx : own_H x m1) (hy : own_H y m2) (hm : m1 * m2 = 2 * m3) (h3 : m3 < 2 ^ 53) : own_H (dmul x y) m3 := by
  obtain ⟨c, q, ex, ux⟩ := hx
  obtain ⟨d, r, ey, uy⟩ := hy
  have hq := own_H_fits ex
  have hr := own_H_fits ey
  refine own_exact h3 ?_
  rw [val64_dmul, ex, ey]
  show roundRatio b64 (false != false) (c * d) 1 (q + r) = _
  refine roundRatio_congr (by decide) (by decide) ?_
  rw [Nat.mul_one, Nat.mul_one]
  rw [own_qm] at hq hr ux uy
  refine own_cross (u := -2148) (by omega) (by omega) ?_
  have ux' : c * 2 ^ (q - -1074).toNat = m1 * 2 ^ 1073 := ux
  have uy' : d * 2 ^ (r - -1074).toNat = m2 * 2 ^ 1073 := uy
  have e1 : (q + r - -2148).toNat = (q - -1074).toNat + (r - -1074).toNat := by omega
  have e2 : ((-1 : Int) - -2148).toNat = 1 + (1073 + 1073) := by decide
  rw [e1, e2, Nat.pow_add, Nat.pow_add, Nat.pow_add]
  calc c * d * (2 ^ (q - -1074).toNat * 2 ^ (r - -1074).toNat) = (c * 2 ^ (q - -1074).toNat) * (d * 2 ^ (r - -1074).toNat) := own_ac1 _ _ _ _
    _ = (m1 * 2 ^ 1073) * (m2 * 2 ^ 1073) := by rw [ux', uy']
    _ = (m1 * m2) * (2 ^ 1073 * 2 ^ 1073) := (own_ac1 _ _ _ _).symm
    _ = (2 * m3) * (2 ^ 1073 * 2 ^ 1073) := by rw [hm]
    _ = m3 * (2 ^ 1 * (2 ^ 1073 * 2 ^ 1073)) := by rw [Nat.pow_one]; exact own_ac2 _ _ _
theorem own_H_add {x y : UInt64} {m1 m2 : Nat} (hx : own_H x m1) (hy : own_H y m2) (h3 : m1 + m2 < 2 ^ 53) : own_H (dadd x y) (m1 + m2) := by
  obtain ⟨c, q, ex, ux⟩ := hx
  obtain ⟨d, r, ey, uy⟩ := hy
  have hq := own_H_fits ex
  have hr := own_H_fits ey
  refine own_exact h3 ?_
  rw [val64_dadd, ex, ey]
  obtain ⟨w, hw⟩ : ∃ w, w = min q r := ⟨_, rfl⟩
  have hwq : w ≤ q := by omega
  have hwr : w ≤ r := by omega
  have e0 : sumUnits false c q false d r w = ((inUnits c q w + inUnits d r w : Nat) : Int) := by
    show ((inUnits c q w : Nat) : Int) + ((inUnits d r w : Nat) : Int) = _
    omega
  show roundRatio b64 (sumSign false false (sumUnits false c q false d r (min q r))) (sumUnits false c q false d r (min q r)).natAbs 1 (min q r) = _
  rw [← hw, e0]
  have e1 : sumSign false false ((inUnits c q w + inUnits d r w : Nat) : Int) = false := by
    unfold sumSign
    split
    · rfl
    · exact decide_eq_false (by omega)
  rw [e1, Int.natAbs_natCast]
  refine roundRatio_congr (by decide) (by decide) ?_
  rw [Nat.mul_one, Nat.mul_one]
  rw [own_qm] at hq hr ux uy
  refine own_cross (u := -1074) (by omega) (by omega) ?_
  have m1' := inUnits_move c (q := q) (r := w) (e := -1074) (by omega) hwq
  have m2' := inUnits_move d (q := r) (r := w) (e := -1074) (by omega) hwr
  rw [Nat.add_mul, ← m1', ← m2', ux, uy, ← Nat.add_mul]
  rfl
/-- the quotient of two such numbers, as a rounding of the naturals' ratio -/
theorem own_H_div {x y : UInt64} {m1 m2 : Nat} (hx : own_H x m1) (hy : own_H y m2) (h0 : 0 < m2) : val64 (ddiv x y) = roundRatio b64 false m1 m2 0 := by
  obtain ⟨c, q, ex, ux⟩ := hx
  obtain ⟨d, r, ey, uy⟩ := hy
  have hq := own_H_fits ex
  have hr := own_H_fits ey
  rw [val64_ddiv, ex, ey]
  rw [own_qm] at hq hr ux uy
  have ux' : c * 2 ^ (q - -1074).toNat = m1 * 2 ^ 1073 := ux
  have uy' : d * 2 ^ (r - -1074).toNat = m2 * 2 ^ 1073 := uy
  have hd : d ≠ 0 := by
    intro z
    subst z
    have : 0 < m2 * 2 ^ 1073 := Nat.mul_pos h0 (Nat.two_pow_pos _)
    omega
  show (if d = 0 then (if c = 0 then Datum.nan else .inf (false != false)) else roundRatio b64 (false != false) c d (q - r)) = _
  rw [if_neg hd]
  refine roundRatio_congr (by omega) h0 ?_
  have k : (c * m2) * 2 ^ (q - -1074).toNat = (m1 * d) * 2 ^ (r - -1074).toNat := by
    have : (c * 2 ^ (q - -1074).toNat) * (m2 * 2 ^ 1073) = (m1 * 2 ^ 1073) * (d * 2 ^ (r - -1074).toNat) := by rw [ux', uy']
    have h2 : ((c * m2) * 2 ^ (q - -1074).toNat) * 2 ^ 1073 = ((m1 * d) * 2 ^ (r - -1074).toNat) * 2 ^ 1073 := by
      calc ((c * m2) * 2 ^ (q - -1074).toNat) * 2 ^ 1073 = (c * 2 ^ (q - -1074).toNat) * (m2 * 2 ^ 1073) := own_ac3 _ _ _ _
        _ = (m1 * 2 ^ 1073) * (d * 2 ^ (r - -1074).toNat) := this
        _ = ((m1 * d) * 2 ^ (r - -1074).toNat) * 2 ^ 1073 := own_ac4 _ _ _ _
    exact Nat.eq_of_mul_eq_mul_right (Nat.two_pow_pos _) h2
  have z := own_cross hq hr k
  rw [Int.sub_zero, Int.zero_sub, Int.neg_sub]
  exact z
theorem own_H_nn {x : UInt64} {m : Nat} (h : own_H x m) : val64 x ≠ .nan := by
  obtain ⟨c, q, e, -⟩ := h
  rw [e]; exact fun z => by cases z
theorem own_num {x : UInt64} (h : val64 x ≠ .nan) : x &&& 0x7fffffffffffffff ≤ 0x7ff0000000000000 := by
  have h1 := (ne_nan x).mp h
  rw [UInt64.le_iff_toNat_le, UInt64.toNat_and]
  show x.toNat &&& (2 ^ 63 - 1) ≤ _
  rw [Nat.and_two_pow_sub_one_eq_mod]
  exact h1
theorem own_H_cmp {x y : UInt64} {m1 m2 : Nat} (hx : own_H x m1) (hy : own_H y m2) : dcmp x y = some (compare (m1 : Int) (m2 : Int)) := by
  have fx := val64_fits x
  have fy := val64_fits y
  have nx := own_H_nn hx
  have ny := own_H_nn hy
  show order (val64 x) (val64 y) = _
  rw [order_zval good_b64 fx fy nx ny]
  obtain ⟨c, q, ex, ux⟩ := hx
  obtain ⟨d, r, ey, uy⟩ := hy
  rw [ex, ey]
  show some (compare ((inUnits c q b64.qmin : Nat) : Int) ((inUnits d r b64.qmin : Nat) : Int)) = _
  rw [ux, uy]
  refine congrArg some (compare_congr ?_ ?_)
  · have := Nat.two_pow_pos 1073
    generalize 2 ^ 1073 = P at *
    constructor
    · intro h
      have h' : m1 * P < m2 * P := by omega
      have := Nat.lt_of_mul_lt_mul_right h'
      omega
    · intro h
      have h' : m1 < m2 := by omega
      have := Nat.mul_lt_mul_of_pos_right h' this
      omega
  · have := Nat.two_pow_pos 1073
    generalize 2 ^ 1073 = P at *
    constructor
    · intro h
      have h' : m1 * P = m2 * P := by omega
      have := Nat.eq_of_mul_eq_mul_right this h'
      omega
    · intro h
      have h' : m1 = m2 := by omega
      rw [h']
/-- what is known of the double nearest to b / n, against a double of value v / 2 -/
theorem own_D {x : UInt64} {b n : Nat} (hx : val64 x = roundRatio b64 false b n 0) (hn : 0 < n) : val64 x ≠ .nan ∧ sgn (val64 x) = false := by
  rw [hx]; exact ⟨roundRatio_ne_nan _ _ _ _ _, sgn_roundRatio _ _ _ _ _⟩
theorem own_D_cmp {x y : UInt64} {b n : Nat} (hx : val64 x = roundRatio b64 false b n 0) (hn : 0 < n) (ny : val64 y ≠ .nan) (sy : sgn (val64 y) = false) : dcmp x y = some (compare (zmag b64 (val64 x) : Int) (zmag b64 (val64 y) : Int)) ∧ dcmp y x = some (compare (zmag b64 (val64 y) : Int) (zmag b64 (val64 x) : Int)) := by
  obtain ⟨nx, sx⟩ := own_D hx hn
  have fx := val64_fits x
  have fy := val64_fits y
  constructor
  · show order (val64 x) (val64 y) = _
    rw [order_zval good_b64 fx fy nx ny]
    unfold zval
    rw [sx, sy]; rfl
  · show order (val64 y) (val64 x) = _
    rw [order_zval good_b64 fy fx ny nx]
    unfold zval
    rw [sx, sy]; rfl
/-- b / n at most v / 2^22 (v at most 2^22, in the format): the rounding is at most that -/
theorem own_D_le {x : UInt64} {b n : Nat} {V : Datum} (hx : val64 x = roundRatio b64 false b n 0) (hn : 0 < n) (hV : Jvm.FP.Core.fits b64 V) (nV : V ≠ .nan) (h : b * 2 ^ 1074 ≤ zmag b64 V * n) : zmag b64 (val64 x) ≤ zmag b64 V := by
  rw [hx]
  refine zmag_roundRatio_le good_b64 hn hV nV (e0 := -1074) (by decide) (by decide) ?_
  rw [own_qm]
  show b * 2 ^ 1074 ≤ zmag b64 V * 1 * n
  rw [Nat.mul_one]; exact h
theorem own_D_ge {x : UInt64} {b n : Nat} {V : Datum} (hx : val64 x = roundRatio b64 false b n 0) (hn : 0 < n) (hV : Jvm.FP.Core.fits b64 V) (h : zmag b64 V * n ≤ b * 2 ^ 1074) : zmag b64 V ≤ zmag b64 (val64 x) := by
  rw [hx]
  refine zmag_roundRatio_ge good_b64 hn hV (e0 := -1074) (by decide) (by decide) ?_
  rw [own_qm]
  show zmag b64 V * 1 * n ≤ b * 2 ^ 1074
  rw [Nat.mul_one]; exact h
end OwnFP
section OwnLP
open Jvm.FP.Core
/-- equal as numbers, both finite -/
def own_E (x y : UInt64) : Prop := DFin x ∧ DFin y ∧ zval b64 (val64 x) = zval b64 (val64 y)
theorem own_E.symm {x y : UInt64} (h : own_E x y) : own_E y x := ⟨h.2.1, h.1, h.2.2.symm⟩
theorem own_E.trans {x y z : UInt64} (h : own_E x y) (g : own_E y z) : own_E x z := ⟨h.1, g.2.1, h.2.2.trans g.2.2⟩
theorem own_E.refl {x : UInt64} (h : DFin x) : own_E x x := ⟨h, h, rfl⟩
theorem own_E.zero {x y : UInt64} (h : own_E x y) (z : DZero y) : DZero x := by
  rw [zero_bits2]
  exact (zval_eq_zero h.1.ne_nan).mp (h.2.2.trans z.zval)
theorem own_E.bits {x y : UInt64} (h : own_E x y) (z : ¬ DZero y) : x = y := eq_bits z (dcmp_eq.mpr ⟨h.1.ne_nan, h.2.1.ne_nan, h.2.2⟩)
/-- sums of equal numbers compare equal -/
theorem own_E_add {x x' y y' : UInt64} (hx : own_E x x') (hy : own_E y y') : dcmp (dadd x y) (dadd x' y') = some .eq := by
  by_cases zx : DZero x'
  · have zx' := hx.zero zx
    obtain ⟨n1, -, e1⟩ := dcmp_eq.mp (dadd_zero_eq hy.1 zx').2
    obtain ⟨n2, -, e2⟩ := dcmp_eq.mp (dadd_zero_eq hy.2.1 zx).2
    exact dcmp_eq.mpr ⟨n1, n2, by rw [e1, e2]; exact hy.2.2⟩
  · by_cases zy : DZero y'
    · have zy' := hy.zero zy
      obtain ⟨n1, -, e1⟩ := dcmp_eq.mp (dadd_zero_eq hx.1 zy').1
      obtain ⟨n2, -, e2⟩ := dcmp_eq.mp (dadd_zero_eq hx.2.1 zy).1
      exact dcmp_eq.mpr ⟨n1, n2, by rw [e1, e2]; exact hx.2.2⟩
    · obtain rfl := hx.bits zx
      obtain rfl := hy.bits zy
      exact dcmp_refl (dadd_out hx.1.notNaN hy.1)
theorem own_z0 : DZero dconst0 := ⟨false, _, val64_dconst0⟩
/-- 0.0 + x -/
theorem own_E_zero {x : UInt64} (h : DFin x) : own_E (dadd dconst0 x) x := by
  obtain ⟨n1, -, e1⟩ := dcmp_eq.mp (dadd_zero_eq h own_z0).2
  refine ⟨?_, h, e1⟩
  by_cases z : DZero x
  · exact DZero.fin ((zero_bits2 _).mpr ((zval_eq_zero n1).mp (e1.trans z.zval)))
  · rw [eq_bits z (dcmp_eq.mpr ⟨n1, h.ne_nan, e1⟩)]
    exact h
/-- a product of whole numbers -/
theorem own_E_mul {a b : Int64} (ha : Small53 a) (hb : Small53 b) (h1 : -9223372036854775808 ≤ a.toInt * b.toInt) (h2 : a.toInt * b.toInt < 9223372036854775808) : own_E (dmul (l2d a) (l2d b)) (l2d (a * b)) := by
  by_cases hz : a = 0 ∨ b = 0
  · have e : a * b = 0 := by
      rcases hz with h | h
      · rw [h]; exact Int64.zero_mul
      · rw [h]; exact Int64.mul_zero
    rw [dmul_l2d_zero ha hb hz, e]
    have k : ∀ s : Bool, own_E (if s = true then 9223372036854775808 else l2d 0) (l2d 0) := by
      intro s
      have z0 : DZero (l2d 0) := by rw [FP.Core.l2d_zero, zero_bits2]; decide
      have zs : DZero (if s = true then 9223372036854775808 else l2d 0) := by
        cases s
        · exact z0
        · rw [zero_bits2]; decide
      exact ⟨zs.fin, z0.fin, zs.zval.trans z0.zval.symm⟩
    exact k _
  · have za : a ≠ 0 := fun h => hz (Or.inl h)
    have zb : b ≠ 0 := fun h => hz (Or.inr h)
    rw [dmul_l2d ha hb za zb h1 h2]
    exact own_E.refl (l2d_fin _)
theorem own_l2d_val (a : Int64) : ∃ c q, val64 (l2d a) = .fin (decide (a.toInt < 0)) c q ∧ roundRatio b64 (decide (a.toInt < 0)) a.toInt.natAbs 1 0 = .fin (decide (a.toInt < 0)) c q := by
  obtain ⟨c, q, h⟩ := l2d_shape a
  have h1 : val64 (l2d a) = roundRatio b64 (decide (a.toInt < 0)) a.toInt.natAbs 1 0 := val64_l2d a
  exact ⟨c, q, h, h1.symm.trans h⟩
theorem own_near (a b : Int64) : ∃ u v : Nat, zval b64 (val64 (l2d a)) = signed (decide (a.toInt < 0)) u ∧ zval b64 (val64 (l2d b)) = signed (decide (b.toInt < 0)) v ∧ ((a.toInt.natAbs * one64 : Nat) - (u : Int)).natAbs ≤ ((a.toInt.natAbs * one64 : Nat) - (v : Int)).natAbs := by
  obtain ⟨c, q, h1, h2⟩ := own_l2d_val a
  obtain ⟨c', q', g1, g2⟩ := own_l2d_val b
  have fb := val64_fits (l2d b)
  rw [g1] at fb
  have n := roundRatio_nearest good_b64 (e0 := b64.qmin) (by decide) h2 fb.1 fb.2.1 (Int.le_refl _) (by decide)
  refine ⟨inUnits c q b64.qmin, inUnits c' q' b64.qmin, by rw [h1]; rfl, by rw [g1]; rfl, ?_⟩
  have k : inUnits a.toInt.natAbs 0 b64.qmin = a.toInt.natAbs * one64 := by
    unfold inUnits
    rw [← pow_qmin64, Int.zero_sub]
  unfold distance at n
  rw [k] at n
  simpa using n
theorem own_mono {a b : Int64} (h : a.toInt ≤ b.toInt) : zval b64 (val64 (l2d a)) ≤ zval b64 (val64 (l2d b)) := by
  by_cases he : a = b
  · subst he; exact Int.le_refl _
  have hl : a.toInt < b.toInt := by
    have : a.toInt ≠ b.toInt := fun q => he (Int64.toInt_inj.mp q)
    omega
  by_cases c1 : a.toInt * (one64 : Int) ≤ zval b64 (val64 (l2d b))
  · exact l2d_zval_le (l2d_fin _).ne_nan c1
  by_cases c2 : zval b64 (val64 (l2d a)) ≤ b.toInt * (one64 : Int)
  · exact l2d_zval_ge (l2d_fin _).ne_nan c2
  exfalso
  have c1 := Int.lt_of_not_ge c1
  have c2 := Int.lt_of_not_ge c2
  obtain ⟨u, v, e1, e2, e3⟩ := own_near a b
  obtain ⟨v', u', f1, f2, f3⟩ := own_near b a
  have i1 : ∀ (s : Bool) {x y : Nat}, signed s x = signed s y → x = y := by
    intro s x y q
    have := congrArg Int.natAbs q
    rwa [natAbs_signed, natAbs_signed] at this
  obtain rfl := i1 _ (e1.symm.trans f2)
  obtain rfl := i1 _ (e2.symm.trans f1)
  rw [e2] at c1
  rw [e1] at c2
  have p1 : (0 : Int) < (one64 : Int) := by exact_mod_cast one64_pos
  generalize ho : one64 = o at *
  have hm : a.toInt * (o : Int) < b.toInt * (o : Int) := Int.mul_lt_mul_of_pos_right hl p1
  have n1 : ((a.toInt.natAbs * o : Nat) : Int) = (a.toInt * (o : Int)).natAbs := by rw [Int.natAbs_mul]; rfl
  have n2 : ((b.toInt.natAbs * o : Nat) : Int) = (b.toInt * (o : Int)).natAbs := by rw [Int.natAbs_mul]; rfl
  have s1 : a.toInt < 0 ↔ a.toInt * (o : Int) < 0 := by
    constructor
    · intro q; exact Int.mul_neg_of_neg_of_pos q p1
    · intro q
      rcases (show a.toInt < 0 ∨ 0 ≤ a.toInt by omega) with r | r
      · exact r
      · have := Int.mul_nonneg r (Int.le_of_lt p1); omega
  have s2 : b.toInt < 0 ↔ b.toInt * (o : Int) < 0 := by
    constructor
    · intro q; exact Int.mul_neg_of_neg_of_pos q p1
    · intro q
      rcases (show b.toInt < 0 ∨ 0 ≤ b.toInt by omega) with r | r
      · exact r
      · have := Int.mul_nonneg r (Int.le_of_lt p1); omega
  rw [n1] at e3
  rw [n2] at f3
  generalize a.toInt * (o : Int) = A at *
  generalize b.toInt * (o : Int) = B at *
  unfold signed at c1 c2
  by_cases k1 : a.toInt < 0 <;> by_cases k2 : b.toInt < 0 <;> simp [k1, k2] at c1 c2 s1 s2 <;> omega
theorem own_neg_val {a : UInt64} (h : DFin a) : val64 (FP.dneg a) = negate (val64 a) := by
  rw [FP.dneg_core h.notNaN, val64_dneg]
theorem own_mul_neg {a : UInt64} (b : UInt64) (h : DFin a) : val64 (FP.dmul (FP.dneg a) b) = negate (val64 (FP.dmul a b)) := by
  show val64 (dmul (FP.dneg a) b) = negate (val64 (dmul a b))
  rw [val64_dmul, val64_dmul, own_neg_val h, exactProduct_negate, negate_round]
theorem own_sub {x y P : UInt64} (h : val64 y = negate (val64 P)) (hx : DFin x) (hP : DFin P) : FP.dsub x y = dadd x P := by
  have nn : val64 (dadd x P) ≠ .nan := (notNaN_iff _).mp (dadd_out hx.notNaN hP)
  refine (val64_inj nn ?_).symm
  show val64 (dadd x P) = val64 (dsub x y)
  rw [val64_dsub, h, negate_negate, val64_dadd]
/-- the two sums -/
theorem own_sums {O0 O1 V0 V1 r0 r1 : UInt64} (f0 : DFin O0) (f1 : DFin O1) (h0 : own_E r0 (FP.dmul O0 V0)) (h1 : own_E r1 (FP.dmul O1 V1)) :
    val64 (FP.dmul (FP.dneg O0) V0) ≠ .nan ∧ val64 (FP.dsub FP.dconst0 (FP.dmul (FP.dneg O0) V0)) ≠ .nan ∧ val64 (FP.dmul (FP.dneg O1) V1) ≠ .nan ∧ val64 (FP.dsub (FP.dsub FP.dconst0 (FP.dmul (FP.dneg O0) V0)) (FP.dmul (FP.dneg O1) V1)) ≠ .nan ∧ val64 (FP.dadd r0 r1) ≠ .nan ∧
      FP.dcmp (FP.dsub (FP.dsub FP.dconst0 (FP.dmul (FP.dneg O0) V0)) (FP.dmul (FP.dneg O1) V1)) (FP.dadd r0 r1) = some .eq := by
  have nf : ∀ {x y : UInt64}, val64 x = negate (val64 y) → DFin y → val64 x ≠ .nan := by
    intro x y q f z
    obtain ⟨s, c, e, g⟩ := f
    rw [q, g] at z
    cases z
  have e1 := own_sub (own_mul_neg V0 f0) own_z0.fin h0.2.1
  have z1 := own_E_zero h0.2.1
  have e2 := own_sub (own_mul_neg V1 f1) z1.1 h1.2.1
  have d0 : (FP.dconst0 : UInt64) = dconst0 := rfl
  rw [d0, e1, e2]
  refine ⟨nf (own_mul_neg V0 f0) h0.2.1, z1.1.ne_nan, nf (own_mul_neg V1 f1) h1.2.1, (notNaN_iff _).mp (dadd_out z1.1.notNaN h1.2.1), (notNaN_iff _).mp (dadd_out h0.1.notNaN h1.1), ?_⟩
  exact own_E_add (z1.trans h0.symm) h1.symm
theorem own_small (x : Int32) : Small53 x.toInt64 := by
  have := rng32 x
  have e := Int32.toInt_toInt64 x
  unfold Small53
  omega
theorem own_w (w : Int32) : 0 ≤ (w &&& (2147483647 : Int32)).toInt ∧ (w &&& (2147483647 : Int32)).toInt < 2147483648 := by
  have h := c_and w 2147483647 (by decide)
  have := rng32 (w &&& 2147483647)
  omega
/-- the upper bound -/
theorem own_up (l : Int32) {w : Int32} (h0 : 0 ≤ w.toInt) : dadd (i2d l) (i2d w) = l2d (l.toInt64 + w.toInt64) ∧ (l.toInt64 + w.toInt64).toInt = l.toInt + w.toInt ∧ Small53 (l.toInt64 + w.toInt64) := by
  have r1 := rng32 l
  have r2 := rng32 w
  have e1 := Int32.toInt_toInt64 l
  have e2 := Int32.toInt_toInt64 w
  have e3 : (l.toInt64 + w.toInt64).toInt = l.toInt + w.toInt := by rw [int64_add (by omega) (by omega), e1, e2]
  refine ⟨by rw [i2d_l2d, i2d_l2d, dadd_l2d (own_small l) (own_small w)], e3, ?_⟩
  unfold Small53
  omega
theorem own_range (o l : Int32) {u : Int} (h1 : -2147483648 ≤ u) (h2 : u ≤ 4294967294) : -9223372036854775808 ≤ o.toInt * u ∧ o.toInt * u < 9223372036854775808 := by
  have r := rng32 o
  rcases (show 0 ≤ u ∨ u < 0 by omega) with q | q
  · have a1 : o.toInt * u ≤ 2147483647 * u := Int.mul_le_mul_of_nonneg_right (by omega) q
    have a2 : -2147483648 * u ≤ o.toInt * u := Int.mul_le_mul_of_nonneg_right (by omega) q
    omega
  · have a1 : o.toInt * u ≤ -2147483648 * u := Int.mul_le_mul_of_nonpos_right (by omega) (by omega)
    have a2 : 2147483647 * u ≤ o.toInt * u := Int.mul_le_mul_of_nonpos_right (by omega) (by omega)
    omega
/-- all that the law needs of one column -/
theorem own_col (o l w : Int32) (h0 : 0 ≤ w.toInt) : val64 (FP.dadd (FP.i2d l) (FP.i2d w)) ≠ .nan ∧ DFin (FP.i2d l) ∧ DFin (FP.dadd (FP.i2d l) (FP.i2d w)) ∧ (∃ o1, FP.dcmp (FP.i2d l) (FP.dadd (FP.i2d l) (FP.i2d w)) = some o1 ∧ o1 ≠ .gt) ∧
    DFin (FP.dmul (FP.i2d o) (FP.i2d l)) ∧ DFin (FP.dmul (FP.i2d o) (FP.dadd (FP.i2d l) (FP.i2d w))) ∧
    ∃ oc od, FP.dcmp (FP.dneg (FP.i2d o)) FP.dconst0 = some oc ∧ FP.dcmp (FP.dmul (FP.i2d o) (FP.i2d l)) (FP.dmul (FP.i2d o) (FP.dadd (FP.i2d l) (FP.i2d w))) = some od ∧
      (oc = .lt → od = .lt → own_E (FP.dmul (FP.i2d o) (FP.dadd (FP.i2d l) (FP.i2d w))) (FP.dmul (FP.i2d o) (FP.dadd (FP.i2d l) (FP.i2d w)))) ∧
      (oc = .lt → od ≠ .lt → own_E (FP.dmul (FP.i2d o) (FP.i2d l)) (FP.dmul (FP.i2d o) (FP.dadd (FP.i2d l) (FP.i2d w)))) ∧
      (oc ≠ .lt → od ≠ .lt ∧ own_E (FP.dmul (FP.i2d o) (FP.i2d l)) (FP.dmul (FP.i2d o) (FP.i2d l))) := by
  show val64 (dadd (i2d l) (i2d w)) ≠ .nan ∧ DFin (i2d l) ∧ DFin (dadd (i2d l) (i2d w)) ∧ (∃ o1, dcmp (i2d l) (dadd (i2d l) (i2d w)) = some o1 ∧ o1 ≠ .gt) ∧
    DFin (dmul (i2d o) (i2d l)) ∧ DFin (dmul (i2d o) (dadd (i2d l) (i2d w))) ∧
    ∃ oc od, dcmp (FP.dneg (i2d o)) dconst0 = some oc ∧ dcmp (dmul (i2d o) (i2d l)) (dmul (i2d o) (dadd (i2d l) (i2d w))) = some od ∧
      (oc = .lt → od = .lt → own_E (dmul (i2d o) (dadd (i2d l) (i2d w))) (dmul (i2d o) (dadd (i2d l) (i2d w)))) ∧
      (oc = .lt → od ≠ .lt → own_E (dmul (i2d o) (i2d l)) (dmul (i2d o) (dadd (i2d l) (i2d w)))) ∧
      (oc ≠ .lt → od ≠ .lt ∧ own_E (dmul (i2d o) (i2d l)) (dmul (i2d o) (i2d l)))
  have rl := rng32 l
  have rw_ := rng32 w
  obtain ⟨u1, u2, u3⟩ := own_up l h0
  have el := Int32.toInt_toInt64 l
  have eo := Int32.toInt_toInt64 o
  rw [u1, i2d_l2d l]
  have ho : i2d o = l2d o.toInt64 := i2d_l2d o
  have R1 := own_range o l (u := l.toInt) (by omega) (by omega)
  have R2 := own_range o l (u := l.toInt + w.toInt) (by omega) (by omega)
  have m1 := own_E_mul (own_small o) (own_small l) (by rw [eo, el]; exact R1.1) (by rw [eo, el]; exact R1.2)
  have m2 := own_E_mul (own_small o) u3 (by rw [eo, u2]; exact R2.1) (by rw [eo, u2]; exact R2.2)
  have p1 : (o.toInt64 * l.toInt64).toInt = o.toInt * l.toInt := by rw [int64_mul (by rw [eo, el]; exact R1.1) (by rw [eo, el]; exact R1.2), eo, el]
  have p2 : (o.toInt64 * (l.toInt64 + w.toInt64)).toInt = o.toInt * (l.toInt + w.toInt) := by rw [int64_mul (by rw [eo, u2]; exact R2.1) (by rw [eo, u2]; exact R2.2), eo, u2]
  have nn : val64 (FP.dneg (i2d o)) ≠ .nan := by
    rw [own_neg_val (i2d_fin o)]
    obtain ⟨s, c, q, g⟩ := i2d_fin o
    rw [g]; exact fun z => by cases z
  have zo : zval b64 (val64 (FP.dneg (i2d o))) = -(o.toInt * (one64 : Int)) := by rw [own_neg_val (i2d_fin o), zval_negate, DInt_zval (i2d_int o)]
  have z0 : zval b64 (val64 dconst0) = 0 := own_z0.zval
  have pp : (0 : Int) < (one64 : Int) := by exact_mod_cast one64_pos
  rw [← ho] at m1 m2
  refine ⟨(l2d_fin _).ne_nan, l2d_fin _, l2d_fin _, ⟨_, dcmp_l2d (own_small l) u3, ?_⟩, m1.1, m2.1, _, _, dcmp_zval nn own_z0.fin.ne_nan, dcmp_zval m1.1.ne_nan m2.1.ne_nan, fun _ _ => own_E.refl m2.1, fun hc hd => ?_, fun hc => ⟨?_, own_E.refl m1.1⟩⟩
  · rw [el, u2]
    split
    · exact fun z => by cases z
    · rw [if_pos (by omega)]; exact fun z => by cases z
  · refine ⟨m1.1, m2.1, ?_⟩
    rw [zo, z0, compare_ite] at hc
    have hpos : 0 < o.toInt := by
      rcases (show 0 < o.toInt ∨ o.toInt ≤ 0 by omega) with r | r
      · exact r
      · have := Int.mul_le_mul_of_nonneg_right r (Int.le_of_lt pp)
        rw [if_neg (by omega)] at hc
        split at hc <;> cases hc
    rw [compare_ite] at hd
    have le : zval b64 (val64 (dmul (i2d o) (l2d l.toInt64))) ≤ zval b64 (val64 (dmul (i2d o) (l2d (l.toInt64 + w.toInt64)))) := by
      rw [m1.2.2, m2.2.2]
      refine own_mono ?_
      rw [p1, p2]
      exact Int.mul_le_mul_of_nonneg_left (by omega) (by omega)
    split at hd
    · exact absurd rfl hd
    · omega
  · rw [zo, z0, compare_ite] at hc
    have hneg : o.toInt ≤ 0 := by
      rcases (show 0 < o.toInt ∨ o.toInt ≤ 0 by omega) with r | r
      · have := Int.mul_pos r pp
        rw [if_pos (by omega)] at hc
        exact absurd rfl hc
      · exact r
    have le : zval b64 (val64 (dmul (i2d o) (l2d (l.toInt64 + w.toInt64)))) ≤ zval b64 (val64 (dmul (i2d o) (l2d l.toInt64))) := by
      rw [m1.2.2, m2.2.2]
      refine own_mono ?_
      rw [p1, p2]
      exact Int.mul_le_mul_of_nonpos_left hneg (by omega)
    rw [compare_ite, if_neg (by omega)]
    split <;> exact fun z => by cases z
end OwnLP
section OwnLp
variable {p : Program} {l : Launch} {e : Env} {R : Room} {s : State} {m : MethodId} {args : Array Value} {below : List Frame} {meth : Method} {c : Code} {T : State} {locs : List Loc} {cells slots : Nat} {Z : State} {a0 : Array Value} {h h' : Heap}
theorem own_cast {Q : Option Value → Heap → List Loc → Prop} {k n : Nat} {t t' : State} (q : t = t') (G : own_Go p e below s Q k n t) : own_Go p e below s Q k n t' := q ▸ G
theorem own_via {Q : Option Value → Heap → List Loc → Prop} {k n : Nat} {t t' : State} (A : own_Go p e below s Q k n t') (B : own_Go p e below s Q k n t' → own_Go p e below s Q k n t) : own_Go p e below s Q k n t := B A
theorem own_dsub (X : Stand p l e R s m args below meth c T locs cells slots) (hx : p.tables.exec = Jvm.exec) {g : JFrame} (hg : g.method = m) {x y : UInt64} {rest : List Value} (hd : decode c.code g.pc = .ok (.dsub, 1)) (hs : g.stack = .double y :: .double x :: rest) (hr : FP.dsub x y &&& 0x7fffffffffffffff ≤ 0x7ff0000000000000) :
    ∀ target, Steps p.tables e below (T.setTop { g with pc := g.pc + 1, stack := .double (FP.dsub x y) :: rest }) target → Steps p.tables e below (T.setTop g) target := fun target hrest => by
  subst hg
  jvm_step X.here [hx, hd, Op.dsub.wp_number (e := e) (s := T) (f := g) X.here.top hs hr]
  exact hrest
theorem own_daload {Q : Option Value → Heap → List Loc → Prop} {k n : Nat} (X : Stand p l e R s m args below meth c T locs cells slots) (hx : p.tables.exec = Jvm.exec) (hZ : Z.Warmed39 s.vm) (eT : T.heap = h) {a : Addr} {nn i : Nat} {F : Nat → Value} {x : UInt64} {z : Int32} (A : own_Ar Z h a .double nn F) (hz : z.toInt = (i : Int)) (hi : i < nn) (hF : F i = .double x)
    {pc pc' : Nat} {Ls : Array Slot} {rest : List Value} (hd : decode c.code pc = .ok (.daload, 1)) (hpc : pc + 1 = pc') (go : own_Go p e below s Q k n (T.setTop (mkF m pc' Ls (.double x :: rest)))) : own_Go p e below s Q k n (T.setTop (mkF m pc Ls (.int z :: .ref a :: rest))) := by
  subst hpc
  obtain ⟨-, c, A, r, r2⟩ := A
  obtain ⟨q1, q2⟩ := own_inb r hz hi
  exact own_go (X.daload hx (j := z) (v := .double x) (by rw [eT]; exact A.1) (State.isArrayOf_alike hZ.alike A.2.1) A.2.2 q1 (by rw [q2, r2 i hi, hF]) (g := mkF m pc Ls (.int z :: .ref a :: rest)) rfl rfl hd) go
theorem own_baload {Q : Option Value → Heap → List Loc → Prop} {k n : Nat} (X : Stand p l e R s m args below meth c T locs cells slots) (hx : p.tables.exec = Jvm.exec) (hZ : Z.Warmed39 s.vm) (eT : T.heap = h) {a : Addr} {nn i : Nat} {F : Nat → Value} {x : Int32} {z : Int32} (A : own_Ar Z h a .boolean nn F) (hz : z.toInt = (i : Int)) (hi : i < nn) (hF : F i = .int x)
    {pc pc' : Nat} {Ls : Array Slot} {rest : List Value} (hd : decode c.code pc = .ok (.baload, 1)) (hpc : pc + 1 = pc') (go : own_Go p e below s Q k n (T.setTop (mkF m pc' Ls (.int x :: rest)))) : own_Go p e below s Q k n (T.setTop (mkF m pc Ls (.int z :: .ref a :: rest))) := by
  subst hpc
  obtain ⟨-, c, A, r, r2⟩ := A
  obtain ⟨q1, q2⟩ := own_inb r hz hi
  exact own_go (X.baloadBooleans hx (j := z) (v := .int x) (by rw [eT]; exact A.1) (State.isArrayOf_alike hZ.alike A.2.1) A.2.2 q1 (by rw [q2, r2 i hi, hF]) (g := mkF m pc Ls (.int z :: .ref a :: rest)) rfl rfl hd) go
theorem own_dastore {Q : Option Value → Heap → List Loc → Prop} {k n : Nat} (X : Stand p l e R s m args below meth c T locs cells slots) (hx : p.tables.exec = Jvm.exec) (hZ : Z.Warmed39 s.vm) (eT : T.heap = h) {a : Addr} {nn i : Nat} {F : Nat → Value} {x : UInt64} {z : Int32} (A : own_Ar Z h a .double nn F) (hz : z.toInt = (i : Int)) (hi : i < nn)
    {pc pc' : Nat} {Ls : Array Slot} {rest : List Value} (hd : decode c.code pc = .ok (.dastore, 1)) (hpc : pc + 1 = pc') (go : ∀ T' h', Stand p l e R s m args below meth c T' (locs ++ [⟨a, i⟩]) cells slots → T'.heap = h' → Wr h h' a i (.double x) → own_Ar Z h' a .double nn (fun j => if j = i then .double x else F j) → own_Go p e below s Q k n (T'.setTop (mkF m pc' Ls rest))) : own_Go p e below s Q k n (T.setTop (mkF m pc Ls (.double x :: .int z :: .ref a :: rest))) := by
  subst hpc
  have A' := A
  obtain ⟨-, cl, A, r, r2⟩ := A
  obtain ⟨q1, q2⟩ := own_inb r hz hi
  obtain ⟨X', st⟩ := X.dastore hx (j := z) (x := x) (by rw [eT]; exact A.1) (State.isArrayOf_alike hZ.alike A.2.1) A.2.2 q1 (g := mkF m pc Ls (.double x :: .int z :: .ref a :: rest)) rfl rfl hd
  have W' : Wr h (T.setCell a (cl.setSlot z.toNatClampNeg (.double x))).heap a z.toNatClampNeg (.double x) := ⟨cl, A.1, A.plain, Nat.lt_of_not_le fun q => q1 (Or.inr q), by rw [← eT]; rfl⟩
  rw [q2] at X' W' st
  exact own_go st (go _ _ X' rfl W' (A'.set W'))
theorem own_bastore {Q : Option Value → Heap → List Loc → Prop} {k n : Nat} (X : Stand p l e R s m args below meth c T locs cells slots) (hx : p.tables.exec = Jvm.exec) (hZ : Z.Warmed39 s.vm) (eT : T.heap = h) {a : Addr} {nn i : Nat} {F : Nat → Value} {x : Int32} {z : Int32} (A : own_Ar Z h a .boolean nn F) (h01 : x = 0 ∨ x = 1) (hz : z.toInt = (i : Int)) (hi : i < nn)
    {pc pc' : Nat} {Ls : Array Slot} {rest : List Value} (hd : decode c.code pc = .ok (.bastore, 1)) (hpc : pc + 1 = pc') (go : ∀ T' h', Stand p l e R s m args below meth c T' (locs ++ [⟨a, i⟩]) cells slots → T'.heap = h' → Wr h h' a i (.int x) → own_Ar Z h' a .boolean nn (fun j => if j = i then .int x else F j) → own_Go p e below s Q k n (T'.setTop (mkF m pc' Ls rest))) : own_Go p e below s Q k n (T.setTop (mkF m pc Ls (.int x :: .int z :: .ref a :: rest))) := by
  subst hpc
  have A' := A
  obtain ⟨-, cl, A, r, r2⟩ := A
  obtain ⟨q1, q2⟩ := own_inb r hz hi
  obtain ⟨T', h', X', e', W', st⟩ := stZ X hx hZ eT A (j := z) (x := x) q1 (g := mkF m pc Ls (.int x :: .int z :: .ref a :: rest)) rfl rfl hd
  have en : nar .boolean x = x := by rcases h01 with rfl | rfl <;> rfl
  rw [q2] at X' W'
  rw [en] at W'
  exact own_go st (go T' h' X' e' W' (A'.set W'))
/-- every field of the class C stands in the object a -/
def own_Fs (Z : State) (a0 : Array Value) (h : Heap) (a : Addr) (C : String) : Prop := ∀ (n d : String) (ty : FieldType), Laid Z a0 C C n d → parseFieldDescriptor d = some ty → ∃ v, Fld Z h a C n d v
theorem own_Fs.ext {a : Addr} {C : String} (F : own_Fs Z a0 h a C) (E : Ext h h') : own_Fs Z a0 h' a C := fun _ _ _ L q => by
  obtain ⟨v, r⟩ := F _ _ _ L q
  exact ⟨v, r.ext E⟩
theorem own_Fld_keep {a : Addr} {C n d : String} {v : Value} {ws : List Addr} (F : Fld Z h a C n d v) (K : Keep h h' ws) : ∃ w, Fld Z h' a C n d w := by
  obtain ⟨cell, cf, k, i, f, h1, h2, h3, h4, h5, h6, h7⟩ := F
  obtain ⟨c', q1, q2, q3, q4⟩ := K.2.2 a cell h1
  have hl : f.slot < c'.slots.size := by rw [q4]; exact (Array.getElem?_eq_some_iff.mp h7).1
  exact ⟨c'.slots[f.slot], c', cf, k, i, f, q1, h2, h3, by rw [q3]; exact h4, by rw [q3]; exact h5, by rw [q2]; exact h6, Array.getElem?_eq_getElem hl⟩
theorem own_Fs.keep {a : Addr} {C : String} {ws : List Addr} (F : own_Fs Z a0 h a C) (K : Keep h h' ws) : own_Fs Z a0 h' a C := fun _ _ _ L q => by
  obtain ⟨v, r⟩ := F _ _ _ L q
  exact own_Fld_keep r K
theorem own_Fs.wr {a b : Addr} {C : String} {sl : Nat} {v : Value} (F : own_Fs Z a0 h a C) (W : Wr h h' b sl v) : own_Fs Z a0 h' a C := F.keep (Keep.of_wr W)
theorem own_oi_lt {o : Ordering} (q : o = .lt) : own_oi o < 0 := by subst q; decide
theorem own_oi_nlt {o : Ordering} (q : o ≠ .lt) : ¬ own_oi o < 0 := by cases o <;> first | exact absurd rfl q | decide
theorem own_oi_ngt {o : Ordering} (q : o ≠ .gt) : ¬ (0 : Int32) < own_oi o := by cases o <;> first | exact absurd rfl q | decide
open Jvm.FP.Core in
theorem own_finite {g : UInt64} (hf : DFin g) : (if Jvm.Free.Fl.relLe (FP.dcmp (g &&& 0x7fffffffffffffff) Jvm.Free.Fl.maxD) = true then (1 : Int32) else 0) = 1 := by
  have h := (le_max hf.notNaN).mpr hf
  have e : Jvm.Free.Fl.maxD = 9218868437227405311 := rfl
  rw [e]
  rcases h with h | h
  · rw [show FP.dcmp (g &&& 0x7fffffffffffffff) 9218868437227405311 = some .lt from h]; rfl
  · rw [show FP.dcmp (g &&& 0x7fffffffffffffff) 9218868437227405311 = some .eq from h]; rfl
/-- Double.isFinite of a finite number -/
theorem own_isFinite {Q : Option Value → Heap → List Loc → Prop} {k n : Nat} (X : Stand p l e R s m args below meth c T locs cells slots) (hx : p.tables.exec = Jvm.exec) (hZ : Z.Warmed39 s.vm) {own : String} {index : Nat}
    (hown : s.vm.findClass own = some m.cls) (w1 : (Cond.methodLink own index Jvm.Free.Fl.IsFinite.yN).before a0 Z = true) (w2 : (Cond.static Jvm.Free.Fl.IsFinite.yN).before a0 Z = true) (w3 : (Cond.initialized "java/lang/Double").before a0 Z = true) (w4 : (Cond.code Jvm.Free.Fl.IsFinite.yN Jvm.Free.Fl.IsFinite.yB 2 (some .boolean)).before a0 Z = true)
    (v1 : (Cond.methodLink "java/lang/Double" 38 Jvm.Free.Fl.Abs.absDN).before a0 Z = true) (v2 : (Cond.static Jvm.Free.Fl.Abs.absDN).before a0 Z = true) (v3 : (Cond.initialized "java/lang/Math").before a0 Z = true) (v4 : (Cond.code Jvm.Free.Fl.Abs.absDN Jvm.Free.Fl.Abs.absDCode 2 (some .double)).before a0 Z = true) (v5 : (Cond.constantDouble "java/lang/Double" 111 Jvm.Free.Fl.maxD).before a0 Z = true)
    (eT : T.heap = h) {g : UInt64} (hg : Jvm.FP.Core.DFin g) (W : Nat) (hf : 2 ≤ R.frames) (hl : W + 26 ≤ R.locals) (hc : cells ≤ R.cells) (hsl : slots ≤ R.slots)
    {pc pc' : Nat} {Ls : Array Slot} {rest : List Value} (hsize : Ls.size = c.maxLocals) (hW : (rest.map fun v => v.category).sum ≤ W) (hd : decode c.code pc = .ok (.invokestatic index, 3)) (hpc : pc + 3 = pc')
    (go : ∀ (T' : State), Stand p l e R s m args below meth c T' locs cells slots → T'.heap = h → own_Go p e below s Q k n (T'.setTop (mkF m pc' Ls (.int 1 :: rest)))) : own_Go p e below s Q k n (T.setTop (mkF m pc Ls (.double g :: rest))) := by
  subst hpc
  have hN : Jvm.Free.Fl.NoNaN64 g := own_num hg.ne_nan
  have htab : Jvm.Free.Fl.IsFinite.tab.before args s = true := by
    simp only [Jvm.Free.Fl.IsFinite.tab, Cond.before_and, Bool.and_eq_true]
    exact ⟨mvT hZ w4, mvT hZ v1, mvT hZ v2, mvT hZ v3, mvT hZ v4, mvT hZ v5⟩
  obtain ⟨v, _, ⟨T', L', k', n'⟩, -, X', ⟨⟨q1, q2, q3, q4⟩, hv⟩, stp⟩ := Jvm.LawKit.callS X hx hown (mvT hZ w1) (mvT hZ w2) (mvT hZ w3) (mvT hZ w4) (by decide) (Jvm.Free.Fl.IsFinite.pays (W := W) (by show 1 + 1 ≤ _; exact hf) (by show W + (2 + 11) + 13 ≤ _; exact hl) htab (mvT hZ w3)) (g := mkF m pc Ls (.double g :: rest)) rfl hsize (argsL := [.double g]) (rest := rest) (lenOf (ps := [.double]) (r := some .boolean) (by decide +kernel) rfl) rfl (by show 2 * 0 + _ ≤ _; omega) hd (fun _ _ => ⟨hc, hsl, g, rfl, hN⟩)
  dsimp only [Pt.U, Pt.locs, Pt.cells, Pt.slots] at X' q1 q2 q3 q4 stp hv
  subst q2 q3 q4
  have hv := hv g ⟨rfl, hN⟩
  rw [own_finite hg] at hv
  subst hv
  exact own_go stp (go T' X' (q1.trans eT))
end OwnLp
section OwnLp2
variable {p : Program} {l : Launch} {e : Env} {R : Room} {s : State} {m : MethodId} {args : Array Value} {below : List Frame} {meth : Method} {c : Code} {T : State} {locs : List Loc} {cells slots : Nat} {Z : State} {a0 : Array Value} {h h' : Heap}
/-- the array b holds arrays of the class C -/
def own_St (Z : State) (h : Heap) (b : Addr) (C : String) : Prop := ∃ (cl : Cell) (ty : FieldType), h[b]? = some cl ∧ OvrA Z cl.cls ty C
theorem own_St.ext {b : Addr} {C : String} (F : own_St Z h b C) (E : Ext h h') : own_St Z h' b C := by
  obtain ⟨cl, ty, q, r⟩ := F
  exact ⟨cl, ty, E.2 _ _ q, r⟩
theorem own_St.keep {b : Addr} {C : String} {ws : List Addr} (F : own_St Z h b C) (K : Keep h h' ws) : own_St Z h' b C := by
  obtain ⟨cl, ty, q, r⟩ := F
  obtain ⟨c', q1, q2, -⟩ := K.2.2 b cl q
  exact ⟨c', ty, q1, by rw [q2]; exact r⟩
theorem own_St.wr {a b : Addr} {C : String} {sl : Nat} {v : Value} (F : own_St Z h b C) (W : Wr h h' a sl v) : own_St Z h' b C := F.keep (Keep.of_wr W)
theorem own_St.sto {b y : Addr} {C : String} {ty : FieldType} {nn : Nat} {F : Nat → Value} (S : own_St Z h b C) (A : own_Ar Z h b ty nn F) (I : Ins Z h y C true) : Sto Z h b (.ref y) := by
  obtain ⟨cl, t, q, r⟩ := S
  obtain ⟨-, c2, A, -⟩ := A
  cases q.symm.trans A.1
  exact Sto.ofVA A rfl r I
theorem own_clone0 (X : Stand p l e R s m args below meth c T locs cells slots) (hx : p.tables.exec = Jvm.exec) (hZ : Z.Warmed39 s.vm) {own ad : String} {index : Nat} (hown : s.vm.findClass own = some m.cls)
    (w1 : (Cond.methodLink own index ⟨ad, "clone", "()Ljava/lang/Object;"⟩).before a0 Z = true) (w2 : (Cond.sameMethod ad "java/lang/Object" "clone" "()Ljava/lang/Object;").before a0 Z = true) (w3 : (Cond.native ⟨"java/lang/Object", "clone", "()Ljava/lang/Object;"⟩).before a0 Z = true)
    (w4 : (Cond.instanceMethod ⟨"java/lang/Object", "clone", "()Ljava/lang/Object;"⟩).before a0 Z = true) (w5 : (Cond.selects ad ⟨ad, "clone", "()Ljava/lang/Object;"⟩ ⟨"java/lang/Object", "clone", "()Ljava/lang/Object;"⟩).before a0 Z = true) (w6 : (Cond.castable ad "java/lang/Cloneable").before a0 Z = true)
    (eT : T.heap = h) {a : Addr} {ty : FieldType} {F : Nat → Value} (A : own_Ar Z h a ty 0 F) (E : Exa Z h a ad) {g : JFrame} (hg : g.method = m) (hsize : g.locals.size = c.maxLocals) {rest : List Value} (hs : g.stack = .ref a :: rest) (hd : decode c.code g.pc = .ok (.invokevirtual index, 3))
    (hf : 1 ≤ R.frames) {W : Nat} (hW : 2 * g.monitorRoom + (rest.map fun v => v.category).sum ≤ W) (hl : W + 14 ≤ R.locals) (hc : cells + 1 ≤ R.cells) (hsl : slots + 0 ≤ R.slots) :
    ∃ T' h', Stand p l e R s m args below meth c T' locs (cells + 1) (slots + 0) ∧ T'.heap = h' ∧ Ext h h' ∧ Exa Z h' h.size ad ∧
      ∀ target, Steps p.tables e below (T'.setTop { g with pc := g.pc + 3, stack := .ref h.size :: rest }) target → Steps p.tables e below (T.setTop g) target := by
  obtain ⟨-, cl, A, hz, -⟩ := A
  obtain ⟨T', h', X', e', E', -, Ex, st⟩ := cloneA X hx hZ hown w1 w2 w3 w4 w5 w6 eT A E (fun i v hv => by
    have := (Array.getElem?_eq_some_iff.mp hv).1
    omega) hg hsize hs hd hf hW hl (cap := 0) (by omega) hc hsl
  exact ⟨T', h', X', e', E', Ex, st⟩
def own_sel (z : Int32) (x y : UInt64) : UInt64 := if z = 0 then x else y
theorem own_sel0 {z : Int32} (x y : UInt64) (q : z = 0) : own_sel z x y = x := if_pos q
theorem own_sel1 {z : Int32} (x y : UInt64) (q : ¬ z = 0) : own_sel z x y = y := if_neg q
def own_z : Ordering → Int32
  | .lt => 1
  | _ => 0
theorem own_z_or (o : Ordering) : (o = .lt ∧ own_z o = 1) ∨ (o ≠ .lt ∧ own_z o = 0) := by cases o <;> simp [own_z]
theorem own_pick {O L U r : UInt64} {oc od : Ordering} (c1 : oc = .lt → od = .lt → own_E (FP.dmul O U) (FP.dmul O U)) (c2 : oc = .lt → od ≠ .lt → own_E (FP.dmul O L) (FP.dmul O U)) (c3 : oc ≠ .lt → od ≠ .lt ∧ own_E (FP.dmul O L) (FP.dmul O L))
    (hr : (od = .lt ∧ r = FP.dmul O U) ∨ (od ≠ .lt ∧ r = FP.dmul O L)) : own_E r (FP.dmul O (own_sel (own_z oc) L U)) := by
  rcases own_z_or oc with ⟨q, z⟩ | ⟨q, z⟩
  · rw [z, own_sel1 L U (by decide)]
    rcases hr with ⟨d, rfl⟩ | ⟨d, rfl⟩
    · exact c1 q d
    · exact c2 q d
  · rw [z, own_sel0 L U rfl]
    obtain ⟨d, k⟩ := c3 q
    rcases hr with ⟨d', rfl⟩ | ⟨-, rfl⟩
    · exact absurd d' d
    · exact k
end OwnLp2

theorem own_z01 (o : Ordering) : own_z o = 0 ∨ own_z o = 1 := by cases o <;> simp [own_z]
theorem d6_0 : decode prog_36_method_1_code 0 = .ok (.aload_n 0, 1) := by decide +kernel
theorem d6_1 : decode prog_36_method_1_code 1 = .ok (.invokespecial 1, 3) := by decide +kernel
theorem d6_4 : decode prog_36_method_1_code 4 = .ok (.aload_n 0, 1) := by decide +kernel
theorem d6_5 : decode prog_36_method_1_code 5 = .ok (.aload_n 1, 1) := by decide +kernel
theorem d6_6 : decode prog_36_method_1_code 6 = .ok (.arraylength, 1) := by decide +kernel
theorem d6_7 : decode prog_36_method_1_code 7 = .ok (.putfield 7, 3) := by decide +kernel
theorem d6_10 : decode prog_36_method_1_code 10 = .ok (.aload_n 0, 1) := by decide +kernel
theorem d6_11 : decode prog_36_method_1_code 11 = .ok (.aload_n 0, 1) := by decide +kernel
theorem d6_12 : decode prog_36_method_1_code 12 = .ok (.getfield 7, 3) := by decide +kernel
theorem d6_15 : decode prog_36_method_1_code 15 = .ok (.newarray .int, 2) := by decide +kernel
theorem d6_17 : decode prog_36_method_1_code 17 = .ok (.putfield 13, 3) := by decide +kernel
theorem d6_20 : decode prog_36_method_1_code 20 = .ok (.aload_n 0, 1) := by decide +kernel
theorem d6_21 : decode prog_36_method_1_code 21 = .ok (.aload_n 0, 1) := by decide +kernel
theorem d6_22 : decode prog_36_method_1_code 22 = .ok (.getfield 7, 3) := by decide +kernel
theorem d6_25 : decode prog_36_method_1_code 25 = .ok (.newarray .int, 2) := by decide +kernel
theorem d6_27 : decode prog_36_method_1_code 27 = .ok (.putfield 17, 3) := by decide +kernel
theorem d6_30 : decode prog_36_method_1_code 30 = .ok (.aload_n 0, 1) := by decide +kernel
theorem d6_31 : decode prog_36_method_1_code 31 = .ok (.aload_n 0, 1) := by decide +kernel
theorem d6_32 : decode prog_36_method_1_code 32 = .ok (.getfield 7, 3) := by decide +kernel
theorem d6_35 : decode prog_36_method_1_code 35 = .ok (.anewarray 20, 3) := by decide +kernel
theorem d6_38 : decode prog_36_method_1_code 38 = .ok (.putfield 21, 3) := by decide +kernel
theorem d6_41 : decode prog_36_method_1_code 41 = .ok (.aload_n 0, 1) := by decide +kernel
theorem d6_42 : decode prog_36_method_1_code 42 = .ok (.aload_n 0, 1) := by decide +kernel
theorem d6_43 : decode prog_36_method_1_code 43 = .ok (.getfield 7, 3) := by decide +kernel
theorem d6_46 : decode prog_36_method_1_code 46 = .ok (.anewarray 25, 3) := by decide +kernel
theorem d6_49 : decode prog_36_method_1_code 49 = .ok (.putfield 27, 3) := by decide +kernel
theorem d6_52 : decode prog_36_method_1_code 52 = .ok (.aload_n 0, 1) := by decide +kernel
theorem d6_53 : decode prog_36_method_1_code 53 = .ok (.aload_n 0, 1) := by decide +kernel
theorem d6_54 : decode prog_36_method_1_code 54 = .ok (.getfield 7, 3) := by decide +kernel
theorem d6_57 : decode prog_36_method_1_code 57 = .ok (.anewarray 20, 3) := by decide +kernel
theorem d6_60 : decode prog_36_method_1_code 60 = .ok (.putfield 31, 3) := by decide +kernel
theorem d6_63 : decode prog_36_method_1_code 63 = .ok (.aload_n 0, 1) := by decide +kernel
theorem d6_64 : decode prog_36_method_1_code 64 = .ok (.aload_n 0, 1) := by decide +kernel
theorem d6_65 : decode prog_36_method_1_code 65 = .ok (.getfield 7, 3) := by decide +kernel
theorem d6_68 : decode prog_36_method_1_code 68 = .ok (.anewarray 25, 3) := by decide +kernel
theorem d6_71 : decode prog_36_method_1_code 71 = .ok (.putfield 34, 3) := by decide +kernel
theorem d6_74 : decode prog_36_method_1_code 74 = .ok (.aload_n 0, 1) := by decide +kernel
theorem d6_75 : decode prog_36_method_1_code 75 = .ok (.aload_n 0, 1) := by decide +kernel
theorem d6_76 : decode prog_36_method_1_code 76 = .ok (.getfield 7, 3) := by decide +kernel
theorem d6_79 : decode prog_36_method_1_code 79 = .ok (.newarray .double, 2) := by decide +kernel
theorem d6_81 : decode prog_36_method_1_code 81 = .ok (.putfield 37, 3) := by decide +kernel
theorem d6_84 : decode prog_36_method_1_code 84 = .ok (.aload_n 0, 1) := by decide +kernel
theorem d6_85 : decode prog_36_method_1_code 85 = .ok (.getfield 7, 3) := by decide +kernel
theorem d6_88 : decode prog_36_method_1_code 88 = .ok (.anewarray 20, 3) := by decide +kernel
theorem d6_91 : decode prog_36_method_1_code 91 = .ok (.astore_n 2, 1) := by decide +kernel
theorem d6_92 : decode prog_36_method_1_code 92 = .ok (.aload_n 0, 1) := by decide +kernel
theorem d6_93 : decode prog_36_method_1_code 93 = .ok (.getfield 7, 3) := by decide +kernel
theorem d6_96 : decode prog_36_method_1_code 96 = .ok (.newarray .int, 2) := by decide +kernel
theorem d6_98 : decode prog_36_method_1_code 98 = .ok (.astore_n 3, 1) := by decide +kernel
theorem d6_99 : decode prog_36_method_1_code 99 = .ok (.aload_n 0, 1) := by decide +kernel
theorem d6_100 : decode prog_36_method_1_code 100 = .ok (.getfield 7, 3) := by decide +kernel
theorem d6_103 : decode prog_36_method_1_code 103 = .ok (.anewarray 20, 3) := by decide +kernel
theorem d6_106 : decode prog_36_method_1_code 106 = .ok (.astore 4, 2) := by decide +kernel
theorem d6_108 : decode prog_36_method_1_code 108 = .ok (.aload_n 0, 1) := by decide +kernel
theorem d6_109 : decode prog_36_method_1_code 109 = .ok (.getfield 7, 3) := by decide +kernel
theorem d6_112 : decode prog_36_method_1_code 112 = .ok (.newarray .int, 2) := by decide +kernel
theorem d6_114 : decode prog_36_method_1_code 114 = .ok (.astore 5, 2) := by decide +kernel
theorem d6_116 : decode prog_36_method_1_code 116 = .ok (.iconst 0, 1) := by decide +kernel
theorem d6_117 : decode prog_36_method_1_code 117 = .ok (.istore 6, 2) := by decide +kernel
theorem d6_119 : decode prog_36_method_1_code 119 = .ok (.iload 6, 2) := by decide +kernel
theorem d6_121 : decode prog_36_method_1_code 121 = .ok (.aload_n 0, 1) := by decide +kernel
theorem d6_122 : decode prog_36_method_1_code 122 = .ok (.getfield 7, 3) := by decide +kernel
theorem d6_125 : decode prog_36_method_1_code 125 = .ok (.if_icmp .ge 16, 3) := by decide +kernel
theorem d6_141 : decode prog_36_method_1_code 141 = .ok (.iconst 0, 1) := by decide +kernel
theorem d6_142 : decode prog_36_method_1_code 142 = .ok (.istore 6, 2) := by decide +kernel
theorem d6_144 : decode prog_36_method_1_code 144 = .ok (.iload 6, 2) := by decide +kernel
theorem d6_146 : decode prog_36_method_1_code 146 = .ok (.aload_n 0, 1) := by decide +kernel
theorem d6_147 : decode prog_36_method_1_code 147 = .ok (.getfield 7, 3) := by decide +kernel
theorem d6_150 : decode prog_36_method_1_code 150 = .ok (.if_icmp .ge 17, 3) := by decide +kernel
theorem d6_167 : decode prog_36_method_1_code 167 = .ok (.iconst 0, 1) := by decide +kernel
theorem d6_168 : decode prog_36_method_1_code 168 = .ok (.istore 6, 2) := by decide +kernel
theorem d6_170 : decode prog_36_method_1_code 170 = .ok (.iload 6, 2) := by decide +kernel
theorem d6_172 : decode prog_36_method_1_code 172 = .ok (.aload_n 0, 1) := by decide +kernel
theorem d6_173 : decode prog_36_method_1_code 173 = .ok (.getfield 7, 3) := by decide +kernel
theorem d6_176 : decode prog_36_method_1_code 176 = .ok (.if_icmp .ge 86, 3) := by decide +kernel
theorem d6_262 : decode prog_36_method_1_code 262 = .ok (.aload_n 0, 1) := by decide +kernel
theorem d6_263 : decode prog_36_method_1_code 263 = .ok (.getfield 7, 3) := by decide +kernel
theorem d6_266 : decode prog_36_method_1_code 266 = .ok (.newarray .boolean, 2) := by decide +kernel
theorem d6_268 : decode prog_36_method_1_code 268 = .ok (.astore 6, 2) := by decide +kernel
theorem d6_270 : decode prog_36_method_1_code 270 = .ok (.aload_n 0, 1) := by decide +kernel
theorem d6_271 : decode prog_36_method_1_code 271 = .ok (.getfield 7, 3) := by decide +kernel
theorem d6_274 : decode prog_36_method_1_code 274 = .ok (.newarray .boolean, 2) := by decide +kernel
theorem d6_276 : decode prog_36_method_1_code 276 = .ok (.astore 7, 2) := by decide +kernel
theorem d6_278 : decode prog_36_method_1_code 278 = .ok (.aload 5, 2) := by decide +kernel
theorem d6_280 : decode prog_36_method_1_code 280 = .ok (.invokevirtual 44, 3) := by decide +kernel
theorem d6_283 : decode prog_36_method_1_code 283 = .ok (.checkcast 20, 3) := by decide +kernel
theorem d6_286 : decode prog_36_method_1_code 286 = .ok (.astore 8, 2) := by decide +kernel
theorem d6_288 : decode prog_36_method_1_code 288 = .ok (.aload_n 0, 1) := by decide +kernel
theorem d6_289 : decode prog_36_method_1_code 289 = .ok (.getfield 7, 3) := by decide +kernel
theorem d6_292 : decode prog_36_method_1_code 292 = .ok (.aload_n 0, 1) := by decide +kernel
theorem d6_293 : decode prog_36_method_1_code 293 = .ok (.getfield 7, 3) := by decide +kernel
theorem d6_296 : decode prog_36_method_1_code 296 = .ok (.multianewarray 48 2, 4) := by decide +kernel
theorem d6_300 : decode prog_36_method_1_code 300 = .ok (.astore 9, 2) := by decide +kernel
theorem d6_302 : decode prog_36_method_1_code 302 = .ok (.iconst 0, 1) := by decide +kernel
theorem d6_303 : decode prog_36_method_1_code 303 = .ok (.istore 10, 2) := by decide +kernel
theorem d6_305 : decode prog_36_method_1_code 305 = .ok (.iload 10, 2) := by decide +kernel
theorem d6_307 : decode prog_36_method_1_code 307 = .ok (.aload_n 0, 1) := by decide +kernel
theorem d6_308 : decode prog_36_method_1_code 308 = .ok (.getfield 7, 3) := by decide +kernel
theorem d6_311 : decode prog_36_method_1_code 311 = .ok (.if_icmp .ge 52, 3) := by decide +kernel
theorem d6_363 : decode prog_36_method_1_code 363 = .ok (.iconst 0, 1) := by decide +kernel
theorem d6_364 : decode prog_36_method_1_code 364 = .ok (.istore 10, 2) := by decide +kernel
theorem d6_366 : decode prog_36_method_1_code 366 = .ok (.iload 10, 2) := by decide +kernel
theorem d6_368 : decode prog_36_method_1_code 368 = .ok (.aload_n 0, 1) := by decide +kernel
theorem d6_369 : decode prog_36_method_1_code 369 = .ok (.getfield 7, 3) := by decide +kernel
theorem d6_372 : decode prog_36_method_1_code 372 = .ok (.if_icmp .ge 514, 3) := by decide +kernel
theorem d6_886 : decode prog_36_method_1_code 886 = .ok (.return_, 1) := by decide +kernel
def Q6 (Z : State) (o : Addr) (qa : Addr) (Fq : Nat → Value) (h0 : Heap) (n0 : Nat) (v : Option Value) (h : Heap) (L : List Loc) : Prop := v = none ∧ Fr n0 L ∧ Keep h0 h [o]
theorem own_rep : (Array.replicate 26 Slot.unset) = #[.unset, .unset, .unset, .unset, .unset, .unset, .unset, .unset, .unset, .unset, .unset, .unset, .unset, .unset, .unset, .unset, .unset, .unset, .unset, .unset, .unset, .unset, .unset, .unset, .unset, .unset] := by
  rw [← List.toArray_replicate]
  rfl
theorem own_ef6 (x0 x1 : Addr) : argsToLocals #[(.ref x0), (.ref x1)] 28 = #[.val (.ref x0), .val (.ref x1), .unset, .unset, .unset, .unset, .unset, .unset, .unset, .unset, .unset, .unset, .unset, .unset, .unset, .unset, .unset, .unset, .unset, .unset, .unset, .unset, .unset, .unset, .unset, .unset, .unset, .unset] := by
  have h : argsToLocals #[(.ref x0), (.ref x1)] 28 = #[.val (.ref x0), .val (.ref x1)] ++ Array.replicate 26 Slot.unset := by simp [argsToLocals, Value.category]
  rw [h, own_rep]
  simp only [List.append_toArray, List.cons_append, List.nil_append]
theorem ef_6 (m : MethodId) (x0 x1 : Addr) : entryFrame m #[(.ref x0), (.ref x1)] 28 = mkF m 0 #[.val (.ref x0), .val (.ref x1), .unset, .unset, .unset, .unset, .unset, .unset, .unset, .unset, .unset, .unset, .unset, .unset, .unset, .unset, .unset, .unset, .unset, .unset, .unset, .unset, .unset, .unset, .unset, .unset, .unset, .unset] [] := by
  rw [← own_ef6]; exact (Eq.refl (entryFrame m #[(.ref x0), (.ref x1)] 28))
set_option maxRecDepth 65536 in
set_option maxHeartbeats 40000000 in
theorem rm6 (l : Launch) (Z : State) (a0 : Array Value) (hw : ∀ d ∈ tables_1, d.before a0 Z = true) (ws : List Jvm.Cond) (o : Addr) (qa : Addr) (Fq : Nat → Value) (h0 : Heap) (n0 : Nat) (Z0 : n0 ≤ h0.size) (Eo : Exa Z h0 o "com/example/slotwright/slotwright/SparseLu") (Po : own_Fs Z a0 h0 o "com/example/slotwright/slotwright/SparseLu") (Aq : own_Ar Z h0 qa (.array .double) 0 Fq) (nqo : qa ≠ o) (go : n0 ≤ o) :
    own_Met l Z (⟨"com/example/slotwright/slotwright/SparseLu", "<init>", "([[D)V"⟩ : MethodName) prog_36_method_1_code 28 none ({ frames := 1, cells := 15, slots := 0, locals := 14 } : Room) ws #[(.ref o), (.ref qa)] h0 (Q6 Z o qa Fq h0 n0) := by
  refine own_enter (plainFor_of_name (by first | (simp [plainName, overriddenIn]; done) | decide +kernel)) ?_
  intro p e s m below meth c s₁ hx hby hml hown hnm hlk hret hZ X0 e0
  have N0 := Fr.nil n0
  refine own_go (fun _ q => castTop (ef_6 m o qa) q) ?_
  show own_Go _ _ _ _ _ _ _ (s₁.setTop (mkF m 0 #[.val (.ref o), .val (.ref qa), .unset, .unset, .unset, .unset, .unset, .unset, .unset, .unset, .unset, .unset, .unset, .unset, .unset, .unset, .unset, .unset, .unset, .unset, .unset, .unset, .unset, .unset, .unset, .unset, .unset, .unset] []))
  refine own_go (fun _ q => XS.aloadN X0.here hx rfl (hb hby d6_0) rfl rfl q) ?_
  show own_Go _ _ _ _ _ _ _ (s₁.setTop (mkF m 1 #[.val (.ref o), .val (.ref qa), .unset, .unset, .unset, .unset, .unset, .unset, .unset, .unset, .unset, .unset, .unset, .unset, .unset, .unset, .unset, .unset, .unset, .unset, .unset, .unset, .unset, .unset, .unset, .unset, .unset, .unset] [(.ref o)]))
  obtain ⟨T1, X1, e1, st1⟩ := initO X0 hx hZ hown (hw _ (List.mem_of_getElem? (i := 141) rfl)) (hw _ (List.mem_of_getElem? (i := 9) rfl)) (hw _ (List.mem_of_getElem? (i := 10) rfl)) e0 (g := (mkF m 1 #[.val (.ref o), .val (.ref qa), .unset, .unset, .unset, .unset, .unset, .unset, .unset, .unset, .unset, .unset, .unset, .unset, .unset, .unset, .unset, .unset, .unset, .unset, .unset, .unset, .unset, .unset, .unset, .unset, .unset, .unset] [(.ref o)])) rfl (by rw [hml]; rfl) rfl (hb hby d6_1) (by decide) (W := 0) (by show 2 * 0 + _ ≤ _; exact Nat.le_of_eq rfl) (by decide)
  refine own_go st1 ?_
  show own_Go _ _ _ _ _ _ _ (T1.setTop (mkF m 4 #[.val (.ref o), .val (.ref qa), .unset, .unset, .unset, .unset, .unset, .unset, .unset, .unset, .unset, .unset, .unset, .unset, .unset, .unset, .unset, .unset, .unset, .unset, .unset, .unset, .unset, .unset, .unset, .unset, .unset, .unset] []))
  refine own_go (fun _ q => XS.aloadN X1.here hx rfl (hb hby d6_4) rfl rfl q) ?_
  show own_Go _ _ _ _ _ _ _ (T1.setTop (mkF m 5 #[.val (.ref o), .val (.ref qa), .unset, .unset, .unset, .unset, .unset, .unset, .unset, .unset, .unset, .unset, .unset, .unset, .unset, .unset, .unset, .unset, .unset, .unset, .unset, .unset, .unset, .unset, .unset, .unset, .unset, .unset] [(.ref o)]))
  refine own_go (fun _ q => XS.aloadN X1.here hx rfl (hb hby d6_5) rfl rfl q) ?_
  show own_Go _ _ _ _ _ _ _ (T1.setTop (mkF m 6 #[.val (.ref o), .val (.ref qa), .unset, .unset, .unset, .unset, .unset, .unset, .unset, .unset, .unset, .unset, .unset, .unset, .unset, .unset, .unset, .unset, .unset, .unset, .unset, .unset, .unset, .unset, .unset, .unset, .unset, .unset] [(.ref qa), (.ref o)]))
  refine own_length (z := (0 : Int32)) X1 hx hZ e1 Aq rfl (hb hby d6_6) rfl ?_
  show own_Go _ _ _ _ _ _ _ (T1.setTop (mkF m 7 #[.val (.ref o), .val (.ref qa), .unset, .unset, .unset, .unset, .unset, .unset, .unset, .unset, .unset, .unset, .unset, .unset, .unset, .unset, .unset, .unset, .unset, .unset, .unset, .unset, .unset, .unset, .unset, .unset, .unset, .unset] [(.int (0 : Int32)), (.ref o)]))
  obtain ⟨pv2, pf2⟩ := Po "size" "I" .int (Or.inr (hw _ (List.mem_of_getElem? (i := 143) rfl))) (by decide)
  obtain ⟨T2, h2, X2, e2, W2, st2⟩ := putF X1 hx hZ hown (host := "") (Or.inl (hw _ (List.mem_of_getElem? (i := 142) rfl))) Via.refl e1 pf2 Eo (Or.inr ⟨(hw _ (List.mem_of_getElem? (i := 143) rfl)), rfl, hnm⟩) (hw _ (List.mem_of_getElem? (i := 136) rfl)) (ty := .int) (by decide) rfl rfl (g := (mkF m 7 #[.val (.ref o), .val (.ref qa), .unset, .unset, .unset, .unset, .unset, .unset, .unset, .unset, .unset, .unset, .unset, .unset, .unset, .unset, .unset, .unset, .unset, .unset, .unset, .unset, .unset, .unset, .unset, .unset, .unset, .unset] [(.int (0 : Int32)), (.ref o)])) rfl rfl (hb hby d6_7)
  have N2 := Fr.snoc X2 N0 go
  have Fw2 := pf2.same W2
  have Z2 : n0 ≤ h2.size := by rw [W2.size]; exact Z0
  refine own_go st2 ?_
  show own_Go _ _ _ _ _ _ _ (T2.setTop (mkF m 10 #[.val (.ref o), .val (.ref qa), .unset, .unset, .unset, .unset, .unset, .unset, .unset, .unset, .unset, .unset, .unset, .unset, .unset, .unset, .unset, .unset, .unset, .unset, .unset, .unset, .unset, .unset, .unset, .unset, .unset, .unset] []))
  refine own_go (fun _ q => XS.aloadN X2.here hx rfl (hb hby d6_10) rfl rfl q) ?_
  show own_Go _ _ _ _ _ _ _ (T2.setTop (mkF m 11 #[.val (.ref o), .val (.ref qa), .unset, .unset, .unset, .unset, .unset, .unset, .unset, .unset, .unset, .unset, .unset, .unset, .unset, .unset, .unset, .unset, .unset, .unset, .unset, .unset, .unset, .unset, .unset, .unset, .unset, .unset] [(.ref o)]))
  refine own_go (fun _ q => XS.aloadN X2.here hx rfl (hb hby d6_11) rfl rfl q) ?_
  show own_Go _ _ _ _ _ _ _ (T2.setTop (mkF m 12 #[.val (.ref o), .val (.ref qa), .unset, .unset, .unset, .unset, .unset, .unset, .unset, .unset, .unset, .unset, .unset, .unset, .unset, .unset, .unset, .unset, .unset, .unset, .unset, .unset, .unset, .unset, .unset, .unset, .unset, .unset] [(.ref o), (.ref o)]))
  obtain ⟨T3, X3, e3, st3⟩ := getF X2 hx hZ hown (host := "") (Or.inl (hw _ (List.mem_of_getElem? (i := 142) rfl))) Via.refl e2 Fw2 (g := (mkF m 12 #[.val (.ref o), .val (.ref qa), .unset, .unset, .unset, .unset, .unset, .unset, .unset, .unset, .unset, .unset, .unset, .unset, .unset, .unset, .unset, .unset, .unset, .unset, .unset, .unset, .unset, .unset, .unset, .unset, .unset, .unset] [(.ref o), (.ref o)])) rfl rfl (hb hby d6_12)
  refine own_go st3 ?_
  show own_Go _ _ _ _ _ _ _ (T3.setTop (mkF m 15 #[.val (.ref o), .val (.ref qa), .unset, .unset, .unset, .unset, .unset, .unset, .unset, .unset, .unset, .unset, .unset, .unset, .unset, .unset, .unset, .unset, .unset, .unset, .unset, .unset, .unset, .unset, .unset, .unset, .unset, .unset] [(.int (0 : Int32)), (.ref o)]))
  obtain ⟨T4, h4, k4, X4, e4, E4, Aw4, st4⟩ := newP X3 hx hZ (hw _ (List.mem_of_getElem? (i := 25) rfl)) e3 (g := (mkF m 15 #[.val (.ref o), .val (.ref qa), .unset, .unset, .unset, .unset, .unset, .unset, .unset, .unset, .unset, .unset, .unset, .unset, .unset, .unset, .unset, .unset, .unset, .unset, .unset, .unset, .unset, .unset, .unset, .unset, .unset, .unset] [(.int (0 : Int32)), (.ref o)])) rfl (hb hby d6_15) rfl (by decide) (cap := 0) (by decide) (by decide) (by decide) (by decide)
  obtain ⟨b4, g4⟩ : ∃ z, z = h2.size := ⟨_, rfl⟩
  rw [← g4] at Aw4 st4
  have G4 : n0 ≤ b4 := Nat.le_trans Z2 (Nat.le_of_eq g4.symm)
  have Z4 : n0 ≤ h4.size := Nat.le_trans Z2 E4.1
  refine own_go st4 ?_
  show own_Go _ _ _ _ _ _ _ (T4.setTop (mkF m 17 #[.val (.ref o), .val (.ref qa), .unset, .unset, .unset, .unset, .unset, .unset, .unset, .unset, .unset, .unset, .unset, .unset, .unset, .unset, .unset, .unset, .unset, .unset, .unset, .unset, .unset, .unset, .unset, .unset, .unset, .unset] [(.ref b4), (.ref o)]))
  have f6 := ((Po.wr W2).ext E4)
  obtain ⟨pv5, pf5⟩ := f6 "pivotRows" "[I" (.array .int) (Or.inr (hw _ (List.mem_of_getElem? (i := 145) rfl))) (by decide)
  have f7 := ((Eo.wr W2).ext E4)
  obtain ⟨T5, h5, X5, e5, W5, st5⟩ := putF X4 hx hZ hown (host := "") (Or.inl (hw _ (List.mem_of_getElem? (i := 144) rfl))) Via.refl e4 pf5 f7 (Or.inr ⟨(hw _ (List.mem_of_getElem? (i := 145) rfl)), rfl, hnm⟩) (hw _ (List.mem_of_getElem? (i := 136) rfl)) (ty := (.array .int)) (by decide) rfl rfl (g := (mkF m 17 #[.val (.ref o), .val (.ref qa), .unset, .unset, .unset, .unset, .unset, .unset, .unset, .unset, .unset, .unset, .unset, .unset, .unset, .unset, .unset, .unset, .unset, .unset, .unset, .unset, .unset, .unset, .unset, .unset, .unset, .unset] [(.ref b4), (.ref o)])) rfl rfl (hb hby d6_17)
  have N5 := Fr.snoc X5 N2 go
  have Fw5 := pf5.same W5
  have Z5 : n0 ≤ h5.size := by rw [W5.size]; exact Z4
  refine own_go st5 ?_
  show own_Go _ _ _ _ _ _ _ (T5.setTop (mkF m 20 #[.val (.ref o), .val (.ref qa), .unset, .unset, .unset, .unset, .unset, .unset, .unset, .unset, .unset, .unset, .unset, .unset, .unset, .unset, .unset, .unset, .unset, .unset, .unset, .unset, .unset, .unset, .unset, .unset, .unset, .unset] []))
  refine own_go (fun _ q => XS.aloadN X5.here hx rfl (hb hby d6_20) rfl rfl q) ?_
  show own_Go _ _ _ _ _ _ _ (T5.setTop (mkF m 21 #[.val (.ref o), .val (.ref qa), .unset, .unset, .unset, .unset, .unset, .unset, .unset, .unset, .unset, .unset, .unset, .unset, .unset, .unset, .unset, .unset, .unset, .unset, .unset, .unset, .unset, .unset, .unset, .unset, .unset, .unset] [(.ref o)]))
  refine own_go (fun _ q => XS.aloadN X5.here hx rfl (hb hby d6_21) rfl rfl q) ?_
  show own_Go _ _ _ _ _ _ _ (T5.setTop (mkF m 22 #[.val (.ref o), .val (.ref qa), .unset, .unset, .unset, .unset, .unset, .unset, .unset, .unset, .unset, .unset, .unset, .unset, .unset, .unset, .unset, .unset, .unset, .unset, .unset, .unset, .unset, .unset, .unset, .unset, .unset, .unset] [(.ref o), (.ref o)]))
  have f9 := ((Fw2.ext E4).other W5 (Or.inr (slot_ne (Or.inr (hw _ (List.mem_of_getElem? (i := 143) rfl))) (Or.inr (hw _ (List.mem_of_getElem? (i := 145) rfl))) (by decide) (t := .int) (t' := (.array .int)) (by decide) (by decide))))
  obtain ⟨T8, X8, e8, st8⟩ := getF X5 hx hZ hown (host := "") (Or.inl (hw _ (List.mem_of_getElem? (i := 142) rfl))) Via.refl e5 f9 (g := (mkF m 22 #[.val (.ref o), .val (.ref qa), .unset, .unset, .unset, .unset, .unset, .unset, .unset, .unset, .unset, .unset, .unset, .unset, .unset, .unset, .unset, .unset, .unset, .unset, .unset, .unset, .unset, .unset, .unset, .unset, .unset, .unset] [(.ref o), (.ref o)])) rfl rfl (hb hby d6_22)
  refine own_go st8 ?_
  show own_Go _ _ _ _ _ _ _ (T8.setTop (mkF m 25 #[.val (.ref o), .val (.ref qa), .unset, .unset, .unset, .unset, .unset, .unset, .unset, .unset, .unset, .unset, .unset, .unset, .unset, .unset, .unset, .unset, .unset, .unset, .unset, .unset, .unset, .unset, .unset, .unset, .unset, .unset] [(.int (0 : Int32)), (.ref o)]))
  obtain ⟨T10, h10, k10, X10, e10, E10, Aw10, st10⟩ := newP X8 hx hZ (hw _ (List.mem_of_getElem? (i := 25) rfl)) e8 (g := (mkF m 25 #[.val (.ref o), .val (.ref qa), .unset, .unset, .unset, .unset, .unset, .unset, .unset, .unset, .unset, .unset, .unset, .unset, .unset, .unset, .unset, .unset, .unset, .unset, .unset, .unset, .unset, .unset, .unset, .unset, .unset, .unset] [(.int (0 : Int32)), (.ref o)])) rfl (hb hby d6_25) rfl (by decide) (cap := 0) (by decide) (by decide) (by decide) (by decide)
  obtain ⟨b10, g10⟩ : ∃ z, z = h5.size := ⟨_, rfl⟩
  rw [← g10] at Aw10 st10
  have G10 : n0 ≤ b10 := Nat.le_trans Z5 (Nat.le_of_eq g10.symm)
  have Z10 : n0 ≤ h10.size := Nat.le_trans Z5 E10.1
  refine own_go st10 ?_
  show own_Go _ _ _ _ _ _ _ (T10.setTop (mkF m 27 #[.val (.ref o), .val (.ref qa), .unset, .unset, .unset, .unset, .unset, .unset, .unset, .unset, .unset, .unset, .unset, .unset, .unset, .unset, .unset, .unset, .unset, .unset, .unset, .unset, .unset, .unset, .unset, .unset, .unset, .unset] [(.ref b10), (.ref o)]))
  have f12 := ((f6.wr W5).ext E10)
  obtain ⟨pv11, pf11⟩ := f12 "pivotColumns" "[I" (.array .int) (Or.inr (hw _ (List.mem_of_getElem? (i := 147) rfl))) (by decide)
  have f13 := ((f7.wr W5).ext E10)
  obtain ⟨T11, h11, X11, e11, W11, st11⟩ := putF X10 hx hZ hown (host := "") (Or.inl (hw _ (List.mem_of_getElem? (i := 146) rfl))) Via.refl e10 pf11 f13 (Or.inr ⟨(hw _ (List.mem_of_getElem? (i := 147) rfl)), rfl, hnm⟩) (hw _ (List.mem_of_getElem? (i := 136) rfl)) (ty := (.array .int)) (by decide) rfl rfl (g := (mkF m 27 #[.val (.ref o), .val (.ref qa), .unset, .unset, .unset, .unset, .unset, .unset, .unset, .unset, .unset, .unset, .unset, .unset, .unset, .unset, .unset, .unset, .unset, .unset, .unset, .unset, .unset, .unset, .unset, .unset, .unset, .unset] [(.ref b10), (.ref o)])) rfl rfl (hb hby d6_27)
  have N11 := Fr.snoc X11 N5 go
  have Fw11 := pf11.same W11
  have Z11 : n0 ≤ h11.size := by rw [W11.size]; exact Z10
  refine own_go st11 ?_
  show own_Go _ _ _ _ _ _ _ (T11.setTop (mkF m 30 #[.val (.ref o), .val (.ref qa), .unset, .unset, .unset, .unset, .unset, .unset, .unset, .unset, .unset, .unset, .unset, .unset, .unset, .unset, .unset, .unset, .unset, .unset, .unset, .unset, .unset, .unset, .unset, .unset, .unset, .unset] []))
  refine own_go (fun _ q => XS.aloadN X11.here hx rfl (hb hby d6_30) rfl rfl q) ?_
  show own_Go _ _ _ _ _ _ _ (T11.setTop (mkF m 31 #[.val (.ref o), .val (.ref qa), .unset, .unset, .unset, .unset, .unset, .unset, .unset, .unset, .unset, .unset, .unset, .unset, .unset, .unset, .unset, .unset, .unset, .unset, .unset, .unset, .unset, .unset, .unset, .unset, .unset, .unset] [(.ref o)]))
  refine own_go (fun _ q => XS.aloadN X11.here hx rfl (hb hby d6_31) rfl rfl q) ?_
  show own_Go _ _ _ _ _ _ _ (T11.setTop (mkF m 32 #[.val (.ref o), .val (.ref qa), .unset, .unset, .unset, .unset, .unset, .unset, .unset, .unset, .unset, .unset, .unset, .unset, .unset, .unset, .unset, .unset, .unset, .unset, .unset, .unset, .unset, .unset, .unset, .unset, .unset, .unset] [(.ref o), (.ref o)]))
  have f15 := ((f9.ext E10).other W11 (Or.inr (slot_ne (Or.inr (hw _ (List.mem_of_getElem? (i := 143) rfl))) (Or.inr (hw _ (List.mem_of_getElem? (i := 147) rfl))) (by decide) (t := .int) (t' := (.array .int)) (by decide) (by decide))))
  obtain ⟨T14, X14, e14, st14⟩ := getF X11 hx hZ hown (host := "") (Or.inl (hw _ (List.mem_of_getElem? (i := 142) rfl))) Via.refl e11 f15 (g := (mkF m 32 #[.val (.ref o), .val (.ref qa), .unset, .unset, .unset, .unset, .unset, .unset, .unset, .unset, .unset, .unset, .unset, .unset, .unset, .unset, .unset, .unset, .unset, .unset, .unset, .unset, .unset, .unset, .unset, .unset, .unset, .unset] [(.ref o), (.ref o)])) rfl rfl (hb hby d6_32)
  refine own_go st14 ?_
  show own_Go _ _ _ _ _ _ _ (T14.setTop (mkF m 35 #[.val (.ref o), .val (.ref qa), .unset, .unset, .unset, .unset, .unset, .unset, .unset, .unset, .unset, .unset, .unset, .unset, .unset, .unset, .unset, .unset, .unset, .unset, .unset, .unset, .unset, .unset, .unset, .unset, .unset, .unset] [(.int (0 : Int32)), (.ref o)]))
  obtain ⟨T16, h16, k16, X16, e16, E16, Aw16, Ex16, Ov16, st16⟩ := newRA X14 hx hZ hown (C := "[I") (ty := .int) (by decide) (hw _ (List.mem_of_getElem? (i := 148) rfl)) (hw _ (List.mem_of_getElem? (i := 12) rfl)) e14 (g := (mkF m 35 #[.val (.ref o), .val (.ref qa), .unset, .unset, .unset, .unset, .unset, .unset, .unset, .unset, .unset, .unset, .unset, .unset, .unset, .unset, .unset, .unset, .unset, .unset, .unset, .unset, .unset, .unset, .unset, .unset, .unset, .unset] [(.int (0 : Int32)), (.ref o)])) rfl (hb hby d6_35) rfl (by decide) (cap := 0) (by decide) (by decide) (by decide) (by decide) (ad := "[[I") (by decide)
  obtain ⟨b16, g16⟩ : ∃ z, z = h11.size := ⟨_, rfl⟩
  rw [← g16] at Aw16 st16 Ex16
  have G16 : n0 ≤ b16 := Nat.le_trans Z11 (Nat.le_of_eq g16.symm)
  have Z16 : n0 ≤ h16.size := Nat.le_trans Z11 E16.1
  refine own_go st16 ?_
  show own_Go _ _ _ _ _ _ _ (T16.setTop (mkF m 38 #[.val (.ref o), .val (.ref qa), .unset, .unset, .unset, .unset, .unset, .unset, .unset, .unset, .unset, .unset, .unset, .unset, .unset, .unset, .unset, .unset, .unset, .unset, .unset, .unset, .unset, .unset, .unset, .unset, .unset, .unset] [(.ref b16), (.ref o)]))
  have f18 := ((f12.wr W11).ext E16)
  obtain ⟨pv17, pf17⟩ := f18 "lowerRows" "[[I" (.array (.array .int)) (Or.inr (hw _ (List.mem_of_getElem? (i := 150) rfl))) (by decide)
  have f19 := ((f13.wr W11).ext E16)
  obtain ⟨T17, h17, X17, e17, W17, st17⟩ := putF X16 hx hZ hown (host := "") (Or.inl (hw _ (List.mem_of_getElem? (i := 149) rfl))) Via.refl e16 pf17 f19 (Or.inr ⟨(hw _ (List.mem_of_getElem? (i := 150) rfl)), rfl, hnm⟩) (hw _ (List.mem_of_getElem? (i := 136) rfl)) (ty := (.array (.array .int))) (by decide) rfl rfl (g := (mkF m 38 #[.val (.ref o), .val (.ref qa), .unset, .unset, .unset, .unset, .unset, .unset, .unset, .unset, .unset, .unset, .unset, .unset, .unset, .unset, .unset, .unset, .unset, .unset, .unset, .unset, .unset, .unset, .unset, .unset, .unset, .unset] [(.ref b16), (.ref o)])) rfl rfl (hb hby d6_38)
  have N17 := Fr.snoc X17 N11 go
  have Fw17 := pf17.same W17
  have Z17 : n0 ≤ h17.size := by rw [W17.size]; exact Z16
  refine own_go st17 ?_
  show own_Go _ _ _ _ _ _ _ (T17.setTop (mkF m 41 #[.val (.ref o), .val (.ref qa), .unset, .unset, .unset, .unset, .unset, .unset, .unset, .unset, .unset, .unset, .unset, .unset, .unset, .unset, .unset, .unset, .unset, .unset, .unset, .unset, .unset, .unset, .unset, .unset, .unset, .unset] []))
  refine own_go (fun _ q => XS.aloadN X17.here hx rfl (hb hby d6_41) rfl rfl q) ?_
  show own_Go _ _ _ _ _ _ _ (T17.setTop (mkF m 42 #[.val (.ref o), .val (.ref qa), .unset, .unset, .unset, .unset, .unset, .unset, .unset, .unset, .unset, .unset, .unset, .unset, .unset, .unset, .unset, .unset, .unset, .unset, .unset, .unset, .unset, .unset, .unset, .unset, .unset, .unset] [(.ref o)]))
  refine own_go (fun _ q => XS.aloadN X17.here hx rfl (hb hby d6_42) rfl rfl q) ?_
  show own_Go _ _ _ _ _ _ _ (T17.setTop (mkF m 43 #[.val (.ref o), .val (.ref qa), .unset, .unset, .unset, .unset, .unset, .unset, .unset, .unset, .unset, .unset, .unset, .unset, .unset, .unset, .unset, .unset, .unset, .unset, .unset, .unset, .unset, .unset, .unset, .unset, .unset, .unset] [(.ref o), (.ref o)]))
  have f21 := ((f15.ext E16).other W17 (Or.inr (slot_ne (Or.inr (hw _ (List.mem_of_getElem? (i := 143) rfl))) (Or.inr (hw _ (List.mem_of_getElem? (i := 150) rfl))) (by decide) (t := .int) (t' := (.array (.array .int))) (by decide) (by decide))))
  obtain ⟨T20, X20, e20, st20⟩ := getF X17 hx hZ hown (host := "") (Or.inl (hw _ (List.mem_of_getElem? (i := 142) rfl))) Via.refl e17 f21 (g := (mkF m 43 #[.val (.ref o), .val (.ref qa), .unset, .unset, .unset, .unset, .unset, .unset, .unset, .unset, .unset, .unset, .unset, .unset, .unset, .unset, .unset, .unset, .unset, .unset, .unset, .unset, .unset, .unset, .unset, .unset, .unset, .unset] [(.ref o), (.ref o)])) rfl rfl (hb hby d6_43)
  refine own_go st20 ?_
  show own_Go _ _ _ _ _ _ _ (T20.setTop (mkF m 46 #[.val (.ref o), .val (.ref qa), .unset, .unset, .unset, .unset, .unset, .unset, .unset, .unset, .unset, .unset, .unset, .unset, .unset, .unset, .unset, .unset, .unset, .unset, .unset, .unset, .unset, .unset, .unset, .unset, .unset, .unset] [(.int (0 : Int32)), (.ref o)]))
  obtain ⟨T22, h22, k22, X22, e22, E22, Aw22, Ex22, Ov22, st22⟩ := newRA X20 hx hZ hown (C := "[D") (ty := .double) (by decide) (hw _ (List.mem_of_getElem? (i := 151) rfl)) (hw _ (List.mem_of_getElem? (i := 16) rfl)) e20 (g := (mkF m 46 #[.val (.ref o), .val (.ref qa), .unset, .unset, .unset, .unset, .unset, .unset, .unset, .unset, .unset, .unset, .unset, .unset, .unset, .unset, .unset, .unset, .unset, .unset, .unset, .unset, .unset, .unset, .unset, .unset, .unset, .unset] [(.int (0 : Int32)), (.ref o)])) rfl (hb hby d6_46) rfl (by decide) (cap := 0) (by decide) (by decide) (by decide) (by decide) (ad := "[[D") (by decide)
  obtain ⟨b22, g22⟩ : ∃ z, z = h17.size := ⟨_, rfl⟩
  rw [← g22] at Aw22 st22 Ex22
  have G22 : n0 ≤ b22 := Nat.le_trans Z17 (Nat.le_of_eq g22.symm)
  have Z22 : n0 ≤ h22.size := Nat.le_trans Z17 E22.1
  refine own_go st22 ?_
  show own_Go _ _ _ _ _ _ _ (T22.setTop (mkF m 49 #[.val (.ref o), .val (.ref qa), .unset, .unset, .unset, .unset, .unset, .unset, .unset, .unset, .unset, .unset, .unset, .unset, .unset, .unset, .unset, .unset, .unset, .unset, .unset, .unset, .unset, .unset, .unset, .unset, .unset, .unset] [(.ref b22), (.ref o)]))
  have f24 := ((f18.wr W17).ext E22)
  obtain ⟨pv23, pf23⟩ := f24 "lowerFactors" "[[D" (.array (.array .double)) (Or.inr (hw _ (List.mem_of_getElem? (i := 153) rfl))) (by decide)
  have f25 := ((f19.wr W17).ext E22)
  obtain ⟨T23, h23, X23, e23, W23, st23⟩ := putF X22 hx hZ hown (host := "") (Or.inl (hw _ (List.mem_of_getElem? (i := 152) rfl))) Via.refl e22 pf23 f25 (Or.inr ⟨(hw _ (List.mem_of_getElem? (i := 153) rfl)), rfl, hnm⟩) (hw _ (List.mem_of_getElem? (i := 136) rfl)) (ty := (.array (.array .double))) (by decide) rfl rfl (g := (mkF m 49 #[.val (.ref o), .val (.ref qa), .unset, .unset, .unset, .unset, .unset, .unset, .unset, .unset, .unset, .unset, .unset, .unset, .unset, .unset, .unset, .unset, .unset, .unset, .unset, .unset, .unset, .unset, .unset, .unset, .unset, .unset] [(.ref b22), (.ref o)])) rfl rfl (hb hby d6_49)
  have N23 := Fr.snoc X23 N17 go
  have Fw23 := pf23.same W23
  have Z23 : n0 ≤ h23.size := by rw [W23.size]; exact Z22
  refine own_go st23 ?_
  show own_Go _ _ _ _ _ _ _ (T23.setTop (mkF m 52 #[.val (.ref o), .val (.ref qa), .unset, .unset, .unset, .unset, .unset, .unset, .unset, .unset, .unset, .unset, .unset, .unset, .unset, .unset, .unset, .unset, .unset, .unset, .unset, .unset, .unset, .unset, .unset, .unset, .unset, .unset] []))
  refine own_go (fun _ q => XS.aloadN X23.here hx rfl (hb hby d6_52) rfl rfl q) ?_
  show own_Go _ _ _ _ _ _ _ (T23.setTop (mkF m 53 #[.val (.ref o), .val (.ref qa), .unset, .unset, .unset, .unset, .unset, .unset, .unset, .unset, .unset, .unset, .unset, .unset, .unset, .unset, .unset, .unset, .unset, .unset, .unset, .unset, .unset, .unset, .unset, .unset, .unset, .unset] [(.ref o)]))
  refine own_go (fun _ q => XS.aloadN X23.here hx rfl (hb hby d6_53) rfl rfl q) ?_
  show own_Go _ _ _ _ _ _ _ (T23.setTop (mkF m 54 #[.val (.ref o), .val (.ref qa), .unset, .unset, .unset, .unset, .unset, .unset, .unset, .unset, .unset, .unset, .unset, .unset, .unset, .unset, .unset, .unset, .unset, .unset, .unset, .unset, .unset, .unset, .unset, .unset, .unset, .unset] [(.ref o), (.ref o)]))
  have f27 := ((f21.ext E22).other W23 (Or.inr (slot_ne (Or.inr (hw _ (List.mem_of_getElem? (i := 143) rfl))) (Or.inr (hw _ (List.mem_of_getElem? (i := 153) rfl))) (by decide) (t := .int) (t' := (.array (.array .double))) (by decide) (by decide))))
  obtain ⟨T26, X26, e26, st26⟩ := getF X23 hx hZ hown (host := "") (Or.inl (hw _ (List.mem_of_getElem? (i := 142) rfl))) Via.refl e23 f27 (g := (mkF m 54 #[.val (.ref o), .val (.ref qa), .unset, .unset, .unset, .unset, .unset, .unset, .unset, .unset, .unset, .unset, .unset, .unset, .unset, .unset, .unset, .unset, .unset, .unset, .unset, .unset, .unset, .unset, .unset, .unset, .unset, .unset] [(.ref o), (.ref o)])) rfl rfl (hb hby d6_54)
  refine own_go st26 ?_
  show own_Go _ _ _ _ _ _ _ (T26.setTop (mkF m 57 #[.val (.ref o), .val (.ref qa), .unset, .unset, .unset, .unset, .unset, .unset, .unset, .unset, .unset, .unset, .unset, .unset, .unset, .unset, .unset, .unset, .unset, .unset, .unset, .unset, .unset, .unset, .unset, .unset, .unset, .unset] [(.int (0 : Int32)), (.ref o)]))
  obtain ⟨T28, h28, k28, X28, e28, E28, Aw28, Ex28, Ov28, st28⟩ := newRA X26 hx hZ hown (C := "[I") (ty := .int) (by decide) (hw _ (List.mem_of_getElem? (i := 148) rfl)) (hw _ (List.mem_of_getElem? (i := 12) rfl)) e26 (g := (mkF m 57 #[.val (.ref o), .val (.ref qa), .unset, .unset, .unset, .unset, .unset, .unset, .unset, .unset, .unset, .unset, .unset, .unset, .unset, .unset, .unset, .unset, .unset, .unset, .unset, .unset, .unset, .unset, .unset, .unset, .unset, .unset] [(.int (0 : Int32)), (.ref o)])) rfl (hb hby d6_57) rfl (by decide) (cap := 0) (by decide) (by decide) (by decide) (by decide) (ad := "[[I") (by decide)
  obtain ⟨b28, g28⟩ : ∃ z, z = h23.size := ⟨_, rfl⟩
  rw [← g28] at Aw28 st28 Ex28
  have G28 : n0 ≤ b28 := Nat.le_trans Z23 (Nat.le_of_eq g28.symm)
  have Z28 : n0 ≤ h28.size := Nat.le_trans Z23 E28.1
  refine own_go st28 ?_
  show own_Go _ _ _ _ _ _ _ (T28.setTop (mkF m 60 #[.val (.ref o), .val (.ref qa), .unset, .unset, .unset, .unset, .unset, .unset, .unset, .unset, .unset, .unset, .unset, .unset, .unset, .unset, .unset, .unset, .unset, .unset, .unset, .unset, .unset, .unset, .unset, .unset, .unset, .unset] [(.ref b28), (.ref o)]))
  have f30 := ((f24.wr W23).ext E28)
  obtain ⟨pv29, pf29⟩ := f30 "upperColumns" "[[I" (.array (.array .int)) (Or.inr (hw _ (List.mem_of_getElem? (i := 155) rfl))) (by decide)
  have f31 := ((f25.wr W23).ext E28)
  obtain ⟨T29, h29, X29, e29, W29, st29⟩ := putF X28 hx hZ hown (host := "") (Or.inl (hw _ (List.mem_of_getElem? (i := 154) rfl))) Via.refl e28 pf29 f31 (Or.inr ⟨(hw _ (List.mem_of_getElem? (i := 155) rfl)), rfl, hnm⟩) (hw _ (List.mem_of_getElem? (i := 136) rfl)) (ty := (.array (.array .int))) (by decide) rfl rfl (g := (mkF m 60 #[.val (.ref o), .val (.ref qa), .unset, .unset, .unset, .unset, .unset, .unset, .unset, .unset, .unset, .unset, .unset, .unset, .unset, .unset, .unset, .unset, .unset, .unset, .unset, .unset, .unset, .unset, .unset, .unset, .unset, .unset] [(.ref b28), (.ref o)])) rfl rfl (hb hby d6_60)
  have N29 := Fr.snoc X29 N23 go
  have Fw29 := pf29.same W29
  have Z29 : n0 ≤ h29.size := by rw [W29.size]; exact Z28
  refine own_go st29 ?_
  show own_Go _ _ _ _ _ _ _ (T29.setTop (mkF m 63 #[.val (.ref o), .val (.ref qa), .unset, .unset, .unset, .unset, .unset, .unset, .unset, .unset, .unset, .unset, .unset, .unset, .unset, .unset, .unset, .unset, .unset, .unset, .unset, .unset, .unset, .unset, .unset, .unset, .unset, .unset] []))
  refine own_go (fun _ q => XS.aloadN X29.here hx rfl (hb hby d6_63) rfl rfl q) ?_
  show own_Go _ _ _ _ _ _ _ (T29.setTop (mkF m 64 #[.val (.ref o), .val (.ref qa), .unset, .unset, .unset, .unset, .unset, .unset, .unset, .unset, .unset, .unset, .unset, .unset, .unset, .unset, .unset, .unset, .unset, .unset, .unset, .unset, .unset, .unset, .unset, .unset, .unset, .unset] [(.ref o)]))
  refine own_go (fun _ q => XS.aloadN X29.here hx rfl (hb hby d6_64) rfl rfl q) ?_
  show own_Go _ _ _ _ _ _ _ (T29.setTop (mkF m 65 #[.val (.ref o), .val (.ref qa), .unset, .unset, .unset, .unset, .unset, .unset, .unset, .unset, .unset, .unset, .unset, .unset, .unset, .unset, .unset, .unset, .unset, .unset, .unset, .unset, .unset, .unset, .unset, .unset, .unset, .unset] [(.ref o), (.ref o)]))
  have f33 := ((f27.ext E28).other W29 (Or.inr (slot_ne (Or.inr (hw _ (List.mem_of_getElem? (i := 143) rfl))) (Or.inr (hw _ (List.mem_of_getElem? (i := 155) rfl))) (by decide) (t := .int) (t' := (.array (.array .int))) (by decide) (by decide))))
  obtain ⟨T32, X32, e32, st32⟩ := getF X29 hx hZ hown (host := "") (Or.inl (hw _ (List.mem_of_getElem? (i := 142) rfl))) Via.refl e29 f33 (g := (mkF m 65 #[.val (.ref o), .val (.ref qa), .unset, .unset, .unset, .unset, .unset, .unset, .unset, .unset, .unset, .unset, .unset, .unset, .unset, .unset, .unset, .unset, .unset, .unset, .unset, .unset, .unset, .unset, .unset, .unset, .unset, .unset] [(.ref o), (.ref o)])) rfl rfl (hb hby d6_65)
  refine own_go st32 ?_
  show own_Go _ _ _ _ _ _ _ (T32.setTop (mkF m 68 #[.val (.ref o), .val (.ref qa), .unset, .unset, .unset, .unset, .unset, .unset, .unset, .unset, .unset, .unset, .unset, .unset, .unset, .unset, .unset, .unset, .unset, .unset, .unset, .unset, .unset, .unset, .unset, .unset, .unset, .unset] [(.int (0 : Int32)), (.ref o)]))
  obtain ⟨T34, h34, k34, X34, e34, E34, Aw34, Ex34, Ov34, st34⟩ := newRA X32 hx hZ hown (C := "[D") (ty := .double) (by decide) (hw _ (List.mem_of_getElem? (i := 151) rfl)) (hw _ (List.mem_of_getElem? (i := 16) rfl)) e32 (g := (mkF m 68 #[.val (.ref o), .val (.ref qa), .unset, .unset, .unset, .unset, .unset, .unset, .unset, .unset, .unset, .unset, .unset, .unset, .unset, .unset, .unset, .unset, .unset, .unset, .unset, .unset, .unset, .unset, .unset, .unset, .unset, .unset] [(.int (0 : Int32)), (.ref o)])) rfl (hb hby d6_68) rfl (by decide) (cap := 0) (by decide) (by decide) (by decide) (by decide) (ad := "[[D") (by decide)
  obtain ⟨b34, g34⟩ : ∃ z, z = h29.size := ⟨_, rfl⟩
  rw [← g34] at Aw34 st34 Ex34
  have G34 : n0 ≤ b34 := Nat.le_trans Z29 (Nat.le_of_eq g34.symm)
  have Z34 : n0 ≤ h34.size := Nat.le_trans Z29 E34.1
  refine own_go st34 ?_
  show own_Go _ _ _ _ _ _ _ (T34.setTop (mkF m 71 #[.val (.ref o), .val (.ref qa), .unset, .unset, .unset, .unset, .unset, .unset, .unset, .unset, .unset, .unset, .unset, .unset, .unset, .unset, .unset, .unset, .unset, .unset, .unset, .unset, .unset, .unset, .unset, .unset, .unset, .unset] [(.ref b34), (.ref o)]))
  have f36 := ((f30.wr W29).ext E34)
  obtain ⟨pv35, pf35⟩ := f36 "upperValues" "[[D" (.array (.array .double)) (Or.inr (hw _ (List.mem_of_getElem? (i := 157) rfl))) (by decide)
  have f37 := ((f31.wr W29).ext E34)
  obtain ⟨T35, h35, X35, e35, W35, st35⟩ := putF X34 hx hZ hown (host := "") (Or.inl (hw _ (List.mem_of_getElem? (i := 156) rfl))) Via.refl e34 pf35 f37 (Or.inr ⟨(hw _ (List.mem_of_getElem? (i := 157) rfl)), rfl, hnm⟩) (hw _ (List.mem_of_getElem? (i := 136) rfl)) (ty := (.array (.array .double))) (by decide) rfl rfl (g := (mkF m 71 #[.val (.ref o), .val (.ref qa), .unset, .unset, .unset, .unset, .unset, .unset, .unset, .unset, .unset, .unset, .unset, .unset, .unset, .unset, .unset, .unset, .unset, .unset, .unset, .unset, .unset, .unset, .unset, .unset, .unset, .unset] [(.ref b34), (.ref o)])) rfl rfl (hb hby d6_71)
  have N35 := Fr.snoc X35 N29 go
  have Fw35 := pf35.same W35
  have Z35 : n0 ≤ h35.size := by rw [W35.size]; exact Z34
  refine own_go st35 ?_
  show own_Go _ _ _ _ _ _ _ (T35.setTop (mkF m 74 #[.val (.ref o), .val (.ref qa), .unset, .unset, .unset, .unset, .unset, .unset, .unset, .unset, .unset, .unset, .unset, .unset, .unset, .unset, .unset, .unset, .unset, .unset, .unset, .unset, .unset, .unset, .unset, .unset, .unset, .unset] []))
  refine own_go (fun _ q => XS.aloadN X35.here hx rfl (hb hby d6_74) rfl rfl q) ?_
  show own_Go _ _ _ _ _ _ _ (T35.setTop (mkF m 75 #[.val (.ref o), .val (.ref qa), .unset, .unset, .unset, .unset, .unset, .unset, .unset, .unset, .unset, .unset, .unset, .unset, .unset, .unset, .unset, .unset, .unset, .unset, .unset, .unset, .unset, .unset, .unset, .unset, .unset, .unset] [(.ref o)]))
  refine own_go (fun _ q => XS.aloadN X35.here hx rfl (hb hby d6_75) rfl rfl q) ?_
  show own_Go _ _ _ _ _ _ _ (T35.setTop (mkF m 76 #[.val (.ref o), .val (.ref qa), .unset, .unset, .unset, .unset, .unset, .unset, .unset, .unset, .unset, .unset, .unset, .unset, .unset, .unset, .unset, .unset, .unset, .unset, .unset, .unset, .unset, .unset, .unset, .unset, .unset, .unset] [(.ref o), (.ref o)]))
  have f39 := ((f33.ext E34).other W35 (Or.inr (slot_ne (Or.inr (hw _ (List.mem_of_getElem? (i := 143) rfl))) (Or.inr (hw _ (List.mem_of_getElem? (i := 157) rfl))) (by decide) (t := .int) (t' := (.array (.array .double))) (by decide) (by decide))))
  obtain ⟨T38, X38, e38, st38⟩ := getF X35 hx hZ hown (host := "") (Or.inl (hw _ (List.mem_of_getElem? (i := 142) rfl))) Via.refl e35 f39 (g := (mkF m 76 #[.val (.ref o), .val (.ref qa), .unset, .unset, .unset, .unset, .unset, .unset, .unset, .unset, .unset, .unset, .unset, .unset, .unset, .unset, .unset, .unset, .unset, .unset, .unset, .unset, .unset, .unset, .unset, .unset, .unset, .unset] [(.ref o), (.ref o)])) rfl rfl (hb hby d6_76)
  refine own_go st38 ?_
  show own_Go _ _ _ _ _ _ _ (T38.setTop (mkF m 79 #[.val (.ref o), .val (.ref qa), .unset, .unset, .unset, .unset, .unset, .unset, .unset, .unset, .unset, .unset, .unset, .unset, .unset, .unset, .unset, .unset, .unset, .unset, .unset, .unset, .unset, .unset, .unset, .unset, .unset, .unset] [(.int (0 : Int32)), (.ref o)]))
  obtain ⟨T40, h40, k40, X40, e40, E40, Aw40, st40⟩ := newP X38 hx hZ (hw _ (List.mem_of_getElem? (i := 1) rfl)) e38 (g := (mkF m 79 #[.val (.ref o), .val (.ref qa), .unset, .unset, .unset, .unset, .unset, .unset, .unset, .unset, .unset, .unset, .unset, .unset, .unset, .unset, .unset, .unset, .unset, .unset, .unset, .unset, .unset, .unset, .unset, .unset, .unset, .unset] [(.int (0 : Int32)), (.ref o)])) rfl (hb hby d6_79) rfl (by decide) (cap := 0) (by decide) (by decide) (by decide) (by decide)
  obtain ⟨b40, g40⟩ : ∃ z, z = h35.size := ⟨_, rfl⟩
  rw [← g40] at Aw40 st40
  have G40 : n0 ≤ b40 := Nat.le_trans Z35 (Nat.le_of_eq g40.symm)
  have Z40 : n0 ≤ h40.size := Nat.le_trans Z35 E40.1
  refine own_go st40 ?_
  show own_Go _ _ _ _ _ _ _ (T40.setTop (mkF m 81 #[.val (.ref o), .val (.ref qa), .unset, .unset, .unset, .unset, .unset, .unset, .unset, .unset, .unset, .unset, .unset, .unset, .unset, .unset, .unset, .unset, .unset, .unset, .unset, .unset, .unset, .unset, .unset, .unset, .unset, .unset] [(.ref b40), (.ref o)]))
  have f42 := ((f36.wr W35).ext E40)
  obtain ⟨pv41, pf41⟩ := f42 "pivots" "[D" (.array .double) (Or.inr (hw _ (List.mem_of_getElem? (i := 159) rfl))) (by decide)
  have f43 := ((f37.wr W35).ext E40)
  obtain ⟨T41, h41, X41, e41, W41, st41⟩ := putF X40 hx hZ hown (host := "") (Or.inl (hw _ (List.mem_of_getElem? (i := 158) rfl))) Via.refl e40 pf41 f43 (Or.inr ⟨(hw _ (List.mem_of_getElem? (i := 159) rfl)), rfl, hnm⟩) (hw _ (List.mem_of_getElem? (i := 136) rfl)) (ty := (.array .double)) (by decide) rfl rfl (g := (mkF m 81 #[.val (.ref o), .val (.ref qa), .unset, .unset, .unset, .unset, .unset, .unset, .unset, .unset, .unset, .unset, .unset, .unset, .unset, .unset, .unset, .unset, .unset, .unset, .unset, .unset, .unset, .unset, .unset, .unset, .unset, .unset] [(.ref b40), (.ref o)])) rfl rfl (hb hby d6_81)
  have N41 := Fr.snoc X41 N35 go
  have Fw41 := pf41.same W41
  have Z41 : n0 ≤ h41.size := by rw [W41.size]; exact Z40
  refine own_go st41 ?_
  show own_Go _ _ _ _ _ _ _ (T41.setTop (mkF m 84 #[.val (.ref o), .val (.ref qa), .unset, .unset, .unset, .unset, .unset, .unset, .unset, .unset, .unset, .unset, .unset, .unset, .unset, .unset, .unset, .unset, .unset, .unset, .unset, .unset, .unset, .unset, .unset, .unset, .unset, .unset] []))
  refine own_go (fun _ q => XS.aloadN X41.here hx rfl (hb hby d6_84) rfl rfl q) ?_
  show own_Go _ _ _ _ _ _ _ (T41.setTop (mkF m 85 #[.val (.ref o), .val (.ref qa), .unset, .unset, .unset, .unset, .unset, .unset, .unset, .unset, .unset, .unset, .unset, .unset, .unset, .unset, .unset, .unset, .unset, .unset, .unset, .unset, .unset, .unset, .unset, .unset, .unset, .unset] [(.ref o)]))
  have f45 := ((f39.ext E40).other W41 (Or.inr (slot_ne (Or.inr (hw _ (List.mem_of_getElem? (i := 143) rfl))) (Or.inr (hw _ (List.mem_of_getElem? (i := 159) rfl))) (by decide) (t := .int) (t' := (.array .double)) (by decide) (by decide))))
  obtain ⟨T44, X44, e44, st44⟩ := getF X41 hx hZ hown (host := "") (Or.inl (hw _ (List.mem_of_getElem? (i := 142) rfl))) Via.refl e41 f45 (g := (mkF m 85 #[.val (.ref o), .val (.ref qa), .unset, .unset, .unset, .unset, .unset, .unset, .unset, .unset, .unset, .unset, .unset, .unset, .unset, .unset, .unset, .unset, .unset, .unset, .unset, .unset, .unset, .unset, .unset, .unset, .unset, .unset] [(.ref o)])) rfl rfl (hb hby d6_85)
  refine own_go st44 ?_
  show own_Go _ _ _ _ _ _ _ (T44.setTop (mkF m 88 #[.val (.ref o), .val (.ref qa), .unset, .unset, .unset, .unset, .unset, .unset, .unset, .unset, .unset, .unset, .unset, .unset, .unset, .unset, .unset, .unset, .unset, .unset, .unset, .unset, .unset, .unset, .unset, .unset, .unset, .unset] [(.int (0 : Int32))]))
  obtain ⟨T46, h46, k46, X46, e46, E46, Aw46, Ex46, Ov46, st46⟩ := newRA X44 hx hZ hown (C := "[I") (ty := .int) (by decide) (hw _ (List.mem_of_getElem? (i := 148) rfl)) (hw _ (List.mem_of_getElem? (i := 12) rfl)) e44 (g := (mkF m 88 #[.val (.ref o), .val (.ref qa), .unset, .unset, .unset, .unset, .unset, .unset, .unset, .unset, .unset, .unset, .unset, .unset, .unset, .unset, .unset, .unset, .unset, .unset, .unset, .unset, .unset, .unset, .unset, .unset, .unset, .unset] [(.int (0 : Int32))])) rfl (hb hby d6_88) rfl (by decide) (cap := 0) (by decide) (by decide) (by decide) (by decide) (ad := "[[I") (by decide)
  obtain ⟨b46, g46⟩ : ∃ z, z = h41.size := ⟨_, rfl⟩
  rw [← g46] at Aw46 st46 Ex46
  have G46 : n0 ≤ b46 := Nat.le_trans Z41 (Nat.le_of_eq g46.symm)
  have Z46 : n0 ≤ h46.size := Nat.le_trans Z41 E46.1
  refine own_go st46 ?_
  show own_Go _ _ _ _ _ _ _ (T46.setTop (mkF m 91 #[.val (.ref o), .val (.ref qa), .unset, .unset, .unset, .unset, .unset, .unset, .unset, .unset, .unset, .unset, .unset, .unset, .unset, .unset, .unset, .unset, .unset, .unset, .unset, .unset, .unset, .unset, .unset, .unset, .unset, .unset] [(.ref b46)]))
  refine own_go (fun _ q => XS.astoreN X46.here hx rfl (hb hby d6_91) rfl rfl (l' := #[.val (.ref o), .val (.ref qa), .val (.ref b46), .unset, .unset, .unset, .unset, .unset, .unset, .unset, .unset, .unset, .unset, .unset, .unset, .unset, .unset, .unset, .unset, .unset, .unset, .unset, .unset, .unset, .unset, .unset, .unset, .unset]) rfl q) ?_
  show own_Go _ _ _ _ _ _ _ (T46.setTop (mkF m 92 #[.val (.ref o), .val (.ref qa), .val (.ref b46), .unset, .unset, .unset, .unset, .unset, .unset, .unset, .unset, .unset, .unset, .unset, .unset, .unset, .unset, .unset, .unset, .unset, .unset, .unset, .unset, .unset, .unset, .unset, .unset, .unset] []))
  refine own_go (fun _ q => XS.aloadN X46.here hx rfl (hb hby d6_92) rfl rfl q) ?_
  show own_Go _ _ _ _ _ _ _ (T46.setTop (mkF m 93 #[.val (.ref o), .val (.ref qa), .val (.ref b46), .unset, .unset, .unset, .unset, .unset, .unset, .unset, .unset, .unset, .unset, .unset, .unset, .unset, .unset, .unset, .unset, .unset, .unset, .unset, .unset, .unset, .unset, .unset, .unset, .unset] [(.ref o)]))
  have f48 := (f45.ext E46)
  obtain ⟨T47, X47, e47, st47⟩ := getF X46 hx hZ hown (host := "") (Or.inl (hw _ (List.mem_of_getElem? (i := 142) rfl))) Via.refl e46 f48 (g := (mkF m 93 #[.val (.ref o), .val (.ref qa), .val (.ref b46), .unset, .unset, .unset, .unset, .unset, .unset, .unset, .unset, .unset, .unset, .unset, .unset, .unset, .unset, .unset, .unset, .unset, .unset, .unset, .unset, .unset, .unset, .unset, .unset, .unset] [(.ref o)])) rfl rfl (hb hby d6_93)
  refine own_go st47 ?_
  show own_Go _ _ _ _ _ _ _ (T47.setTop (mkF m 96 #[.val (.ref o), .val (.ref qa), .val (.ref b46), .unset, .unset, .unset, .unset, .unset, .unset, .unset, .unset, .unset, .unset, .unset, .unset, .unset, .unset, .unset, .unset, .unset, .unset, .unset, .unset, .unset, .unset, .unset, .unset, .unset] [(.int (0 : Int32))]))
  obtain ⟨T49, h49, k49, X49, e49, E49, Aw49, st49⟩ := newP X47 hx hZ (hw _ (List.mem_of_getElem? (i := 25) rfl)) e47 (g := (mkF m 96 #[.val (.ref o), .val (.ref qa), .val (.ref b46), .unset, .unset, .unset, .unset, .unset, .unset, .unset, .unset, .unset, .unset, .unset, .unset, .unset, .unset, .unset, .unset, .unset, .unset, .unset, .unset, .unset, .unset, .unset, .unset, .unset] [(.int (0 : Int32))])) rfl (hb hby d6_96) rfl (by decide) (cap := 0) (by decide) (by decide) (by decide) (by decide)
  obtain ⟨b49, g49⟩ : ∃ z, z = h46.size := ⟨_, rfl⟩
  rw [← g49] at Aw49 st49
  have G49 : n0 ≤ b49 := Nat.le_trans Z46 (Nat.le_of_eq g49.symm)
  have Z49 : n0 ≤ h49.size := Nat.le_trans Z46 E49.1
  refine own_go st49 ?_
  show own_Go _ _ _ _ _ _ _ (T49.setTop (mkF m 98 #[.val (.ref o), .val (.ref qa), .val (.ref b46), .unset, .unset, .unset, .unset, .unset, .unset, .unset, .unset, .unset, .unset, .unset, .unset, .unset, .unset, .unset, .unset, .unset, .unset, .unset, .unset, .unset, .unset, .unset, .unset, .unset] [(.ref b49)]))
  refine own_go (fun _ q => XS.astoreN X49.here hx rfl (hb hby d6_98) rfl rfl (l' := #[.val (.ref o), .val (.ref qa), .val (.ref b46), .val (.ref b49), .unset, .unset, .unset, .unset, .unset, .unset, .unset, .unset, .unset, .unset, .unset, .unset, .unset, .unset, .unset, .unset, .unset, .unset, .unset, .unset, .unset, .unset, .unset, .unset]) rfl q) ?_
  show own_Go _ _ _ _ _ _ _ (T49.setTop (mkF m 99 #[.val (.ref o), .val (.ref qa), .val (.ref b46), .val (.ref b49), .unset, .unset, .unset, .unset, .unset, .unset, .unset, .unset, .unset, .unset, .unset, .unset, .unset, .unset, .unset, .unset, .unset, .unset, .unset, .unset, .unset, .unset, .unset, .unset] []))
  refine own_go (fun _ q => XS.aloadN X49.here hx rfl (hb hby d6_99) rfl rfl q) ?_
  show own_Go _ _ _ _ _ _ _ (T49.setTop (mkF m 100 #[.val (.ref o), .val (.ref qa), .val (.ref b46), .val (.ref b49), .unset, .unset, .unset, .unset, .unset, .unset, .unset, .unset, .unset, .unset, .unset, .unset, .unset, .unset, .unset, .unset, .unset, .unset, .unset, .unset, .unset, .unset, .unset, .unset] [(.ref o)]))
  have f51 := (f48.ext E49)
  obtain ⟨T50, X50, e50, st50⟩ := getF X49 hx hZ hown (host := "") (Or.inl (hw _ (List.mem_of_getElem? (i := 142) rfl))) Via.refl e49 f51 (g := (mkF m 100 #[.val (.ref o), .val (.ref qa), .val (.ref b46), .val (.ref b49), .unset, .unset, .unset, .unset, .unset, .unset, .unset, .unset, .unset, .unset, .unset, .unset, .unset, .unset, .unset, .unset, .unset, .unset, .unset, .unset, .unset, .unset, .unset, .unset] [(.ref o)])) rfl rfl (hb hby d6_100)
  refine own_go st50 ?_
  show own_Go _ _ _ _ _ _ _ (T50.setTop (mkF m 103 #[.val (.ref o), .val (.ref qa), .val (.ref b46), .val (.ref b49), .unset, .unset, .unset, .unset, .unset, .unset, .unset, .unset, .unset, .unset, .unset, .unset, .unset, .unset, .unset, .unset, .unset, .unset, .unset, .unset, .unset, .unset, .unset, .unset] [(.int (0 : Int32))]))
  obtain ⟨T52, h52, k52, X52, e52, E52, Aw52, Ex52, Ov52, st52⟩ := newRA X50 hx hZ hown (C := "[I") (ty := .int) (by decide) (hw _ (List.mem_of_getElem? (i := 148) rfl)) (hw _ (List.mem_of_getElem? (i := 12) rfl)) e50 (g := (mkF m 103 #[.val (.ref o), .val (.ref qa), .val (.ref b46), .val (.ref b49), .unset, .unset, .unset, .unset, .unset, .unset, .unset, .unset, .unset, .unset, .unset, .unset, .unset, .unset, .unset, .unset, .unset, .unset, .unset, .unset, .unset, .unset, .unset, .unset] [(.int (0 : Int32))])) rfl (hb hby d6_103) rfl (by decide) (cap := 0) (by decide) (by decide) (by decide) (by decide) (ad := "[[I") (by decide)
  obtain ⟨b52, g52⟩ : ∃ z, z = h49.size := ⟨_, rfl⟩
  rw [← g52] at Aw52 st52 Ex52
  have G52 : n0 ≤ b52 := Nat.le_trans Z49 (Nat.le_of_eq g52.symm)
  have Z52 : n0 ≤ h52.size := Nat.le_trans Z49 E52.1
  refine own_go st52 ?_
  show own_Go _ _ _ _ _ _ _ (T52.setTop (mkF m 106 #[.val (.ref o), .val (.ref qa), .val (.ref b46), .val (.ref b49), .unset, .unset, .unset, .unset, .unset, .unset, .unset, .unset, .unset, .unset, .unset, .unset, .unset, .unset, .unset, .unset, .unset, .unset, .unset, .unset, .unset, .unset, .unset, .unset] [(.ref b52)]))
  refine own_go (fun _ q => XS.astore X52.here hx rfl (hb hby d6_106) rfl rfl (l' := #[.val (.ref o), .val (.ref qa), .val (.ref b46), .val (.ref b49), .val (.ref b52), .unset, .unset, .unset, .unset, .unset, .unset, .unset, .unset, .unset, .unset, .unset, .unset, .unset, .unset, .unset, .unset, .unset, .unset, .unset, .unset, .unset, .unset, .unset]) rfl q) ?_
  show own_Go _ _ _ _ _ _ _ (T52.setTop (mkF m 108 #[.val (.ref o), .val (.ref qa), .val (.ref b46), .val (.ref b49), .val (.ref b52), .unset, .unset, .unset, .unset, .unset, .unset, .unset, .unset, .unset, .unset, .unset, .unset, .unset, .unset, .unset, .unset, .unset, .unset, .unset, .unset, .unset, .unset, .unset] []))
  refine own_go (fun _ q => XS.aloadN X52.here hx rfl (hb hby d6_108) rfl rfl q) ?_
  show own_Go _ _ _ _ _ _ _ (T52.setTop (mkF m 109 #[.val (.ref o), .val (.ref qa), .val (.ref b46), .val (.ref b49), .val (.ref b52), .unset, .unset, .unset, .unset, .unset, .unset, .unset, .unset, .unset, .unset, .unset, .unset, .unset, .unset, .unset, .unset, .unset, .unset, .unset, .unset, .unset, .unset, .unset] [(.ref o)]))
  have f54 := (f51.ext E52)
  obtain ⟨T53, X53, e53, st53⟩ := getF X52 hx hZ hown (host := "") (Or.inl (hw _ (List.mem_of_getElem? (i := 142) rfl))) Via.refl e52 f54 (g := (mkF m 109 #[.val (.ref o), .val (.ref qa), .val (.ref b46), .val (.ref b49), .val (.ref b52), .unset, .unset, .unset, .unset, .unset, .unset, .unset, .unset, .unset, .unset, .unset, .unset, .unset, .unset, .unset, .unset, .unset, .unset, .unset, .unset, .unset, .unset, .unset] [(.ref o)])) rfl rfl (hb hby d6_109)
  refine own_go st53 ?_
  show own_Go _ _ _ _ _ _ _ (T53.setTop (mkF m 112 #[.val (.ref o), .val (.ref qa), .val (.ref b46), .val (.ref b49), .val (.ref b52), .unset, .unset, .unset, .unset, .unset, .unset, .unset, .unset, .unset, .unset, .unset, .unset, .unset, .unset, .unset, .unset, .unset, .unset, .unset, .unset, .unset, .unset, .unset] [(.int (0 : Int32))]))
  obtain ⟨T55, h55, k55, X55, e55, E55, Aw55, Ex55, st55⟩ := newPE X53 hx hZ (hw _ (List.mem_of_getElem? (i := 25) rfl)) e53 (g := (mkF m 112 #[.val (.ref o), .val (.ref qa), .val (.ref b46), .val (.ref b49), .val (.ref b52), .unset, .unset, .unset, .unset, .unset, .unset, .unset, .unset, .unset, .unset, .unset, .unset, .unset, .unset, .unset, .unset, .unset, .unset, .unset, .unset, .unset, .unset, .unset] [(.int (0 : Int32))])) rfl (hb hby d6_112) rfl (by decide) (cap := 0) (by decide) (by decide) (by decide) (by decide) (ad := "[I") (by decide)
  obtain ⟨b55, g55⟩ : ∃ z, z = h52.size := ⟨_, rfl⟩
  rw [← g55] at Aw55 st55 Ex55
  have f56 := ((((f43.wr W41).ext E46).ext E49).ext E52)
  have nq57 : o ≠ b55 := Nat.ne_of_lt (Nat.lt_of_lt_of_eq (f56).lt g55.symm)
  have f58 := ((((((((((((((((((Aq.other W2 nqo).ext E4).other W5 nqo).ext E10).other W11 nqo).ext E16).other W17 nqo).ext E22).other W23 nqo).ext E28).other W29 nqo).ext E34).other W35 nqo).ext E40).other W41 nqo).ext E46).ext E49).ext E52)
  have nq59 : qa ≠ b55 := Nat.ne_of_lt (Nat.lt_of_lt_of_eq (f58).lt g55.symm)
  have A55 := own_Ar.new (nn := 0) Aw55 (by decide) rfl
  have G55 : n0 ≤ b55 := Nat.le_trans Z52 (Nat.le_of_eq g55.symm)
  have Z55 : n0 ≤ h55.size := Nat.le_trans Z52 E55.1
  refine own_go st55 ?_
  show own_Go _ _ _ _ _ _ _ (T55.setTop (mkF m 114 #[.val (.ref o), .val (.ref qa), .val (.ref b46), .val (.ref b49), .val (.ref b52), .unset, .unset, .unset, .unset, .unset, .unset, .unset, .unset, .unset, .unset, .unset, .unset, .unset, .unset, .unset, .unset, .unset, .unset, .unset, .unset, .unset, .unset, .unset] [(.ref b55)]))
  refine own_go (fun _ q => XS.astore X55.here hx rfl (hb hby d6_114) rfl rfl (l' := #[.val (.ref o), .val (.ref qa), .val (.ref b46), .val (.ref b49), .val (.ref b52), .val (.ref b55), .unset, .unset, .unset, .unset, .unset, .unset, .unset, .unset, .unset, .unset, .unset, .unset, .unset, .unset, .unset, .unset, .unset, .unset, .unset, .unset, .unset, .unset]) rfl q) ?_
  show own_Go _ _ _ _ _ _ _ (T55.setTop (mkF m 116 #[.val (.ref o), .val (.ref qa), .val (.ref b46), .val (.ref b49), .val (.ref b52), .val (.ref b55), .unset, .unset, .unset, .unset, .unset, .unset, .unset, .unset, .unset, .unset, .unset, .unset, .unset, .unset, .unset, .unset, .unset, .unset, .unset, .unset, .unset, .unset] []))
  refine own_go (fun _ q => XS.iconst X55.here hx rfl (hb hby d6_116) q) ?_
  show own_Go _ _ _ _ _ _ _ (T55.setTop (mkF m 117 #[.val (.ref o), .val (.ref qa), .val (.ref b46), .val (.ref b49), .val (.ref b52), .val (.ref b55), .unset, .unset, .unset, .unset, .unset, .unset, .unset, .unset, .unset, .unset, .unset, .unset, .unset, .unset, .unset, .unset, .unset, .unset, .unset, .unset, .unset, .unset] [(.int (0 : Int32))]))
  refine own_go (fun _ q => XS.istore X55.here hx rfl (hb hby d6_117) rfl (l' := #[.val (.ref o), .val (.ref qa), .val (.ref b46), .val (.ref b49), .val (.ref b52), .val (.ref b55), .val (.int (0 : Int32)), .unset, .unset, .unset, .unset, .unset, .unset, .unset, .unset, .unset, .unset, .unset, .unset, .unset, .unset, .unset, .unset, .unset, .unset, .unset, .unset, .unset]) rfl q) ?_
  show own_Go _ _ _ _ _ _ _ (T55.setTop (mkF m 119 #[.val (.ref o), .val (.ref qa), .val (.ref b46), .val (.ref b49), .val (.ref b52), .val (.ref b55), .val (.int (0 : Int32)), .unset, .unset, .unset, .unset, .unset, .unset, .unset, .unset, .unset, .unset, .unset, .unset, .unset, .unset, .unset, .unset, .unset, .unset, .unset, .unset, .unset] []))
  refine own_go (fun _ q => XS.iload X55.here hx rfl (hb hby d6_119) rfl q) ?_
  show own_Go _ _ _ _ _ _ _ (T55.setTop (mkF m 121 #[.val (.ref o), .val (.ref qa), .val (.ref b46), .val (.ref b49), .val (.ref b52), .val (.ref b55), .val (.int (0 : Int32)), .unset, .unset, .unset, .unset, .unset, .unset, .unset, .unset, .unset, .unset, .unset, .unset, .unset, .unset, .unset, .unset, .unset, .unset, .unset, .unset, .unset] [(.int (0 : Int32))]))
  refine own_go (fun _ q => XS.aloadN X55.here hx rfl (hb hby d6_121) rfl rfl q) ?_
  show own_Go _ _ _ _ _ _ _ (T55.setTop (mkF m 122 #[.val (.ref o), .val (.ref qa), .val (.ref b46), .val (.ref b49), .val (.ref b52), .val (.ref b55), .val (.int (0 : Int32)), .unset, .unset, .unset, .unset, .unset, .unset, .unset, .unset, .unset, .unset, .unset, .unset, .unset, .unset, .unset, .unset, .unset, .unset, .unset, .unset, .unset] [(.ref o), (.int (0 : Int32))]))
  have f61 := (f54.ext E55)
  obtain ⟨T60, X60, e60, st60⟩ := getF X55 hx hZ hown (host := "") (Or.inl (hw _ (List.mem_of_getElem? (i := 142) rfl))) Via.refl e55 f61 (g := (mkF m 122 #[.val (.ref o), .val (.ref qa), .val (.ref b46), .val (.ref b49), .val (.ref b52), .val (.ref b55), .val (.int (0 : Int32)), .unset, .unset, .unset, .unset, .unset, .unset, .unset, .unset, .unset, .unset, .unset, .unset, .unset, .unset, .unset, .unset, .unset, .unset, .unset, .unset, .unset] [(.ref o), (.int (0 : Int32))])) rfl rfl (hb hby d6_122)
  refine own_go st60 ?_
  show own_Go _ _ _ _ _ _ _ (T60.setTop (mkF m 125 #[.val (.ref o), .val (.ref qa), .val (.ref b46), .val (.ref b49), .val (.ref b52), .val (.ref b55), .val (.int (0 : Int32)), .unset, .unset, .unset, .unset, .unset, .unset, .unset, .unset, .unset, .unset, .unset, .unset, .unset, .unset, .unset, .unset, .unset, .unset, .unset, .unset, .unset] [(.int (0 : Int32)), (.int (0 : Int32))]))
  refine own_go (fun _ q => XS.icmpYes X60.here hx rfl (pc0 := 125) (pc' := 141) rfl (hb hby d6_125) rfl (flt (by decide : ¬ ((0 : Int32) < (0 : Int32)))).2.1 (by decide) (by decide) q) ?_
  show own_Go _ _ _ _ _ _ _ (T60.setTop (mkF m 141 #[.val (.ref o), .val (.ref qa), .val (.ref b46), .val (.ref b49), .val (.ref b52), .val (.ref b55), .val (.int (0 : Int32)), .unset, .unset, .unset, .unset, .unset, .unset, .unset, .unset, .unset, .unset, .unset, .unset, .unset, .unset, .unset, .unset, .unset, .unset, .unset, .unset, .unset] []))
  refine own_go (fun _ q => XS.iconst X60.here hx rfl (hb hby d6_141) q) ?_
  show own_Go _ _ _ _ _ _ _ (T60.setTop (mkF m 142 #[.val (.ref o), .val (.ref qa), .val (.ref b46), .val (.ref b49), .val (.ref b52), .val (.ref b55), .val (.int (0 : Int32)), .unset, .unset, .unset, .unset, .unset, .unset, .unset, .unset, .unset, .unset, .unset, .unset, .unset, .unset, .unset, .unset, .unset, .unset, .unset, .unset, .unset] [(.int (0 : Int32))]))
  refine own_go (fun _ q => XS.istore X60.here hx rfl (hb hby d6_142) rfl (l' := #[.val (.ref o), .val (.ref qa), .val (.ref b46), .val (.ref b49), .val (.ref b52), .val (.ref b55), .val (.int (0 : Int32)), .unset, .unset, .unset, .unset, .unset, .unset, .unset, .unset, .unset, .unset, .unset, .unset, .unset, .unset, .unset, .unset, .unset, .unset, .unset, .unset, .unset]) rfl q) ?_
  show own_Go _ _ _ _ _ _ _ (T60.setTop (mkF m 144 #[.val (.ref o), .val (.ref qa), .val (.ref b46), .val (.ref b49), .val (.ref b52), .val (.ref b55), .val (.int (0 : Int32)), .unset, .unset, .unset, .unset, .unset, .unset, .unset, .unset, .unset, .unset, .unset, .unset, .unset, .unset, .unset, .unset, .unset, .unset, .unset, .unset, .unset] []))
  refine own_go (fun _ q => XS.iload X60.here hx rfl (hb hby d6_144) rfl q) ?_
  show own_Go _ _ _ _ _ _ _ (T60.setTop (mkF m 146 #[.val (.ref o), .val (.ref qa), .val (.ref b46), .val (.ref b49), .val (.ref b52), .val (.ref b55), .val (.int (0 : Int32)), .unset, .unset, .unset, .unset, .unset, .unset, .unset, .unset, .unset, .unset, .unset, .unset, .unset, .unset, .unset, .unset, .unset, .unset, .unset, .unset, .unset] [(.int (0 : Int32))]))
  refine own_go (fun _ q => XS.aloadN X60.here hx rfl (hb hby d6_146) rfl rfl q) ?_
  show own_Go _ _ _ _ _ _ _ (T60.setTop (mkF m 147 #[.val (.ref o), .val (.ref qa), .val (.ref b46), .val (.ref b49), .val (.ref b52), .val (.ref b55), .val (.int (0 : Int32)), .unset, .unset, .unset, .unset, .unset, .unset, .unset, .unset, .unset, .unset, .unset, .unset, .unset, .unset, .unset, .unset, .unset, .unset, .unset, .unset, .unset] [(.ref o), (.int (0 : Int32))]))
  obtain ⟨T62, X62, e62, st62⟩ := getF X60 hx hZ hown (host := "") (Or.inl (hw _ (List.mem_of_getElem? (i := 142) rfl))) Via.refl e60 f61 (g := (mkF m 147 #[.val (.ref o), .val (.ref qa), .val (.ref b46), .val (.ref b49), .val (.ref b52), .val (.ref b55), .val (.int (0 : Int32)), .unset, .unset, .unset, .unset, .unset, .unset, .unset, .unset, .unset, .unset, .unset, .unset, .unset, .unset, .unset, .unset, .unset, .unset, .unset, .unset, .unset] [(.ref o), (.int (0 : Int32))])) rfl rfl (hb hby d6_147)
  refine own_go st62 ?_
  show own_Go _ _ _ _ _ _ _ (T62.setTop (mkF m 150 #[.val (.ref o), .val (.ref qa), .val (.ref b46), .val (.ref b49), .val (.ref b52), .val (.ref b55), .val (.int (0 : Int32)), .unset, .unset, .unset, .unset, .unset, .unset, .unset, .unset, .unset, .unset, .unset, .unset, .unset, .unset, .unset, .unset, .unset, .unset, .unset, .unset, .unset] [(.int (0 : Int32)), (.int (0 : Int32))]))
  refine own_go (fun _ q => XS.icmpYes X62.here hx rfl (pc0 := 150) (pc' := 167) rfl (hb hby d6_150) rfl (flt (by decide : ¬ ((0 : Int32) < (0 : Int32)))).2.1 (by decide) (by decide) q) ?_
  show own_Go _ _ _ _ _ _ _ (T62.setTop (mkF m 167 #[.val (.ref o), .val (.ref qa), .val (.ref b46), .val (.ref b49), .val (.ref b52), .val (.ref b55), .val (.int (0 : Int32)), .unset, .unset, .unset, .unset, .unset, .unset, .unset, .unset, .unset, .unset, .unset, .unset, .unset, .unset, .unset, .unset, .unset, .unset, .unset, .unset, .unset] []))
  refine own_go (fun _ q => XS.iconst X62.here hx rfl (hb hby d6_167) q) ?_
  show own_Go _ _ _ _ _ _ _ (T62.setTop (mkF m 168 #[.val (.ref o), .val (.ref qa), .val (.ref b46), .val (.ref b49), .val (.ref b52), .val (.ref b55), .val (.int (0 : Int32)), .unset, .unset, .unset, .unset, .unset, .unset, .unset, .unset, .unset, .unset, .unset, .unset, .unset, .unset, .unset, .unset, .unset, .unset, .unset, .unset, .unset] [(.int (0 : Int32))]))
  refine own_go (fun _ q => XS.istore X62.here hx rfl (hb hby d6_168) rfl (l' := #[.val (.ref o), .val (.ref qa), .val (.ref b46), .val (.ref b49), .val (.ref b52), .val (.ref b55), .val (.int (0 : Int32)), .unset, .unset, .unset, .unset, .unset, .unset, .unset, .unset, .unset, .unset, .unset, .unset, .unset, .unset, .unset, .unset, .unset, .unset, .unset, .unset, .unset]) rfl q) ?_
  show own_Go _ _ _ _ _ _ _ (T62.setTop (mkF m 170 #[.val (.ref o), .val (.ref qa), .val (.ref b46), .val (.ref b49), .val (.ref b52), .val (.ref b55), .val (.int (0 : Int32)), .unset, .unset, .unset, .unset, .unset, .unset, .unset, .unset, .unset, .unset, .unset, .unset, .unset, .unset, .unset, .unset, .unset, .unset, .unset, .unset, .unset] []))
  refine own_go (fun _ q => XS.iload X62.here hx rfl (hb hby d6_170) rfl q) ?_
  show own_Go _ _ _ _ _ _ _ (T62.setTop (mkF m 172 #[.val (.ref o), .val (.ref qa), .val (.ref b46), .val (.ref b49), .val (.ref b52), .val (.ref b55), .val (.int (0 : Int32)), .unset, .unset, .unset, .unset, .unset, .unset, .unset, .unset, .unset, .unset, .unset, .unset, .unset, .unset, .unset, .unset, .unset, .unset, .unset, .unset, .unset] [(.int (0 : Int32))]))
  refine own_go (fun _ q => XS.aloadN X62.here hx rfl (hb hby d6_172) rfl rfl q) ?_
  show own_Go _ _ _ _ _ _ _ (T62.setTop (mkF m 173 #[.val (.ref o), .val (.ref qa), .val (.ref b46), .val (.ref b49), .val (.ref b52), .val (.ref b55), .val (.int (0 : Int32)), .unset, .unset, .unset, .unset, .unset, .unset, .unset, .unset, .unset, .unset, .unset, .unset, .unset, .unset, .unset, .unset, .unset, .unset, .unset, .unset, .unset] [(.ref o), (.int (0 : Int32))]))
  obtain ⟨T63, X63, e63, st63⟩ := getF X62 hx hZ hown (host := "") (Or.inl (hw _ (List.mem_of_getElem? (i := 142) rfl))) Via.refl e62 f61 (g := (mkF m 173 #[.val (.ref o), .val (.ref qa), .val (.ref b46), .val (.ref b49), .val (.ref b52), .val (.ref b55), .val (.int (0 : Int32)), .unset, .unset, .unset, .unset, .unset, .unset, .unset, .unset, .unset, .unset, .unset, .unset, .unset, .unset, .unset, .unset, .unset, .unset, .unset, .unset, .unset] [(.ref o), (.int (0 : Int32))])) rfl rfl (hb hby d6_173)
  refine own_go st63 ?_
  show own_Go _ _ _ _ _ _ _ (T63.setTop (mkF m 176 #[.val (.ref o), .val (.ref qa), .val (.ref b46), .val (.ref b49), .val (.ref b52), .val (.ref b55), .val (.int (0 : Int32)), .unset, .unset, .unset, .unset, .unset, .unset, .unset, .unset, .unset, .unset, .unset, .unset, .unset, .unset, .unset, .unset, .unset, .unset, .unset, .unset, .unset] [(.int (0 : Int32)), (.int (0 : Int32))]))
  refine own_go (fun _ q => XS.icmpYes X63.here hx rfl (pc0 := 176) (pc' := 262) rfl (hb hby d6_176) rfl (flt (by decide : ¬ ((0 : Int32) < (0 : Int32)))).2.1 (by decide) (by decide) q) ?_
  show own_Go _ _ _ _ _ _ _ (T63.setTop (mkF m 262 #[.val (.ref o), .val (.ref qa), .val (.ref b46), .val (.ref b49), .val (.ref b52), .val (.ref b55), .val (.int (0 : Int32)), .unset, .unset, .unset, .unset, .unset, .unset, .unset, .unset, .unset, .unset, .unset, .unset, .unset, .unset, .unset, .unset, .unset, .unset, .unset, .unset, .unset] []))
  refine own_go (fun _ q => XS.aloadN X63.here hx rfl (hb hby d6_262) rfl rfl q) ?_
  show own_Go _ _ _ _ _ _ _ (T63.setTop (mkF m 263 #[.val (.ref o), .val (.ref qa), .val (.ref b46), .val (.ref b49), .val (.ref b52), .val (.ref b55), .val (.int (0 : Int32)), .unset, .unset, .unset, .unset, .unset, .unset, .unset, .unset, .unset, .unset, .unset, .unset, .unset, .unset, .unset, .unset, .unset, .unset, .unset, .unset, .unset] [(.ref o)]))
  obtain ⟨T64, X64, e64, st64⟩ := getF X63 hx hZ hown (host := "") (Or.inl (hw _ (List.mem_of_getElem? (i := 142) rfl))) Via.refl e63 f61 (g := (mkF m 263 #[.val (.ref o), .val (.ref qa), .val (.ref b46), .val (.ref b49), .val (.ref b52), .val (.ref b55), .val (.int (0 : Int32)), .unset, .unset, .unset, .unset, .unset, .unset, .unset, .unset, .unset, .unset, .unset, .unset, .unset, .unset, .unset, .unset, .unset, .unset, .unset, .unset, .unset] [(.ref o)])) rfl rfl (hb hby d6_263)
  refine own_go st64 ?_
  show own_Go _ _ _ _ _ _ _ (T64.setTop (mkF m 266 #[.val (.ref o), .val (.ref qa), .val (.ref b46), .val (.ref b49), .val (.ref b52), .val (.ref b55), .val (.int (0 : Int32)), .unset, .unset, .unset, .unset, .unset, .unset, .unset, .unset, .unset, .unset, .unset, .unset, .unset, .unset, .unset, .unset, .unset, .unset, .unset, .unset, .unset] [(.int (0 : Int32))]))
  obtain ⟨T65, h65, k65, X65, e65, E65, Aw65, st65⟩ := newP X64 hx hZ (hw _ (List.mem_of_getElem? (i := 58) rfl)) e64 (g := (mkF m 266 #[.val (.ref o), .val (.ref qa), .val (.ref b46), .val (.ref b49), .val (.ref b52), .val (.ref b55), .val (.int (0 : Int32)), .unset, .unset, .unset, .unset, .unset, .unset, .unset, .unset, .unset, .unset, .unset, .unset, .unset, .unset, .unset, .unset, .unset, .unset, .unset, .unset, .unset] [(.int (0 : Int32))])) rfl (hb hby d6_266) rfl (by decide) (cap := 0) (by decide) (by decide) (by decide) (by decide)
  obtain ⟨b65, g65⟩ : ∃ z, z = h55.size := ⟨_, rfl⟩
  rw [← g65] at Aw65 st65
  have G65 : n0 ≤ b65 := Nat.le_trans Z55 (Nat.le_of_eq g65.symm)
  have Z65 : n0 ≤ h65.size := Nat.le_trans Z55 E65.1
  refine own_go st65 ?_
  show own_Go _ _ _ _ _ _ _ (T65.setTop (mkF m 268 #[.val (.ref o), .val (.ref qa), .val (.ref b46), .val (.ref b49), .val (.ref b52), .val (.ref b55), .val (.int (0 : Int32)), .unset, .unset, .unset, .unset, .unset, .unset, .unset, .unset, .unset, .unset, .unset, .unset, .unset, .unset, .unset, .unset, .unset, .unset, .unset, .unset, .unset] [(.ref b65)]))
  refine own_go (fun _ q => XS.astore X65.here hx rfl (hb hby d6_268) rfl rfl (l' := #[.val (.ref o), .val (.ref qa), .val (.ref b46), .val (.ref b49), .val (.ref b52), .val (.ref b55), .val (.ref b65), .unset, .unset, .unset, .unset, .unset, .unset, .unset, .unset, .unset, .unset, .unset, .unset, .unset, .unset, .unset, .unset, .unset, .unset, .unset, .unset, .unset]) rfl q) ?_
  show own_Go _ _ _ _ _ _ _ (T65.setTop (mkF m 270 #[.val (.ref o), .val (.ref qa), .val (.ref b46), .val (.ref b49), .val (.ref b52), .val (.ref b55), .val (.ref b65), .unset, .unset, .unset, .unset, .unset, .unset, .unset, .unset, .unset, .unset, .unset, .unset, .unset, .unset, .unset, .unset, .unset, .unset, .unset, .unset, .unset] []))
  refine own_go (fun _ q => XS.aloadN X65.here hx rfl (hb hby d6_270) rfl rfl q) ?_
  show own_Go _ _ _ _ _ _ _ (T65.setTop (mkF m 271 #[.val (.ref o), .val (.ref qa), .val (.ref b46), .val (.ref b49), .val (.ref b52), .val (.ref b55), .val (.ref b65), .unset, .unset, .unset, .unset, .unset, .unset, .unset, .unset, .unset, .unset, .unset, .unset, .unset, .unset, .unset, .unset, .unset, .unset, .unset, .unset, .unset] [(.ref o)]))
  have f67 := (f61.ext E65)
  obtain ⟨T66, X66, e66, st66⟩ := getF X65 hx hZ hown (host := "") (Or.inl (hw _ (List.mem_of_getElem? (i := 142) rfl))) Via.refl e65 f67 (g := (mkF m 271 #[.val (.ref o), .val (.ref qa), .val (.ref b46), .val (.ref b49), .val (.ref b52), .val (.ref b55), .val (.ref b65), .unset, .unset, .unset, .unset, .unset, .unset, .unset, .unset, .unset, .unset, .unset, .unset, .unset, .unset, .unset, .unset, .unset, .unset, .unset, .unset, .unset] [(.ref o)])) rfl rfl (hb hby d6_271)
  refine own_go st66 ?_
  show own_Go _ _ _ _ _ _ _ (T66.setTop (mkF m 274 #[.val (.ref o), .val (.ref qa), .val (.ref b46), .val (.ref b49), .val (.ref b52), .val (.ref b55), .val (.ref b65), .unset, .unset, .unset, .unset, .unset, .unset, .unset, .unset, .unset, .unset, .unset, .unset, .unset, .unset, .unset, .unset, .unset, .unset, .unset, .unset, .unset] [(.int (0 : Int32))]))
  obtain ⟨T68, h68, k68, X68, e68, E68, Aw68, st68⟩ := newP X66 hx hZ (hw _ (List.mem_of_getElem? (i := 58) rfl)) e66 (g := (mkF m 274 #[.val (.ref o), .val (.ref qa), .val (.ref b46), .val (.ref b49), .val (.ref b52), .val (.ref b55), .val (.ref b65), .unset, .unset, .unset, .unset, .unset, .unset, .unset, .unset, .unset, .unset, .unset, .unset, .unset, .unset, .unset, .unset, .unset, .unset, .unset, .unset, .unset] [(.int (0 : Int32))])) rfl (hb hby d6_274) rfl (by decide) (cap := 0) (by decide) (by decide) (by decide) (by decide)
  obtain ⟨b68, g68⟩ : ∃ z, z = h65.size := ⟨_, rfl⟩
  rw [← g68] at Aw68 st68
  have G68 : n0 ≤ b68 := Nat.le_trans Z65 (Nat.le_of_eq g68.symm)
  have Z68 : n0 ≤ h68.size := Nat.le_trans Z65 E68.1
  refine own_go st68 ?_
  show own_Go _ _ _ _ _ _ _ (T68.setTop (mkF m 276 #[.val (.ref o), .val (.ref qa), .val (.ref b46), .val (.ref b49), .val (.ref b52), .val (.ref b55), .val (.ref b65), .unset, .unset, .unset, .unset, .unset, .unset, .unset, .unset, .unset, .unset, .unset, .unset, .unset, .unset, .unset, .unset, .unset, .unset, .unset, .unset, .unset] [(.ref b68)]))
  refine own_go (fun _ q => XS.astore X68.here hx rfl (hb hby d6_276) rfl rfl (l' := #[.val (.ref o), .val (.ref qa), .val (.ref b46), .val (.ref b49), .val (.ref b52), .val (.ref b55), .val (.ref b65), .val (.ref b68), .unset, .unset, .unset, .unset, .unset, .unset, .unset, .unset, .unset, .unset, .unset, .unset, .unset, .unset, .unset, .unset, .unset, .unset, .unset, .unset]) rfl q) ?_
  show own_Go _ _ _ _ _ _ _ (T68.setTop (mkF m 278 #[.val (.ref o), .val (.ref qa), .val (.ref b46), .val (.ref b49), .val (.ref b52), .val (.ref b55), .val (.ref b65), .val (.ref b68), .unset, .unset, .unset, .unset, .unset, .unset, .unset, .unset, .unset, .unset, .unset, .unset, .unset, .unset, .unset, .unset, .unset, .unset, .unset, .unset] []))
  refine own_go (fun _ q => XS.aload X68.here hx rfl (hb hby d6_278) rfl rfl q) ?_
  show own_Go _ _ _ _ _ _ _ (T68.setTop (mkF m 280 #[.val (.ref o), .val (.ref qa), .val (.ref b46), .val (.ref b49), .val (.ref b52), .val (.ref b55), .val (.ref b65), .val (.ref b68), .unset, .unset, .unset, .unset, .unset, .unset, .unset, .unset, .unset, .unset, .unset, .unset, .unset, .unset, .unset, .unset, .unset, .unset, .unset, .unset] [(.ref b55)]))
  have f70 := ((A55.ext E65).ext E68)
  have f71 := ((Ex55.ext E65).ext E68)
  obtain ⟨T69, h69, X69, e69, E69, Ex69, st69⟩ := own_clone0 X68 hx hZ hown (ad := "[I") (hw _ (List.mem_of_getElem? (i := 160) rfl)) (hw _ (List.mem_of_getElem? (i := 161) rfl)) (hw _ (List.mem_of_getElem? (i := 165) rfl)) (hw _ (List.mem_of_getElem? (i := 163) rfl)) (hw _ (List.mem_of_getElem? (i := 164) rfl)) (hw _ (List.mem_of_getElem? (i := 166) rfl)) e68 f70 f71 (g := (mkF m 280 #[.val (.ref o), .val (.ref qa), .val (.ref b46), .val (.ref b49), .val (.ref b52), .val (.ref b55), .val (.ref b65), .val (.ref b68), .unset, .unset, .unset, .unset, .unset, .unset, .unset, .unset, .unset, .unset, .unset, .unset, .unset, .unset, .unset, .unset, .unset, .unset, .unset, .unset] [(.ref b55)])) rfl (by rw [hml]; rfl) rfl (hb hby d6_280) (by decide) (W := 0) (by show 2 * 0 + _ ≤ _; exact Nat.le_of_eq rfl) (by decide) (by decide) (by decide)
  obtain ⟨b69, g69⟩ : ∃ z, z = h68.size := ⟨_, rfl⟩
  rw [← g69] at Ex69 st69
  have G69 : n0 ≤ b69 := Nat.le_trans Z68 (Nat.le_of_eq g69.symm)
  have Z69 : n0 ≤ h69.size := Nat.le_trans Z68 E69.1
  refine own_go st69 ?_
  show own_Go _ _ _ _ _ _ _ (T69.setTop (mkF m 283 #[.val (.ref o), .val (.ref qa), .val (.ref b46), .val (.ref b49), .val (.ref b52), .val (.ref b55), .val (.ref b65), .val (.ref b68), .unset, .unset, .unset, .unset, .unset, .unset, .unset, .unset, .unset, .unset, .unset, .unset, .unset, .unset, .unset, .unset, .unset, .unset, .unset, .unset] [(.ref b69)]))
  obtain ⟨T72, X72, e72, st72⟩ := castY X69 hx hZ hown (hw _ (List.mem_of_getElem? (i := 148) rfl)) e69 (Ins.self Ex69) (g := (mkF m 283 #[.val (.ref o), .val (.ref qa), .val (.ref b46), .val (.ref b49), .val (.ref b52), .val (.ref b55), .val (.ref b65), .val (.ref b68), .unset, .unset, .unset, .unset, .unset, .unset, .unset, .unset, .unset, .unset, .unset, .unset, .unset, .unset, .unset, .unset, .unset, .unset, .unset, .unset] [(.ref b69)])) rfl rfl (hb hby d6_283)
  refine own_go st72 ?_
  show own_Go _ _ _ _ _ _ _ (T72.setTop (mkF m 286 #[.val (.ref o), .val (.ref qa), .val (.ref b46), .val (.ref b49), .val (.ref b52), .val (.ref b55), .val (.ref b65), .val (.ref b68), .unset, .unset, .unset, .unset, .unset, .unset, .unset, .unset, .unset, .unset, .unset, .unset, .unset, .unset, .unset, .unset, .unset, .unset, .unset, .unset] [(.ref b69)]))
  refine own_go (fun _ q => XS.astore X72.here hx rfl (hb hby d6_286) rfl rfl (l' := #[.val (.ref o), .val (.ref qa), .val (.ref b46), .val (.ref b49), .val (.ref b52), .val (.ref b55), .val (.ref b65), .val (.ref b68), .val (.ref b69), .unset, .unset, .unset, .unset, .unset, .unset, .unset, .unset, .unset, .unset, .unset, .unset, .unset, .unset, .unset, .unset, .unset, .unset, .unset]) rfl q) ?_
  show own_Go _ _ _ _ _ _ _ (T72.setTop (mkF m 288 #[.val (.ref o), .val (.ref qa), .val (.ref b46), .val (.ref b49), .val (.ref b52), .val (.ref b55), .val (.ref b65), .val (.ref b68), .val (.ref b69), .unset, .unset, .unset, .unset, .unset, .unset, .unset, .unset, .unset, .unset, .unset, .unset, .unset, .unset, .unset, .unset, .unset, .unset, .unset] []))
  refine own_go (fun _ q => XS.aloadN X72.here hx rfl (hb hby d6_288) rfl rfl q) ?_
  show own_Go _ _ _ _ _ _ _ (T72.setTop (mkF m 289 #[.val (.ref o), .val (.ref qa), .val (.ref b46), .val (.ref b49), .val (.ref b52), .val (.ref b55), .val (.ref b65), .val (.ref b68), .val (.ref b69), .unset, .unset, .unset, .unset, .unset, .unset, .unset, .unset, .unset, .unset, .unset, .unset, .unset, .unset, .unset, .unset, .unset, .unset, .unset] [(.ref o)]))
  have f74 := ((f67.ext E68).ext E69)
  obtain ⟨T73, X73, e73, st73⟩ := getF X72 hx hZ hown (host := "") (Or.inl (hw _ (List.mem_of_getElem? (i := 142) rfl))) Via.refl e72 f74 (g := (mkF m 289 #[.val (.ref o), .val (.ref qa), .val (.ref b46), .val (.ref b49), .val (.ref b52), .val (.ref b55), .val (.ref b65), .val (.ref b68), .val (.ref b69), .unset, .unset, .unset, .unset, .unset, .unset, .unset, .unset, .unset, .unset, .unset, .unset, .unset, .unset, .unset, .unset, .unset, .unset, .unset] [(.ref o)])) rfl rfl (hb hby d6_289)
  refine own_go st73 ?_
  show own_Go _ _ _ _ _ _ _ (T73.setTop (mkF m 292 #[.val (.ref o), .val (.ref qa), .val (.ref b46), .val (.ref b49), .val (.ref b52), .val (.ref b55), .val (.ref b65), .val (.ref b68), .val (.ref b69), .unset, .unset, .unset, .unset, .unset, .unset, .unset, .unset, .unset, .unset, .unset, .unset, .unset, .unset, .unset, .unset, .unset, .unset, .unset] [(.int (0 : Int32))]))
  refine own_go (fun _ q => XS.aloadN X73.here hx rfl (hb hby d6_292) rfl rfl q) ?_
  show own_Go _ _ _ _ _ _ _ (T73.setTop (mkF m 293 #[.val (.ref o), .val (.ref qa), .val (.ref b46), .val (.ref b49), .val (.ref b52), .val (.ref b55), .val (.ref b65), .val (.ref b68), .val (.ref b69), .unset, .unset, .unset, .unset, .unset, .unset, .unset, .unset, .unset, .unset, .unset, .unset, .unset, .unset, .unset, .unset, .unset, .unset, .unset] [(.ref o), (.int (0 : Int32))]))
  obtain ⟨T75, X75, e75, st75⟩ := getF X73 hx hZ hown (host := "") (Or.inl (hw _ (List.mem_of_getElem? (i := 142) rfl))) Via.refl e73 f74 (g := (mkF m 293 #[.val (.ref o), .val (.ref qa), .val (.ref b46), .val (.ref b49), .val (.ref b52), .val (.ref b55), .val (.ref b65), .val (.ref b68), .val (.ref b69), .unset, .unset, .unset, .unset, .unset, .unset, .unset, .unset, .unset, .unset, .unset, .unset, .unset, .unset, .unset, .unset, .unset, .unset, .unset] [(.ref o), (.int (0 : Int32))])) rfl rfl (hb hby d6_293)
  refine own_go st75 ?_
  show own_Go _ _ _ _ _ _ _ (T75.setTop (mkF m 296 #[.val (.ref o), .val (.ref qa), .val (.ref b46), .val (.ref b49), .val (.ref b52), .val (.ref b55), .val (.ref b65), .val (.ref b68), .val (.ref b69), .unset, .unset, .unset, .unset, .unset, .unset, .unset, .unset, .unset, .unset, .unset, .unset, .unset, .unset, .unset, .unset, .unset, .unset, .unset] [(.int (0 : Int32)), (.int (0 : Int32))]))
  obtain ⟨T76, h76, cA76, cB76, X76, e76, E76, -, -, -, -, st76⟩ := gridM X75 hx hZ hown (C := "[Z") (ad := "[[Z") (ty := .boolean) (by decide) (by decide) (hw _ (List.mem_of_getElem? (i := 167) rfl)) (hw _ (List.mem_of_getElem? (i := 168) rfl)) (hw _ (List.mem_of_getElem? (i := 58) rfl)) e75 (g := (mkF m 296 #[.val (.ref o), .val (.ref qa), .val (.ref b46), .val (.ref b49), .val (.ref b52), .val (.ref b55), .val (.ref b65), .val (.ref b68), .val (.ref b69), .unset, .unset, .unset, .unset, .unset, .unset, .unset, .unset, .unset, .unset, .unset, .unset, .unset, .unset, .unset, .unset, .unset, .unset, .unset] [(.int (0 : Int32)), (.int (0 : Int32))])) rfl (hb hby d6_296) rfl (by decide) (by decide) (N := 0) rfl (xs := []) rfl (cap := 0) (by decide) (by decide) (by decide) (by decide) (by decide) (by decide) (by decide)
  obtain ⟨b76, g76⟩ : ∃ z, z = h69.size := ⟨_, rfl⟩
  rw [← g76] at st76
  have G76 : n0 ≤ b76 := Nat.le_trans Z69 (Nat.le_of_eq g76.symm)
  have Z76 : n0 ≤ h76.size := Nat.le_trans Z69 E76.1
  refine own_go st76 ?_
  show own_Go _ _ _ _ _ _ _ (T76.setTop (mkF m 300 #[.val (.ref o), .val (.ref qa), .val (.ref b46), .val (.ref b49), .val (.ref b52), .val (.ref b55), .val (.ref b65), .val (.ref b68), .val (.ref b69), .unset, .unset, .unset, .unset, .unset, .unset, .unset, .unset, .unset, .unset, .unset, .unset, .unset, .unset, .unset, .unset, .unset, .unset, .unset] [(.ref b76)]))
  refine own_go (fun _ q => XS.astore X76.here hx rfl (hb hby d6_300) rfl rfl (l' := #[.val (.ref o), .val (.ref qa), .val (.ref b46), .val (.ref b49), .val (.ref b52), .val (.ref b55), .val (.ref b65), .val (.ref b68), .val (.ref b69), .val (.ref b76), .unset, .unset, .unset, .unset, .unset, .unset, .unset, .unset, .unset, .unset, .unset, .unset, .unset, .unset, .unset, .unset, .unset, .unset]) rfl q) ?_
  show own_Go _ _ _ _ _ _ _ (T76.setTop (mkF m 302 #[.val (.ref o), .val (.ref qa), .val (.ref b46), .val (.ref b49), .val (.ref b52), .val (.ref b55), .val (.ref b65), .val (.ref b68), .val (.ref b69), .val (.ref b76), .unset, .unset, .unset, .unset, .unset, .unset, .unset, .unset, .unset, .unset, .unset, .unset, .unset, .unset, .unset, .unset, .unset, .unset] []))
  refine own_go (fun _ q => XS.iconst X76.here hx rfl (hb hby d6_302) q) ?_
  show own_Go _ _ _ _ _ _ _ (T76.setTop (mkF m 303 #[.val (.ref o), .val (.ref qa), .val (.ref b46), .val (.ref b49), .val (.ref b52), .val (.ref b55), .val (.ref b65), .val (.ref b68), .val (.ref b69), .val (.ref b76), .unset, .unset, .unset, .unset, .unset, .unset, .unset, .unset, .unset, .unset, .unset, .unset, .unset, .unset, .unset, .unset, .unset, .unset] [(.int (0 : Int32))]))
  refine own_go (fun _ q => XS.istore X76.here hx rfl (hb hby d6_303) rfl (l' := #[.val (.ref o), .val (.ref qa), .val (.ref b46), .val (.ref b49), .val (.ref b52), .val (.ref b55), .val (.ref b65), .val (.ref b68), .val (.ref b69), .val (.ref b76), .val (.int (0 : Int32)), .unset, .unset, .unset, .unset, .unset, .unset, .unset, .unset, .unset, .unset, .unset, .unset, .unset, .unset, .unset, .unset, .unset]) rfl q) ?_
  show own_Go _ _ _ _ _ _ _ (T76.setTop (mkF m 305 #[.val (.ref o), .val (.ref qa), .val (.ref b46), .val (.ref b49), .val (.ref b52), .val (.ref b55), .val (.ref b65), .val (.ref b68), .val (.ref b69), .val (.ref b76), .val (.int (0 : Int32)), .unset, .unset, .unset, .unset, .unset, .unset, .unset, .unset, .unset, .unset, .unset, .unset, .unset, .unset, .unset, .unset, .unset] []))
  refine own_go (fun _ q => XS.iload X76.here hx rfl (hb hby d6_305) rfl q) ?_
  show own_Go _ _ _ _ _ _ _ (T76.setTop (mkF m 307 #[.val (.ref o), .val (.ref qa), .val (.ref b46), .val (.ref b49), .val (.ref b52), .val (.ref b55), .val (.ref b65), .val (.ref b68), .val (.ref b69), .val (.ref b76), .val (.int (0 : Int32)), .unset, .unset, .unset, .unset, .unset, .unset, .unset, .unset, .unset, .unset, .unset, .unset, .unset, .unset, .unset, .unset, .unset] [(.int (0 : Int32))]))
  refine own_go (fun _ q => XS.aloadN X76.here hx rfl (hb hby d6_307) rfl rfl q) ?_
  show own_Go _ _ _ _ _ _ _ (T76.setTop (mkF m 308 #[.val (.ref o), .val (.ref qa), .val (.ref b46), .val (.ref b49), .val (.ref b52), .val (.ref b55), .val (.ref b65), .val (.ref b68), .val (.ref b69), .val (.ref b76), .val (.int (0 : Int32)), .unset, .unset, .unset, .unset, .unset, .unset, .unset, .unset, .unset, .unset, .unset, .unset, .unset, .unset, .unset, .unset, .unset] [(.ref o), (.int (0 : Int32))]))
  have f78 := (f74.ext E76)
  obtain ⟨T77, X77, e77, st77⟩ := getF X76 hx hZ hown (host := "") (Or.inl (hw _ (List.mem_of_getElem? (i := 142) rfl))) Via.refl e76 f78 (g := (mkF m 308 #[.val (.ref o), .val (.ref qa), .val (.ref b46), .val (.ref b49), .val (.ref b52), .val (.ref b55), .val (.ref b65), .val (.ref b68), .val (.ref b69), .val (.ref b76), .val (.int (0 : Int32)), .unset, .unset, .unset, .unset, .unset, .unset, .unset, .unset, .unset, .unset, .unset, .unset, .unset, .unset, .unset, .unset, .unset] [(.ref o), (.int (0 : Int32))])) rfl rfl (hb hby d6_308)
  refine own_go st77 ?_
  show own_Go _ _ _ _ _ _ _ (T77.setTop (mkF m 311 #[.val (.ref o), .val (.ref qa), .val (.ref b46), .val (.ref b49), .val (.ref b52), .val (.ref b55), .val (.ref b65), .val (.ref b68), .val (.ref b69), .val (.ref b76), .val (.int (0 : Int32)), .unset, .unset, .unset, .unset, .unset, .unset, .unset, .unset, .unset, .unset, .unset, .unset, .unset, .unset, .unset, .unset, .unset] [(.int (0 : Int32)), (.int (0 : Int32))]))
  refine own_go (fun _ q => XS.icmpYes X77.here hx rfl (pc0 := 311) (pc' := 363) rfl (hb hby d6_311) rfl (flt (by decide : ¬ ((0 : Int32) < (0 : Int32)))).2.1 (by decide) (by decide) q) ?_
  show own_Go _ _ _ _ _ _ _ (T77.setTop (mkF m 363 #[.val (.ref o), .val (.ref qa), .val (.ref b46), .val (.ref b49), .val (.ref b52), .val (.ref b55), .val (.ref b65), .val (.ref b68), .val (.ref b69), .val (.ref b76), .val (.int (0 : Int32)), .unset, .unset, .unset, .unset, .unset, .unset, .unset, .unset, .unset, .unset, .unset, .unset, .unset, .unset, .unset, .unset, .unset] []))
  refine own_go (fun _ q => XS.iconst X77.here hx rfl (hb hby d6_363) q) ?_
  show own_Go _ _ _ _ _ _ _ (T77.setTop (mkF m 364 #[.val (.ref o), .val (.ref qa), .val (.ref b46), .val (.ref b49), .val (.ref b52), .val (.ref b55), .val (.ref b65), .val (.ref b68), .val (.ref b69), .val (.ref b76), .val (.int (0 : Int32)), .unset, .unset, .unset, .unset, .unset, .unset, .unset, .unset, .unset, .unset, .unset, .unset, .unset, .unset, .unset, .unset, .unset] [(.int (0 : Int32))]))
  refine own_go (fun _ q => XS.istore X77.here hx rfl (hb hby d6_364) rfl (l' := #[.val (.ref o), .val (.ref qa), .val (.ref b46), .val (.ref b49), .val (.ref b52), .val (.ref b55), .val (.ref b65), .val (.ref b68), .val (.ref b69), .val (.ref b76), .val (.int (0 : Int32)), .unset, .unset, .unset, .unset, .unset, .unset, .unset, .unset, .unset, .unset, .unset, .unset, .unset, .unset, .unset, .unset, .unset]) rfl q) ?_
  show own_Go _ _ _ _ _ _ _ (T77.setTop (mkF m 366 #[.val (.ref o), .val (.ref qa), .val (.ref b46), .val (.ref b49), .val (.ref b52), .val (.ref b55), .val (.ref b65), .val (.ref b68), .val (.ref b69), .val (.ref b76), .val (.int (0 : Int32)), .unset, .unset, .unset, .unset, .unset, .unset, .unset, .unset, .unset, .unset, .unset, .unset, .unset, .unset, .unset, .unset, .unset] []))
  refine own_go (fun _ q => XS.iload X77.here hx rfl (hb hby d6_366) rfl q) ?_
  show own_Go _ _ _ _ _ _ _ (T77.setTop (mkF m 368 #[.val (.ref o), .val (.ref qa), .val (.ref b46), .val (.ref b49), .val (.ref b52), .val (.ref b55), .val (.ref b65), .val (.ref b68), .val (.ref b69), .val (.ref b76), .val (.int (0 : Int32)), .unset, .unset, .unset, .unset, .unset, .unset, .unset, .unset, .unset, .unset, .unset, .unset, .unset, .unset, .unset, .unset, .unset] [(.int (0 : Int32))]))
  refine own_go (fun _ q => XS.aloadN X77.here hx rfl (hb hby d6_368) rfl rfl q) ?_
  show own_Go _ _ _ _ _ _ _ (T77.setTop (mkF m 369 #[.val (.ref o), .val (.ref qa), .val (.ref b46), .val (.ref b49), .val (.ref b52), .val (.ref b55), .val (.ref b65), .val (.ref b68), .val (.ref b69), .val (.ref b76), .val (.int (0 : Int32)), .unset, .unset, .unset, .unset, .unset, .unset, .unset, .unset, .unset, .unset, .unset, .unset, .unset, .unset, .unset, .unset, .unset] [(.ref o), (.int (0 : Int32))]))
  obtain ⟨T79, X79, e79, st79⟩ := getF X77 hx hZ hown (host := "") (Or.inl (hw _ (List.mem_of_getElem? (i := 142) rfl))) Via.refl e77 f78 (g := (mkF m 369 #[.val (.ref o), .val (.ref qa), .val (.ref b46), .val (.ref b49), .val (.ref b52), .val (.ref b55), .val (.ref b65), .val (.ref b68), .val (.ref b69), .val (.ref b76), .val (.int (0 : Int32)), .unset, .unset, .unset, .unset, .unset, .unset, .unset, .unset, .unset, .unset, .unset, .unset, .unset, .unset, .unset, .unset, .unset] [(.ref o), (.int (0 : Int32))])) rfl rfl (hb hby d6_369)
  refine own_go st79 ?_
  show own_Go _ _ _ _ _ _ _ (T79.setTop (mkF m 372 #[.val (.ref o), .val (.ref qa), .val (.ref b46), .val (.ref b49), .val (.ref b52), .val (.ref b55), .val (.ref b65), .val (.ref b68), .val (.ref b69), .val (.ref b76), .val (.int (0 : Int32)), .unset, .unset, .unset, .unset, .unset, .unset, .unset, .unset, .unset, .unset, .unset, .unset, .unset, .unset, .unset, .unset, .unset] [(.int (0 : Int32)), (.int (0 : Int32))]))
  refine own_go (fun _ q => XS.icmpYes X79.here hx rfl (pc0 := 372) (pc' := 886) rfl (hb hby d6_372) rfl (flt (by decide : ¬ ((0 : Int32) < (0 : Int32)))).2.1 (by decide) (by decide) q) ?_
  show own_Go _ _ _ _ _ _ _ (T79.setTop (mkF m 886 #[.val (.ref o), .val (.ref qa), .val (.ref b46), .val (.ref b49), .val (.ref b52), .val (.ref b55), .val (.ref b65), .val (.ref b68), .val (.ref b69), .val (.ref b76), .val (.int (0 : Int32)), .unset, .unset, .unset, .unset, .unset, .unset, .unset, .unset, .unset, .unset, .unset, .unset, .unset, .unset, .unset, .unset, .unset] []))
  have K : Keep h0 h76 [o] := ((((((((((((((((((((((((Keep.refl h0 [o]).wr W2 (Or.inl (List.mem_cons_self ..))).ext E4).wr W5 (Or.inl (List.mem_cons_self ..))).ext E10).wr W11 (Or.inl (List.mem_cons_self ..))).ext E16).wr W17 (Or.inl (List.mem_cons_self ..))).ext E22).wr W23 (Or.inl (List.mem_cons_self ..))).ext E28).wr W29 (Or.inl (List.mem_cons_self ..))).ext E34).wr W35 (Or.inl (List.mem_cons_self ..))).ext E40).wr W41 (Or.inl (List.mem_cons_self ..))).ext E46).ext E49).ext E52).ext E55).ext E65).ext E68).ext E69).ext E76)
  subst e79
  exact own_retV X79 hx hlk hret (hb hby d6_886) (by decide) (by decide) ⟨rfl, N41, K⟩
theorem d5_0 : decode prog_35_method_1_code 0 = .ok (.aload_n 0, 1) := by decide +kernel
theorem d5_1 : decode prog_35_method_1_code 1 = .ok (.invokespecial 1, 3) := by decide +kernel
theorem d5_4 : decode prog_35_method_1_code 4 = .ok (.aload_n 0, 1) := by decide +kernel
theorem d5_5 : decode prog_35_method_1_code 5 = .ok (.iconst 0, 1) := by decide +kernel
theorem d5_6 : decode prog_35_method_1_code 6 = .ok (.newarray .int, 2) := by decide +kernel
theorem d5_8 : decode prog_35_method_1_code 8 = .ok (.putfield 7, 3) := by decide +kernel
theorem d5_11 : decode prog_35_method_1_code 11 = .ok (.aload_n 0, 1) := by decide +kernel
theorem d5_12 : decode prog_35_method_1_code 12 = .ok (.iconst 0, 1) := by decide +kernel
theorem d5_13 : decode prog_35_method_1_code 13 = .ok (.newarray .int, 2) := by decide +kernel
theorem d5_15 : decode prog_35_method_1_code 15 = .ok (.putfield 13, 3) := by decide +kernel
theorem d5_18 : decode prog_35_method_1_code 18 = .ok (.aload_n 0, 1) := by decide +kernel
theorem d5_19 : decode prog_35_method_1_code 19 = .ok (.iconst 0, 1) := by decide +kernel
theorem d5_20 : decode prog_35_method_1_code 20 = .ok (.newarray .int, 2) := by decide +kernel
theorem d5_22 : decode prog_35_method_1_code 22 = .ok (.putfield 16, 3) := by decide +kernel
theorem d5_25 : decode prog_35_method_1_code 25 = .ok (.aload_n 0, 1) := by decide +kernel
theorem d5_26 : decode prog_35_method_1_code 26 = .ok (.iconst 0, 1) := by decide +kernel
theorem d5_27 : decode prog_35_method_1_code 27 = .ok (.newarray .int, 2) := by decide +kernel
theorem d5_29 : decode prog_35_method_1_code 29 = .ok (.putfield 19, 3) := by decide +kernel
theorem d5_32 : decode prog_35_method_1_code 32 = .ok (.aload_n 0, 1) := by decide +kernel
theorem d5_33 : decode prog_35_method_1_code 33 = .ok (.iconst 0, 1) := by decide +kernel
theorem d5_34 : decode prog_35_method_1_code 34 = .ok (.newarray .int, 2) := by decide +kernel
theorem d5_36 : decode prog_35_method_1_code 36 = .ok (.putfield 22, 3) := by decide +kernel
theorem d5_39 : decode prog_35_method_1_code 39 = .ok (.aload_n 0, 1) := by decide +kernel
theorem d5_40 : decode prog_35_method_1_code 40 = .ok (.iconst 0, 1) := by decide +kernel
theorem d5_41 : decode prog_35_method_1_code 41 = .ok (.newarray .int, 2) := by decide +kernel
theorem d5_43 : decode prog_35_method_1_code 43 = .ok (.putfield 25, 3) := by decide +kernel
theorem d5_46 : decode prog_35_method_1_code 46 = .ok (.aload_n 0, 1) := by decide +kernel
theorem d5_47 : decode prog_35_method_1_code 47 = .ok (.iconst 0, 1) := by decide +kernel
theorem d5_48 : decode prog_35_method_1_code 48 = .ok (.newarray .int, 2) := by decide +kernel
theorem d5_50 : decode prog_35_method_1_code 50 = .ok (.putfield 28, 3) := by decide +kernel
theorem d5_53 : decode prog_35_method_1_code 53 = .ok (.aload_n 0, 1) := by decide +kernel
theorem d5_54 : decode prog_35_method_1_code 54 = .ok (.iconst 0, 1) := by decide +kernel
theorem d5_55 : decode prog_35_method_1_code 55 = .ok (.anewarray 31, 3) := by decide +kernel
theorem d5_58 : decode prog_35_method_1_code 58 = .ok (.putfield 32, 3) := by decide +kernel
theorem d5_61 : decode prog_35_method_1_code 61 = .ok (.aload_n 0, 1) := by decide +kernel
theorem d5_62 : decode prog_35_method_1_code 62 = .ok (.iconst 0, 1) := by decide +kernel
theorem d5_63 : decode prog_35_method_1_code 63 = .ok (.anewarray 36, 3) := by decide +kernel
theorem d5_66 : decode prog_35_method_1_code 66 = .ok (.putfield 38, 3) := by decide +kernel
theorem d5_69 : decode prog_35_method_1_code 69 = .ok (.aload_n 0, 1) := by decide +kernel
theorem d5_70 : decode prog_35_method_1_code 70 = .ok (.iconst 0, 1) := by decide +kernel
theorem d5_71 : decode prog_35_method_1_code 71 = .ok (.anewarray 31, 3) := by decide +kernel
theorem d5_74 : decode prog_35_method_1_code 74 = .ok (.putfield 42, 3) := by decide +kernel
theorem d5_77 : decode prog_35_method_1_code 77 = .ok (.aload_n 0, 1) := by decide +kernel
theorem d5_78 : decode prog_35_method_1_code 78 = .ok (.iconst 0, 1) := by decide +kernel
theorem d5_79 : decode prog_35_method_1_code 79 = .ok (.anewarray 36, 3) := by decide +kernel
theorem d5_82 : decode prog_35_method_1_code 82 = .ok (.putfield 45, 3) := by decide +kernel
theorem d5_85 : decode prog_35_method_1_code 85 = .ok (.aload_n 0, 1) := by decide +kernel
theorem d5_86 : decode prog_35_method_1_code 86 = .ok (.iconst 0, 1) := by decide +kernel
theorem d5_87 : decode prog_35_method_1_code 87 = .ok (.newarray .int, 2) := by decide +kernel
theorem d5_89 : decode prog_35_method_1_code 89 = .ok (.putfield 48, 3) := by decide +kernel
theorem d5_92 : decode prog_35_method_1_code 92 = .ok (.aload_n 0, 1) := by decide +kernel
theorem d5_93 : decode prog_35_method_1_code 93 = .ok (.iconst 0, 1) := by decide +kernel
theorem d5_94 : decode prog_35_method_1_code 94 = .ok (.newarray .int, 2) := by decide +kernel
theorem d5_96 : decode prog_35_method_1_code 96 = .ok (.putfield 51, 3) := by decide +kernel
theorem d5_99 : decode prog_35_method_1_code 99 = .ok (.aload_n 0, 1) := by decide +kernel
theorem d5_100 : decode prog_35_method_1_code 100 = .ok (.iconst 0, 1) := by decide +kernel
theorem d5_101 : decode prog_35_method_1_code 101 = .ok (.newarray .double, 2) := by decide +kernel
theorem d5_103 : decode prog_35_method_1_code 103 = .ok (.putfield 54, 3) := by decide +kernel
theorem d5_106 : decode prog_35_method_1_code 106 = .ok (.aload_n 0, 1) := by decide +kernel
theorem d5_107 : decode prog_35_method_1_code 107 = .ok (.iconst 0, 1) := by decide +kernel
theorem d5_108 : decode prog_35_method_1_code 108 = .ok (.newarray .int, 2) := by decide +kernel
theorem d5_110 : decode prog_35_method_1_code 110 = .ok (.putfield 57, 3) := by decide +kernel
theorem d5_113 : decode prog_35_method_1_code 113 = .ok (.aload_n 0, 1) := by decide +kernel
theorem d5_114 : decode prog_35_method_1_code 114 = .ok (.iconst 0, 1) := by decide +kernel
theorem d5_115 : decode prog_35_method_1_code 115 = .ok (.newarray .int, 2) := by decide +kernel
theorem d5_117 : decode prog_35_method_1_code 117 = .ok (.putfield 60, 3) := by decide +kernel
theorem d5_120 : decode prog_35_method_1_code 120 = .ok (.aload_n 0, 1) := by decide +kernel
theorem d5_121 : decode prog_35_method_1_code 121 = .ok (.iconst 0, 1) := by decide +kernel
theorem d5_122 : decode prog_35_method_1_code 122 = .ok (.newarray .double, 2) := by decide +kernel
theorem d5_124 : decode prog_35_method_1_code 124 = .ok (.putfield 63, 3) := by decide +kernel
theorem d5_127 : decode prog_35_method_1_code 127 = .ok (.aload_n 0, 1) := by decide +kernel
theorem d5_128 : decode prog_35_method_1_code 128 = .ok (.iconst 0, 1) := by decide +kernel
theorem d5_129 : decode prog_35_method_1_code 129 = .ok (.newarray .int, 2) := by decide +kernel
theorem d5_131 : decode prog_35_method_1_code 131 = .ok (.putfield 66, 3) := by decide +kernel
theorem d5_134 : decode prog_35_method_1_code 134 = .ok (.aload_n 0, 1) := by decide +kernel
theorem d5_135 : decode prog_35_method_1_code 135 = .ok (.iconst 0, 1) := by decide +kernel
theorem d5_136 : decode prog_35_method_1_code 136 = .ok (.newarray .int, 2) := by decide +kernel
theorem d5_138 : decode prog_35_method_1_code 138 = .ok (.putfield 69, 3) := by decide +kernel
theorem d5_141 : decode prog_35_method_1_code 141 = .ok (.aload_n 0, 1) := by decide +kernel
theorem d5_142 : decode prog_35_method_1_code 142 = .ok (.new 72, 3) := by decide +kernel
theorem d5_145 : decode prog_35_method_1_code 145 = .ok (.dup, 1) := by decide +kernel
theorem d5_146 : decode prog_35_method_1_code 146 = .ok (.iconst 0, 1) := by decide +kernel
theorem d5_147 : decode prog_35_method_1_code 147 = .ok (.anewarray 36, 3) := by decide +kernel
theorem d5_150 : decode prog_35_method_1_code 150 = .ok (.invokespecial 74, 3) := by decide +kernel
theorem d5_153 : decode prog_35_method_1_code 153 = .ok (.putfield 77, 3) := by decide +kernel
theorem d5_156 : decode prog_35_method_1_code 156 = .ok (.aload_n 0, 1) := by decide +kernel
theorem d5_157 : decode prog_35_method_1_code 157 = .ok (.bipush 16, 2) := by decide +kernel
theorem d5_159 : decode prog_35_method_1_code 159 = .ok (.newarray .int, 2) := by decide +kernel
theorem d5_161 : decode prog_35_method_1_code 161 = .ok (.putfield 81, 3) := by decide +kernel
theorem d5_164 : decode prog_35_method_1_code 164 = .ok (.aload_n 0, 1) := by decide +kernel
theorem d5_165 : decode prog_35_method_1_code 165 = .ok (.bipush 16, 2) := by decide +kernel
theorem d5_167 : decode prog_35_method_1_code 167 = .ok (.anewarray 31, 3) := by decide +kernel
theorem d5_170 : decode prog_35_method_1_code 170 = .ok (.putfield 84, 3) := by decide +kernel
theorem d5_173 : decode prog_35_method_1_code 173 = .ok (.aload_n 0, 1) := by decide +kernel
theorem d5_174 : decode prog_35_method_1_code 174 = .ok (.bipush 16, 2) := by decide +kernel
theorem d5_176 : decode prog_35_method_1_code 176 = .ok (.anewarray 36, 3) := by decide +kernel
theorem d5_179 : decode prog_35_method_1_code 179 = .ok (.putfield 87, 3) := by decide +kernel
theorem d5_182 : decode prog_35_method_1_code 182 = .ok (.aload_n 0, 1) := by decide +kernel
theorem d5_183 : decode prog_35_method_1_code 183 = .ok (.iconst 0, 1) := by decide +kernel
theorem d5_184 : decode prog_35_method_1_code 184 = .ok (.newarray .double, 2) := by decide +kernel
theorem d5_186 : decode prog_35_method_1_code 186 = .ok (.putfield 90, 3) := by decide +kernel
theorem d5_189 : decode prog_35_method_1_code 189 = .ok (.aload_n 0, 1) := by decide +kernel
theorem d5_190 : decode prog_35_method_1_code 190 = .ok (.iconst 0, 1) := by decide +kernel
theorem d5_191 : decode prog_35_method_1_code 191 = .ok (.newarray .double, 2) := by decide +kernel
theorem d5_193 : decode prog_35_method_1_code 193 = .ok (.putfield 93, 3) := by decide +kernel
theorem d5_196 : decode prog_35_method_1_code 196 = .ok (.aload_n 0, 1) := by decide +kernel
theorem d5_197 : decode prog_35_method_1_code 197 = .ok (.iconst 0, 1) := by decide +kernel
theorem d5_198 : decode prog_35_method_1_code 198 = .ok (.newarray .double, 2) := by decide +kernel
theorem d5_200 : decode prog_35_method_1_code 200 = .ok (.putfield 96, 3) := by decide +kernel
theorem d5_203 : decode prog_35_method_1_code 203 = .ok (.aload_n 0, 1) := by decide +kernel
theorem d5_204 : decode prog_35_method_1_code 204 = .ok (.iconst 0, 1) := by decide +kernel
theorem d5_205 : decode prog_35_method_1_code 205 = .ok (.newarray .int, 2) := by decide +kernel
theorem d5_207 : decode prog_35_method_1_code 207 = .ok (.putfield 99, 3) := by decide +kernel
theorem d5_210 : decode prog_35_method_1_code 210 = .ok (.aload_n 0, 1) := by decide +kernel
theorem d5_211 : decode prog_35_method_1_code 211 = .ok (.iconst 0, 1) := by decide +kernel
theorem d5_212 : decode prog_35_method_1_code 212 = .ok (.newarray .int, 2) := by decide +kernel
theorem d5_214 : decode prog_35_method_1_code 214 = .ok (.putfield 102, 3) := by decide +kernel
theorem d5_217 : decode prog_35_method_1_code 217 = .ok (.aload_n 0, 1) := by decide +kernel
theorem d5_218 : decode prog_35_method_1_code 218 = .ok (.iload_n 1, 1) := by decide +kernel
theorem d5_219 : decode prog_35_method_1_code 219 = .ok (.putfield 105, 3) := by decide +kernel
theorem d5_222 : decode prog_35_method_1_code 222 = .ok (.aload_n 0, 1) := by decide +kernel
theorem d5_223 : decode prog_35_method_1_code 223 = .ok (.aload_n 2, 1) := by decide +kernel
theorem d5_224 : decode prog_35_method_1_code 224 = .ok (.putfield 109, 3) := by decide +kernel
theorem d5_227 : decode prog_35_method_1_code 227 = .ok (.aload_n 0, 1) := by decide +kernel
theorem d5_228 : decode prog_35_method_1_code 228 = .ok (.aload_n 3, 1) := by decide +kernel
theorem d5_229 : decode prog_35_method_1_code 229 = .ok (.putfield 112, 3) := by decide +kernel
theorem d5_232 : decode prog_35_method_1_code 232 = .ok (.aload_n 0, 1) := by decide +kernel
theorem d5_233 : decode prog_35_method_1_code 233 = .ok (.aload 4, 2) := by decide +kernel
theorem d5_235 : decode prog_35_method_1_code 235 = .ok (.putfield 115, 3) := by decide +kernel
theorem d5_238 : decode prog_35_method_1_code 238 = .ok (.return_, 1) := by decide +kernel
def Q5 (Z : State) (o : Addr) (q1 : Addr) (q2 : Addr) (q3 : Addr) (h0 : Heap) (n0 : Nat) (v : Option Value) (h : Heap) (L : List Loc) : Prop := v = none ∧ Fr n0 L ∧ Keep h0 h [o]
theorem ef_5 (m : MethodId) (x0 : Addr) (x1 : Int32) (x2 : Addr) (x3 : Addr) (x4 : Addr) : entryFrame m #[(.ref x0), (.int x1), (.ref x2), (.ref x3), (.ref x4)] 5 = mkF m 0 #[.val (.ref x0), .val (.int x1), .val (.ref x2), .val (.ref x3), .val (.ref x4)] [] := by first | (simp [entryFrame, mkF, argsToLocals, Value.category]; done) | rfl
set_option maxRecDepth 65536 in
set_option maxHeartbeats 40000000 in
theorem rm5 (l : Launch) (Z : State) (a0 : Array Value) (hw : ∀ d ∈ tables_1, d.before a0 Z = true) (ws : List Jvm.Cond) (o : Addr) (q1 : Addr) (q2 : Addr) (q3 : Addr) (h0 : Heap) (n0 : Nat) (Z0 : n0 ≤ h0.size) (Eo : Exa Z h0 o "com/example/slotwright/slotwright/SimplexBasis") (Po : own_Fs Z a0 h0 o "com/example/slotwright/slotwright/SimplexBasis") (go : n0 ≤ o) :
    own_Met l Z (⟨"com/example/slotwright/slotwright/SimplexBasis", "<init>", "(I[[I[[D[I)V"⟩ : MethodName) prog_35_method_1_code 5 none ({ frames := 2, cells := 60, slots := 80, locals := 55 } : Room) ws #[(.ref o), (.int (2 : Int32)), (.ref q1), (.ref q2), (.ref q3)] h0 (Q5 Z o q1 q2 q3 h0 n0) := by
  refine own_enter (plainFor_of_name (by first | (simp [plainName, overriddenIn]; done) | decide +kernel)) ?_
  intro p e s m below meth c s₁ hx hby hml hown hnm hlk hret hZ X0 e0
  have N0 := Fr.nil n0
  refine own_go (fun _ q => castTop (ef_5 m o (2 : Int32) q1 q2 q3) q) ?_
  show own_Go _ _ _ _ _ _ _ (s₁.setTop (mkF m 0 #[.val (.ref o), .val (.int (2 : Int32)), .val (.ref q1), .val (.ref q2), .val (.ref q3)] []))
  refine own_go (fun _ q => XS.aloadN X0.here hx rfl (hb hby d5_0) rfl rfl q) ?_
  show own_Go _ _ _ _ _ _ _ (s₁.setTop (mkF m 1 #[.val (.ref o), .val (.int (2 : Int32)), .val (.ref q1), .val (.ref q2), .val (.ref q3)] [(.ref o)]))
  obtain ⟨T1, X1, e1, st1⟩ := initO X0 hx hZ hown (hw _ (List.mem_of_getElem? (i := 94) rfl)) (hw _ (List.mem_of_getElem? (i := 9) rfl)) (hw _ (List.mem_of_getElem? (i := 10) rfl)) e0 (g := (mkF m 1 #[.val (.ref o), .val (.int (2 : Int32)), .val (.ref q1), .val (.ref q2), .val (.ref q3)] [(.ref o)])) rfl (by rw [hml]; rfl) rfl (hb hby d5_1) (by decide) (W := 0) (by show 2 * 0 + _ ≤ _; exact Nat.le_of_eq rfl) (by decide)
  refine own_go st1 ?_
  show own_Go _ _ _ _ _ _ _ (T1.setTop (mkF m 4 #[.val (.ref o), .val (.int (2 : Int32)), .val (.ref q1), .val (.ref q2), .val (.ref q3)] []))
  refine own_go (fun _ q => XS.aloadN X1.here hx rfl (hb hby d5_4) rfl rfl q) ?_
  show own_Go _ _ _ _ _ _ _ (T1.setTop (mkF m 5 #[.val (.ref o), .val (.int (2 : Int32)), .val (.ref q1), .val (.ref q2), .val (.ref q3)] [(.ref o)]))
  refine own_go (fun _ q => XS.iconst X1.here hx rfl (hb hby d5_5) q) ?_
  show own_Go _ _ _ _ _ _ _ (T1.setTop (mkF m 6 #[.val (.ref o), .val (.int (2 : Int32)), .val (.ref q1), .val (.ref q2), .val (.ref q3)] [(.int (0 : Int32)), (.ref o)]))
  obtain ⟨T2, h2, k2, X2, e2, E2, Aw2, st2⟩ := newP X1 hx hZ (hw _ (List.mem_of_getElem? (i := 25) rfl)) e1 (g := (mkF m 6 #[.val (.ref o), .val (.int (2 : Int32)), .val (.ref q1), .val (.ref q2), .val (.ref q3)] [(.int (0 : Int32)), (.ref o)])) rfl (hb hby d5_6) rfl (by decide) (cap := 0) (by decide) (by decide) (by decide) (by decide)
  obtain ⟨b2, g2⟩ : ∃ z, z = h0.size := ⟨_, rfl⟩
  rw [← g2] at Aw2 st2
  have G2 : n0 ≤ b2 := Nat.le_trans Z0 (Nat.le_of_eq g2.symm)
  have Z2 : n0 ≤ h2.size := Nat.le_trans Z0 E2.1
  refine own_go st2 ?_
  show own_Go _ _ _ _ _ _ _ (T2.setTop (mkF m 8 #[.val (.ref o), .val (.int (2 : Int32)), .val (.ref q1), .val (.ref q2), .val (.ref q3)] [(.ref b2), (.ref o)]))
  have f4 := (Po.ext E2)
  obtain ⟨pv3, pf3⟩ := f4 "positionColumn" "[I" (.array .int) (Or.inl (hw _ (List.mem_of_getElem? (i := 96) rfl))) (by decide)
  have f5 := (Eo.ext E2)
  obtain ⟨T3, h3, X3, e3, W3, st3⟩ := putF X2 hx hZ hown (host := "") (Or.inl (hw _ (List.mem_of_getElem? (i := 95) rfl))) Via.refl e2 pf3 f5 (Or.inl (hw _ (List.mem_of_getElem? (i := 96) rfl))) (hw _ (List.mem_of_getElem? (i := 89) rfl)) (ty := (.array .int)) (by decide) rfl rfl (g := (mkF m 8 #[.val (.ref o), .val (.int (2 : Int32)), .val (.ref q1), .val (.ref q2), .val (.ref q3)] [(.ref b2), (.ref o)])) rfl rfl (hb hby d5_8)
  have N3 := Fr.snoc X3 N0 go
  have Fw3 := pf3.same W3
  have Z3 : n0 ≤ h3.size := by rw [W3.size]; exact Z2
  refine own_go st3 ?_
  show own_Go _ _ _ _ _ _ _ (T3.setTop (mkF m 11 #[.val (.ref o), .val (.int (2 : Int32)), .val (.ref q1), .val (.ref q2), .val (.ref q3)] []))
  refine own_go (fun _ q => XS.aloadN X3.here hx rfl (hb hby d5_11) rfl rfl q) ?_
  show own_Go _ _ _ _ _ _ _ (T3.setTop (mkF m 12 #[.val (.ref o), .val (.int (2 : Int32)), .val (.ref q1), .val (.ref q2), .val (.ref q3)] [(.ref o)]))
  refine own_go (fun _ q => XS.iconst X3.here hx rfl (hb hby d5_12) q) ?_
  show own_Go _ _ _ _ _ _ _ (T3.setTop (mkF m 13 #[.val (.ref o), .val (.int (2 : Int32)), .val (.ref q1), .val (.ref q2), .val (.ref q3)] [(.int (0 : Int32)), (.ref o)]))
  obtain ⟨T6, h6, k6, X6, e6, E6, Aw6, st6⟩ := newP X3 hx hZ (hw _ (List.mem_of_getElem? (i := 25) rfl)) e3 (g := (mkF m 13 #[.val (.ref o), .val (.int (2 : Int32)), .val (.ref q1), .val (.ref q2), .val (.ref q3)] [(.int (0 : Int32)), (.ref o)])) rfl (hb hby d5_13) rfl (by decide) (cap := 0) (by decide) (by decide) (by decide) (by decide)
  obtain ⟨b6, g6⟩ : ∃ z, z = h3.size := ⟨_, rfl⟩
  rw [← g6] at Aw6 st6
  have G6 : n0 ≤ b6 := Nat.le_trans Z3 (Nat.le_of_eq g6.symm)
  have Z6 : n0 ≤ h6.size := Nat.le_trans Z3 E6.1
  refine own_go st6 ?_
  show own_Go _ _ _ _ _ _ _ (T6.setTop (mkF m 15 #[.val (.ref o), .val (.int (2 : Int32)), .val (.ref q1), .val (.ref q2), .val (.ref q3)] [(.ref b6), (.ref o)]))
  have f8 := ((f4.wr W3).ext E6)
  obtain ⟨pv7, pf7⟩ := f8 "positionRow" "[I" (.array .int) (Or.inl (hw _ (List.mem_of_getElem? (i := 98) rfl))) (by decide)
  have f9 := ((f5.wr W3).ext E6)
  obtain ⟨T7, h7, X7, e7, W7, st7⟩ := putF X6 hx hZ hown (host := "") (Or.inl (hw _ (List.mem_of_getElem? (i := 97) rfl))) Via.refl e6 pf7 f9 (Or.inl (hw _ (List.mem_of_getElem? (i := 98) rfl))) (hw _ (List.mem_of_getElem? (i := 89) rfl)) (ty := (.array .int)) (by decide) rfl rfl (g := (mkF m 15 #[.val (.ref o), .val (.int (2 : Int32)), .val (.ref q1), .val (.ref q2), .val (.ref q3)] [(.ref b6), (.ref o)])) rfl rfl (hb hby d5_15)
  have N7 := Fr.snoc X7 N3 go
  have Fw7 := pf7.same W7
  have Z7 : n0 ≤ h7.size := by rw [W7.size]; exact Z6
  refine own_go st7 ?_
  show own_Go _ _ _ _ _ _ _ (T7.setTop (mkF m 18 #[.val (.ref o), .val (.int (2 : Int32)), .val (.ref q1), .val (.ref q2), .val (.ref q3)] []))
  refine own_go (fun _ q => XS.aloadN X7.here hx rfl (hb hby d5_18) rfl rfl q) ?_
  show own_Go _ _ _ _ _ _ _ (T7.setTop (mkF m 19 #[.val (.ref o), .val (.int (2 : Int32)), .val (.ref q1), .val (.ref q2), .val (.ref q3)] [(.ref o)]))
  refine own_go (fun _ q => XS.iconst X7.here hx rfl (hb hby d5_19) q) ?_
  show own_Go _ _ _ _ _ _ _ (T7.setTop (mkF m 20 #[.val (.ref o), .val (.int (2 : Int32)), .val (.ref q1), .val (.ref q2), .val (.ref q3)] [(.int (0 : Int32)), (.ref o)]))
  obtain ⟨T10, h10, k10, X10, e10, E10, Aw10, st10⟩ := newP X7 hx hZ (hw _ (List.mem_of_getElem? (i := 25) rfl)) e7 (g := (mkF m 20 #[.val (.ref o), .val (.int (2 : Int32)), .val (.ref q1), .val (.ref q2), .val (.ref q3)] [(.int (0 : Int32)), (.ref o)])) rfl (hb hby d5_20) rfl (by decide) (cap := 0) (by decide) (by decide) (by decide) (by decide)
  obtain ⟨b10, g10⟩ : ∃ z, z = h7.size := ⟨_, rfl⟩
  rw [← g10] at Aw10 st10
  have G10 : n0 ≤ b10 := Nat.le_trans Z7 (Nat.le_of_eq g10.symm)
  have Z10 : n0 ≤ h10.size := Nat.le_trans Z7 E10.1
  refine own_go st10 ?_
  show own_Go _ _ _ _ _ _ _ (T10.setTop (mkF m 22 #[.val (.ref o), .val (.int (2 : Int32)), .val (.ref q1), .val (.ref q2), .val (.ref q3)] [(.ref b10), (.ref o)]))
  have f12 := ((f8.wr W7).ext E10)
  obtain ⟨pv11, pf11⟩ := f12 "kernelRow" "[I" (.array .int) (Or.inl (hw _ (List.mem_of_getElem? (i := 100) rfl))) (by decide)
  have f13 := ((f9.wr W7).ext E10)
  obtain ⟨T11, h11, X11, e11, W11, st11⟩ := putF X10 hx hZ hown (host := "") (Or.inl (hw _ (List.mem_of_getElem? (i := 99) rfl))) Via.refl e10 pf11 f13 (Or.inl (hw _ (List.mem_of_getElem? (i := 100) rfl))) (hw _ (List.mem_of_getElem? (i := 89) rfl)) (ty := (.array .int)) (by decide) rfl rfl (g := (mkF m 22 #[.val (.ref o), .val (.int (2 : Int32)), .val (.ref q1), .val (.ref q2), .val (.ref q3)] [(.ref b10), (.ref o)])) rfl rfl (hb hby d5_22)
  have N11 := Fr.snoc X11 N7 go
  have Fw11 := pf11.same W11
  have Z11 : n0 ≤ h11.size := by rw [W11.size]; exact Z10
  refine own_go st11 ?_
  show own_Go _ _ _ _ _ _ _ (T11.setTop (mkF m 25 #[.val (.ref o), .val (.int (2 : Int32)), .val (.ref q1), .val (.ref q2), .val (.ref q3)] []))
  refine own_go (fun _ q => XS.aloadN X11.here hx rfl (hb hby d5_25) rfl rfl q) ?_
  show own_Go _ _ _ _ _ _ _ (T11.setTop (mkF m 26 #[.val (.ref o), .val (.int (2 : Int32)), .val (.ref q1), .val (.ref q2), .val (.ref q3)] [(.ref o)]))
  refine own_go (fun _ q => XS.iconst X11.here hx rfl (hb hby d5_26) q) ?_
  show own_Go _ _ _ _ _ _ _ (T11.setTop (mkF m 27 #[.val (.ref o), .val (.int (2 : Int32)), .val (.ref q1), .val (.ref q2), .val (.ref q3)] [(.int (0 : Int32)), (.ref o)]))
  obtain ⟨T14, h14, k14, X14, e14, E14, Aw14, st14⟩ := newP X11 hx hZ (hw _ (List.mem_of_getElem? (i := 25) rfl)) e11 (g := (mkF m 27 #[.val (.ref o), .val (.int (2 : Int32)), .val (.ref q1), .val (.ref q2), .val (.ref q3)] [(.int (0 : Int32)), (.ref o)])) rfl (hb hby d5_27) rfl (by decide) (cap := 0) (by decide) (by decide) (by decide) (by decide)
  obtain ⟨b14, g14⟩ : ∃ z, z = h11.size := ⟨_, rfl⟩
  rw [← g14] at Aw14 st14
  have G14 : n0 ≤ b14 := Nat.le_trans Z11 (Nat.le_of_eq g14.symm)
  have Z14 : n0 ≤ h14.size := Nat.le_trans Z11 E14.1
  refine own_go st14 ?_
  show own_Go _ _ _ _ _ _ _ (T14.setTop (mkF m 29 #[.val (.ref o), .val (.int (2 : Int32)), .val (.ref q1), .val (.ref q2), .val (.ref q3)] [(.ref b14), (.ref o)]))
  have f16 := ((f12.wr W11).ext E14)
  obtain ⟨pv15, pf15⟩ := f16 "slackPosition" "[I" (.array .int) (Or.inl (hw _ (List.mem_of_getElem? (i := 102) rfl))) (by decide)
  have f17 := ((f13.wr W11).ext E14)
  obtain ⟨T15, h15, X15, e15, W15, st15⟩ := putF X14 hx hZ hown (host := "") (Or.inl (hw _ (List.mem_of_getElem? (i := 101) rfl))) Via.refl e14 pf15 f17 (Or.inl (hw _ (List.mem_of_getElem? (i := 102) rfl))) (hw _ (List.mem_of_getElem? (i := 89) rfl)) (ty := (.array .int)) (by decide) rfl rfl (g := (mkF m 29 #[.val (.ref o), .val (.int (2 : Int32)), .val (.ref q1), .val (.ref q2), .val (.ref q3)] [(.ref b14), (.ref o)])) rfl rfl (hb hby d5_29)
  have N15 := Fr.snoc X15 N11 go
  have Fw15 := pf15.same W15
  have Z15 : n0 ≤ h15.size := by rw [W15.size]; exact Z14
  refine own_go st15 ?_
  show own_Go _ _ _ _ _ _ _ (T15.setTop (mkF m 32 #[.val (.ref o), .val (.int (2 : Int32)), .val (.ref q1), .val (.ref q2), .val (.ref q3)] []))
  refine own_go (fun _ q => XS.aloadN X15.here hx rfl (hb hby d5_32) rfl rfl q) ?_
  show own_Go _ _ _ _ _ _ _ (T15.setTop (mkF m 33 #[.val (.ref o), .val (.int (2 : Int32)), .val (.ref q1), .val (.ref q2), .val (.ref q3)] [(.ref o)]))
  refine own_go (fun _ q => XS.iconst X15.here hx rfl (hb hby d5_33) q) ?_
  show own_Go _ _ _ _ _ _ _ (T15.setTop (mkF m 34 #[.val (.ref o), .val (.int (2 : Int32)), .val (.ref q1), .val (.ref q2), .val (.ref q3)] [(.int (0 : Int32)), (.ref o)]))
  obtain ⟨T18, h18, k18, X18, e18, E18, Aw18, st18⟩ := newP X15 hx hZ (hw _ (List.mem_of_getElem? (i := 25) rfl)) e15 (g := (mkF m 34 #[.val (.ref o), .val (.int (2 : Int32)), .val (.ref q1), .val (.ref q2), .val (.ref q3)] [(.int (0 : Int32)), (.ref o)])) rfl (hb hby d5_34) rfl (by decide) (cap := 0) (by decide) (by decide) (by decide) (by decide)
  obtain ⟨b18, g18⟩ : ∃ z, z = h15.size := ⟨_, rfl⟩
  rw [← g18] at Aw18 st18
  have G18 : n0 ≤ b18 := Nat.le_trans Z15 (Nat.le_of_eq g18.symm)
  have Z18 : n0 ≤ h18.size := Nat.le_trans Z15 E18.1
  refine own_go st18 ?_
  show own_Go _ _ _ _ _ _ _ (T18.setTop (mkF m 36 #[.val (.ref o), .val (.int (2 : Int32)), .val (.ref q1), .val (.ref q2), .val (.ref q3)] [(.ref b18), (.ref o)]))
  have f20 := ((f16.wr W15).ext E18)
  obtain ⟨pv19, pf19⟩ := f20 "kernelBasic" "[I" (.array .int) (Or.inl (hw _ (List.mem_of_getElem? (i := 104) rfl))) (by decide)
  have f21 := ((f17.wr W15).ext E18)
  obtain ⟨T19, h19, X19, e19, W19, st19⟩ := putF X18 hx hZ hown (host := "") (Or.inl (hw _ (List.mem_of_getElem? (i := 103) rfl))) Via.refl e18 pf19 f21 (Or.inl (hw _ (List.mem_of_getElem? (i := 104) rfl))) (hw _ (List.mem_of_getElem? (i := 89) rfl)) (ty := (.array .int)) (by decide) rfl rfl (g := (mkF m 36 #[.val (.ref o), .val (.int (2 : Int32)), .val (.ref q1), .val (.ref q2), .val (.ref q3)] [(.ref b18), (.ref o)])) rfl rfl (hb hby d5_36)
  have N19 := Fr.snoc X19 N15 go
  have Fw19 := pf19.same W19
  have Z19 : n0 ≤ h19.size := by rw [W19.size]; exact Z18
  refine own_go st19 ?_
  show own_Go _ _ _ _ _ _ _ (T19.setTop (mkF m 39 #[.val (.ref o), .val (.int (2 : Int32)), .val (.ref q1), .val (.ref q2), .val (.ref q3)] []))
  refine own_go (fun _ q => XS.aloadN X19.here hx rfl (hb hby d5_39) rfl rfl q) ?_
  show own_Go _ _ _ _ _ _ _ (T19.setTop (mkF m 40 #[.val (.ref o), .val (.int (2 : Int32)), .val (.ref q1), .val (.ref q2), .val (.ref q3)] [(.ref o)]))
  refine own_go (fun _ q => XS.iconst X19.here hx rfl (hb hby d5_40) q) ?_
  show own_Go _ _ _ _ _ _ _ (T19.setTop (mkF m 41 #[.val (.ref o), .val (.int (2 : Int32)), .val (.ref q1), .val (.ref q2), .val (.ref q3)] [(.int (0 : Int32)), (.ref o)]))
  obtain ⟨T22, h22, k22, X22, e22, E22, Aw22, st22⟩ := newP X19 hx hZ (hw _ (List.mem_of_getElem? (i := 25) rfl)) e19 (g := (mkF m 41 #[.val (.ref o), .val (.int (2 : Int32)), .val (.ref q1), .val (.ref q2), .val (.ref q3)] [(.int (0 : Int32)), (.ref o)])) rfl (hb hby d5_41) rfl (by decide) (cap := 0) (by decide) (by decide) (by decide) (by decide)
  obtain ⟨b22, g22⟩ : ∃ z, z = h19.size := ⟨_, rfl⟩
  rw [← g22] at Aw22 st22
  have G22 : n0 ≤ b22 := Nat.le_trans Z19 (Nat.le_of_eq g22.symm)
  have Z22 : n0 ≤ h22.size := Nat.le_trans Z19 E22.1
  refine own_go st22 ?_
  show own_Go _ _ _ _ _ _ _ (T22.setTop (mkF m 43 #[.val (.ref o), .val (.int (2 : Int32)), .val (.ref q1), .val (.ref q2), .val (.ref q3)] [(.ref b22), (.ref o)]))
  have f24 := ((f20.wr W19).ext E22)
  obtain ⟨pv23, pf23⟩ := f24 "kernelPosition" "[I" (.array .int) (Or.inl (hw _ (List.mem_of_getElem? (i := 106) rfl))) (by decide)
  have f25 := ((f21.wr W19).ext E22)
  obtain ⟨T23, h23, X23, e23, W23, st23⟩ := putF X22 hx hZ hown (host := "") (Or.inl (hw _ (List.mem_of_getElem? (i := 105) rfl))) Via.refl e22 pf23 f25 (Or.inl (hw _ (List.mem_of_getElem? (i := 106) rfl))) (hw _ (List.mem_of_getElem? (i := 89) rfl)) (ty := (.array .int)) (by decide) rfl rfl (g := (mkF m 43 #[.val (.ref o), .val (.int (2 : Int32)), .val (.ref q1), .val (.ref q2), .val (.ref q3)] [(.ref b22), (.ref o)])) rfl rfl (hb hby d5_43)
  have N23 := Fr.snoc X23 N19 go
  have Fw23 := pf23.same W23
  have Z23 : n0 ≤ h23.size := by rw [W23.size]; exact Z22
  refine own_go st23 ?_
  show own_Go _ _ _ _ _ _ _ (T23.setTop (mkF m 46 #[.val (.ref o), .val (.int (2 : Int32)), .val (.ref q1), .val (.ref q2), .val (.ref q3)] []))
  refine own_go (fun _ q => XS.aloadN X23.here hx rfl (hb hby d5_46) rfl rfl q) ?_
  show own_Go _ _ _ _ _ _ _ (T23.setTop (mkF m 47 #[.val (.ref o), .val (.int (2 : Int32)), .val (.ref q1), .val (.ref q2), .val (.ref q3)] [(.ref o)]))
  refine own_go (fun _ q => XS.iconst X23.here hx rfl (hb hby d5_47) q) ?_
  show own_Go _ _ _ _ _ _ _ (T23.setTop (mkF m 48 #[.val (.ref o), .val (.int (2 : Int32)), .val (.ref q1), .val (.ref q2), .val (.ref q3)] [(.int (0 : Int32)), (.ref o)]))
  obtain ⟨T26, h26, k26, X26, e26, E26, Aw26, st26⟩ := newP X23 hx hZ (hw _ (List.mem_of_getElem? (i := 25) rfl)) e23 (g := (mkF m 48 #[.val (.ref o), .val (.int (2 : Int32)), .val (.ref q1), .val (.ref q2), .val (.ref q3)] [(.int (0 : Int32)), (.ref o)])) rfl (hb hby d5_48) rfl (by decide) (cap := 0) (by decide) (by decide) (by decide) (by decide)
  obtain ⟨b26, g26⟩ : ∃ z, z = h23.size := ⟨_, rfl⟩
  rw [← g26] at Aw26 st26
  have G26 : n0 ≤ b26 := Nat.le_trans Z23 (Nat.le_of_eq g26.symm)
  have Z26 : n0 ≤ h26.size := Nat.le_trans Z23 E26.1
  refine own_go st26 ?_
  show own_Go _ _ _ _ _ _ _ (T26.setTop (mkF m 50 #[.val (.ref o), .val (.int (2 : Int32)), .val (.ref q1), .val (.ref q2), .val (.ref q3)] [(.ref b26), (.ref o)]))
  have f28 := ((f24.wr W23).ext E26)
  obtain ⟨pv27, pf27⟩ := f28 "kernelRowOf" "[I" (.array .int) (Or.inl (hw _ (List.mem_of_getElem? (i := 108) rfl))) (by decide)
  have f29 := ((f25.wr W23).ext E26)
  obtain ⟨T27, h27, X27, e27, W27, st27⟩ := putF X26 hx hZ hown (host := "") (Or.inl (hw _ (List.mem_of_getElem? (i := 107) rfl))) Via.refl e26 pf27 f29 (Or.inl (hw _ (List.mem_of_getElem? (i := 108) rfl))) (hw _ (List.mem_of_getElem? (i := 89) rfl)) (ty := (.array .int)) (by decide) rfl rfl (g := (mkF m 50 #[.val (.ref o), .val (.int (2 : Int32)), .val (.ref q1), .val (.ref q2), .val (.ref q3)] [(.ref b26), (.ref o)])) rfl rfl (hb hby d5_50)
  have N27 := Fr.snoc X27 N23 go
  have Fw27 := pf27.same W27
  have Z27 : n0 ≤ h27.size := by rw [W27.size]; exact Z26
  refine own_go st27 ?_
  show own_Go _ _ _ _ _ _ _ (T27.setTop (mkF m 53 #[.val (.ref o), .val (.int (2 : Int32)), .val (.ref q1), .val (.ref q2), .val (.ref q3)] []))
  refine own_go (fun _ q => XS.aloadN X27.here hx rfl (hb hby d5_53) rfl rfl q) ?_
  show own_Go _ _ _ _ _ _ _ (T27.setTop (mkF m 54 #[.val (.ref o), .val (.int (2 : Int32)), .val (.ref q1), .val (.ref q2), .val (.ref q3)] [(.ref o)]))
  refine own_go (fun _ q => XS.iconst X27.here hx rfl (hb hby d5_54) q) ?_
  show own_Go _ _ _ _ _ _ _ (T27.setTop (mkF m 55 #[.val (.ref o), .val (.int (2 : Int32)), .val (.ref q1), .val (.ref q2), .val (.ref q3)] [(.int (0 : Int32)), (.ref o)]))
  obtain ⟨T30, h30, k30, X30, e30, E30, Aw30, Ex30, Ov30, st30⟩ := newRA X27 hx hZ hown (C := "[I") (ty := .int) (by decide) (hw _ (List.mem_of_getElem? (i := 109) rfl)) (hw _ (List.mem_of_getElem? (i := 12) rfl)) e27 (g := (mkF m 55 #[.val (.ref o), .val (.int (2 : Int32)), .val (.ref q1), .val (.ref q2), .val (.ref q3)] [(.int (0 : Int32)), (.ref o)])) rfl (hb hby d5_55) rfl (by decide) (cap := 0) (by decide) (by decide) (by decide) (by decide) (ad := "[[I") (by decide)
  obtain ⟨b30, g30⟩ : ∃ z, z = h27.size := ⟨_, rfl⟩
  rw [← g30] at Aw30 st30 Ex30
  have G30 : n0 ≤ b30 := Nat.le_trans Z27 (Nat.le_of_eq g30.symm)
  have Z30 : n0 ≤ h30.size := Nat.le_trans Z27 E30.1
  refine own_go st30 ?_
  show own_Go _ _ _ _ _ _ _ (T30.setTop (mkF m 58 #[.val (.ref o), .val (.int (2 : Int32)), .val (.ref q1), .val (.ref q2), .val (.ref q3)] [(.ref b30), (.ref o)]))
  have f32 := ((f28.wr W27).ext E30)
  obtain ⟨pv31, pf31⟩ := f32 "entryColumns" "[[I" (.array (.array .int)) (Or.inl (hw _ (List.mem_of_getElem? (i := 111) rfl))) (by decide)
  have f33 := ((f29.wr W27).ext E30)
  obtain ⟨T31, h31, X31, e31, W31, st31⟩ := putF X30 hx hZ hown (host := "") (Or.inl (hw _ (List.mem_of_getElem? (i := 110) rfl))) Via.refl e30 pf31 f33 (Or.inl (hw _ (List.mem_of_getElem? (i := 111) rfl))) (hw _ (List.mem_of_getElem? (i := 89) rfl)) (ty := (.array (.array .int))) (by decide) rfl rfl (g := (mkF m 58 #[.val (.ref o), .val (.int (2 : Int32)), .val (.ref q1), .val (.ref q2), .val (.ref q3)] [(.ref b30), (.ref o)])) rfl rfl (hb hby d5_58)
  have N31 := Fr.snoc X31 N27 go
  have Fw31 := pf31.same W31
  have Z31 : n0 ≤ h31.size := by rw [W31.size]; exact Z30
  refine own_go st31 ?_
  show own_Go _ _ _ _ _ _ _ (T31.setTop (mkF m 61 #[.val (.ref o), .val (.int (2 : Int32)), .val (.ref q1), .val (.ref q2), .val (.ref q3)] []))
  refine own_go (fun _ q => XS.aloadN X31.here hx rfl (hb hby d5_61) rfl rfl q) ?_
  show own_Go _ _ _ _ _ _ _ (T31.setTop (mkF m 62 #[.val (.ref o), .val (.int (2 : Int32)), .val (.ref q1), .val (.ref q2), .val (.ref q3)] [(.ref o)]))
  refine own_go (fun _ q => XS.iconst X31.here hx rfl (hb hby d5_62) q) ?_
  show own_Go _ _ _ _ _ _ _ (T31.setTop (mkF m 63 #[.val (.ref o), .val (.int (2 : Int32)), .val (.ref q1), .val (.ref q2), .val (.ref q3)] [(.int (0 : Int32)), (.ref o)]))
  obtain ⟨T34, h34, k34, X34, e34, E34, Aw34, Ex34, Ov34, st34⟩ := newRA X31 hx hZ hown (C := "[D") (ty := .double) (by decide) (hw _ (List.mem_of_getElem? (i := 112) rfl)) (hw _ (List.mem_of_getElem? (i := 16) rfl)) e31 (g := (mkF m 63 #[.val (.ref o), .val (.int (2 : Int32)), .val (.ref q1), .val (.ref q2), .val (.ref q3)] [(.int (0 : Int32)), (.ref o)])) rfl (hb hby d5_63) rfl (by decide) (cap := 0) (by decide) (by decide) (by decide) (by decide) (ad := "[[D") (by decide)
  obtain ⟨b34, g34⟩ : ∃ z, z = h31.size := ⟨_, rfl⟩
  rw [← g34] at Aw34 st34 Ex34
  have G34 : n0 ≤ b34 := Nat.le_trans Z31 (Nat.le_of_eq g34.symm)
  have Z34 : n0 ≤ h34.size := Nat.le_trans Z31 E34.1
  refine own_go st34 ?_
  show own_Go _ _ _ _ _ _ _ (T34.setTop (mkF m 66 #[.val (.ref o), .val (.int (2 : Int32)), .val (.ref q1), .val (.ref q2), .val (.ref q3)] [(.ref b34), (.ref o)]))
  have f36 := ((f32.wr W31).ext E34)
  obtain ⟨pv35, pf35⟩ := f36 "entryValues" "[[D" (.array (.array .double)) (Or.inl (hw _ (List.mem_of_getElem? (i := 114) rfl))) (by decide)
  have f37 := ((f33.wr W31).ext E34)
  obtain ⟨T35, h35, X35, e35, W35, st35⟩ := putF X34 hx hZ hown (host := "") (Or.inl (hw _ (List.mem_of_getElem? (i := 113) rfl))) Via.refl e34 pf35 f37 (Or.inl (hw _ (List.mem_of_getElem? (i := 114) rfl))) (hw _ (List.mem_of_getElem? (i := 89) rfl)) (ty := (.array (.array .double))) (by decide) rfl rfl (g := (mkF m 66 #[.val (.ref o), .val (.int (2 : Int32)), .val (.ref q1), .val (.ref q2), .val (.ref q3)] [(.ref b34), (.ref o)])) rfl rfl (hb hby d5_66)
  have N35 := Fr.snoc X35 N31 go
  have Fw35 := pf35.same W35
  have Z35 : n0 ≤ h35.size := by rw [W35.size]; exact Z34
  refine own_go st35 ?_
  show own_Go _ _ _ _ _ _ _ (T35.setTop (mkF m 69 #[.val (.ref o), .val (.int (2 : Int32)), .val (.ref q1), .val (.ref q2), .val (.ref q3)] []))
  refine own_go (fun _ q => XS.aloadN X35.here hx rfl (hb hby d5_69) rfl rfl q) ?_
  show own_Go _ _ _ _ _ _ _ (T35.setTop (mkF m 70 #[.val (.ref o), .val (.int (2 : Int32)), .val (.ref q1), .val (.ref q2), .val (.ref q3)] [(.ref o)]))
  refine own_go (fun _ q => XS.iconst X35.here hx rfl (hb hby d5_70) q) ?_
  show own_Go _ _ _ _ _ _ _ (T35.setTop (mkF m 71 #[.val (.ref o), .val (.int (2 : Int32)), .val (.ref q1), .val (.ref q2), .val (.ref q3)] [(.int (0 : Int32)), (.ref o)]))
  obtain ⟨T38, h38, k38, X38, e38, E38, Aw38, Ex38, Ov38, st38⟩ := newRA X35 hx hZ hown (C := "[I") (ty := .int) (by decide) (hw _ (List.mem_of_getElem? (i := 109) rfl)) (hw _ (List.mem_of_getElem? (i := 12) rfl)) e35 (g := (mkF m 71 #[.val (.ref o), .val (.int (2 : Int32)), .val (.ref q1), .val (.ref q2), .val (.ref q3)] [(.int (0 : Int32)), (.ref o)])) rfl (hb hby d5_71) rfl (by decide) (cap := 0) (by decide) (by decide) (by decide) (by decide) (ad := "[[I") (by decide)
  obtain ⟨b38, g38⟩ : ∃ z, z = h35.size := ⟨_, rfl⟩
  rw [← g38] at Aw38 st38 Ex38
  have G38 : n0 ≤ b38 := Nat.le_trans Z35 (Nat.le_of_eq g38.symm)
  have Z38 : n0 ≤ h38.size := Nat.le_trans Z35 E38.1
  refine own_go st38 ?_
  show own_Go _ _ _ _ _ _ _ (T38.setTop (mkF m 74 #[.val (.ref o), .val (.int (2 : Int32)), .val (.ref q1), .val (.ref q2), .val (.ref q3)] [(.ref b38), (.ref o)]))
  have f40 := ((f36.wr W35).ext E38)
  obtain ⟨pv39, pf39⟩ := f40 "entryRows" "[[I" (.array (.array .int)) (Or.inl (hw _ (List.mem_of_getElem? (i := 116) rfl))) (by decide)
  have f41 := ((f37.wr W35).ext E38)
  obtain ⟨T39, h39, X39, e39, W39, st39⟩ := putF X38 hx hZ hown (host := "") (Or.inl (hw _ (List.mem_of_getElem? (i := 115) rfl))) Via.refl e38 pf39 f41 (Or.inl (hw _ (List.mem_of_getElem? (i := 116) rfl))) (hw _ (List.mem_of_getElem? (i := 89) rfl)) (ty := (.array (.array .int))) (by decide) rfl rfl (g := (mkF m 74 #[.val (.ref o), .val (.int (2 : Int32)), .val (.ref q1), .val (.ref q2), .val (.ref q3)] [(.ref b38), (.ref o)])) rfl rfl (hb hby d5_74)
  have N39 := Fr.snoc X39 N35 go
  have Fw39 := pf39.same W39
  have Z39 : n0 ≤ h39.size := by rw [W39.size]; exact Z38
  refine own_go st39 ?_
  show own_Go _ _ _ _ _ _ _ (T39.setTop (mkF m 77 #[.val (.ref o), .val (.int (2 : Int32)), .val (.ref q1), .val (.ref q2), .val (.ref q3)] []))
  refine own_go (fun _ q => XS.aloadN X39.here hx rfl (hb hby d5_77) rfl rfl q) ?_
  show own_Go _ _ _ _ _ _ _ (T39.setTop (mkF m 78 #[.val (.ref o), .val (.int (2 : Int32)), .val (.ref q1), .val (.ref q2), .val (.ref q3)] [(.ref o)]))
  refine own_go (fun _ q => XS.iconst X39.here hx rfl (hb hby d5_78) q) ?_
  show own_Go _ _ _ _ _ _ _ (T39.setTop (mkF m 79 #[.val (.ref o), .val (.int (2 : Int32)), .val (.ref q1), .val (.ref q2), .val (.ref q3)] [(.int (0 : Int32)), (.ref o)]))
  obtain ⟨T42, h42, k42, X42, e42, E42, Aw42, Ex42, Ov42, st42⟩ := newRA X39 hx hZ hown (C := "[D") (ty := .double) (by decide) (hw _ (List.mem_of_getElem? (i := 112) rfl)) (hw _ (List.mem_of_getElem? (i := 16) rfl)) e39 (g := (mkF m 79 #[.val (.ref o), .val (.int (2 : Int32)), .val (.ref q1), .val (.ref q2), .val (.ref q3)] [(.int (0 : Int32)), (.ref o)])) rfl (hb hby d5_79) rfl (by decide) (cap := 0) (by decide) (by decide) (by decide) (by decide) (ad := "[[D") (by decide)
  obtain ⟨b42, g42⟩ : ∃ z, z = h39.size := ⟨_, rfl⟩
  rw [← g42] at Aw42 st42 Ex42
  have G42 : n0 ≤ b42 := Nat.le_trans Z39 (Nat.le_of_eq g42.symm)
  have Z42 : n0 ≤ h42.size := Nat.le_trans Z39 E42.1
  refine own_go st42 ?_
  show own_Go _ _ _ _ _ _ _ (T42.setTop (mkF m 82 #[.val (.ref o), .val (.int (2 : Int32)), .val (.ref q1), .val (.ref q2), .val (.ref q3)] [(.ref b42), (.ref o)]))
  have f44 := ((f40.wr W39).ext E42)
  obtain ⟨pv43, pf43⟩ := f44 "entryRowValues" "[[D" (.array (.array .double)) (Or.inl (hw _ (List.mem_of_getElem? (i := 118) rfl))) (by decide)
  have f45 := ((f41.wr W39).ext E42)
  obtain ⟨T43, h43, X43, e43, W43, st43⟩ := putF X42 hx hZ hown (host := "") (Or.inl (hw _ (List.mem_of_getElem? (i := 117) rfl))) Via.refl e42 pf43 f45 (Or.inl (hw _ (List.mem_of_getElem? (i := 118) rfl))) (hw _ (List.mem_of_getElem? (i := 89) rfl)) (ty := (.array (.array .double))) (by decide) rfl rfl (g := (mkF m 82 #[.val (.ref o), .val (.int (2 : Int32)), .val (.ref q1), .val (.ref q2), .val (.ref q3)] [(.ref b42), (.ref o)])) rfl rfl (hb hby d5_82)
  have N43 := Fr.snoc X43 N39 go
  have Fw43 := pf43.same W43
  have Z43 : n0 ≤ h43.size := by rw [W43.size]; exact Z42
  refine own_go st43 ?_
  show own_Go _ _ _ _ _ _ _ (T43.setTop (mkF m 85 #[.val (.ref o), .val (.int (2 : Int32)), .val (.ref q1), .val (.ref q2), .val (.ref q3)] []))
  refine own_go (fun _ q => XS.aloadN X43.here hx rfl (hb hby d5_85) rfl rfl q) ?_
  show own_Go _ _ _ _ _ _ _ (T43.setTop (mkF m 86 #[.val (.ref o), .val (.int (2 : Int32)), .val (.ref q1), .val (.ref q2), .val (.ref q3)] [(.ref o)]))
  refine own_go (fun _ q => XS.iconst X43.here hx rfl (hb hby d5_86) q) ?_
  show own_Go _ _ _ _ _ _ _ (T43.setTop (mkF m 87 #[.val (.ref o), .val (.int (2 : Int32)), .val (.ref q1), .val (.ref q2), .val (.ref q3)] [(.int (0 : Int32)), (.ref o)]))
  obtain ⟨T46, h46, k46, X46, e46, E46, Aw46, st46⟩ := newP X43 hx hZ (hw _ (List.mem_of_getElem? (i := 25) rfl)) e43 (g := (mkF m 87 #[.val (.ref o), .val (.int (2 : Int32)), .val (.ref q1), .val (.ref q2), .val (.ref q3)] [(.int (0 : Int32)), (.ref o)])) rfl (hb hby d5_87) rfl (by decide) (cap := 0) (by decide) (by decide) (by decide) (by decide)
  obtain ⟨b46, g46⟩ : ∃ z, z = h43.size := ⟨_, rfl⟩
  rw [← g46] at Aw46 st46
  have G46 : n0 ≤ b46 := Nat.le_trans Z43 (Nat.le_of_eq g46.symm)
  have Z46 : n0 ≤ h46.size := Nat.le_trans Z43 E46.1
  refine own_go st46 ?_
  show own_Go _ _ _ _ _ _ _ (T46.setTop (mkF m 89 #[.val (.ref o), .val (.int (2 : Int32)), .val (.ref q1), .val (.ref q2), .val (.ref q3)] [(.ref b46), (.ref o)]))
  have f48 := ((f44.wr W43).ext E46)
  obtain ⟨pv47, pf47⟩ := f48 "backwardRows" "[I" (.array .int) (Or.inl (hw _ (List.mem_of_getElem? (i := 120) rfl))) (by decide)
  have f49 := ((f45.wr W43).ext E46)
  obtain ⟨T47, h47, X47, e47, W47, st47⟩ := putF X46 hx hZ hown (host := "") (Or.inl (hw _ (List.mem_of_getElem? (i := 119) rfl))) Via.refl e46 pf47 f49 (Or.inl (hw _ (List.mem_of_getElem? (i := 120) rfl))) (hw _ (List.mem_of_getElem? (i := 89) rfl)) (ty := (.array .int)) (by decide) rfl rfl (g := (mkF m 89 #[.val (.ref o), .val (.int (2 : Int32)), .val (.ref q1), .val (.ref q2), .val (.ref q3)] [(.ref b46), (.ref o)])) rfl rfl (hb hby d5_89)
  have N47 := Fr.snoc X47 N43 go
  have Fw47 := pf47.same W47
  have Z47 : n0 ≤ h47.size := by rw [W47.size]; exact Z46
  refine own_go st47 ?_
  show own_Go _ _ _ _ _ _ _ (T47.setTop (mkF m 92 #[.val (.ref o), .val (.int (2 : Int32)), .val (.ref q1), .val (.ref q2), .val (.ref q3)] []))
  refine own_go (fun _ q => XS.aloadN X47.here hx rfl (hb hby d5_92) rfl rfl q) ?_
  show own_Go _ _ _ _ _ _ _ (T47.setTop (mkF m 93 #[.val (.ref o), .val (.int (2 : Int32)), .val (.ref q1), .val (.ref q2), .val (.ref q3)] [(.ref o)]))
  refine own_go (fun _ q => XS.iconst X47.here hx rfl (hb hby d5_93) q) ?_
  show own_Go _ _ _ _ _ _ _ (T47.setTop (mkF m 94 #[.val (.ref o), .val (.int (2 : Int32)), .val (.ref q1), .val (.ref q2), .val (.ref q3)] [(.int (0 : Int32)), (.ref o)]))
  obtain ⟨T50, h50, k50, X50, e50, E50, Aw50, st50⟩ := newP X47 hx hZ (hw _ (List.mem_of_getElem? (i := 25) rfl)) e47 (g := (mkF m 94 #[.val (.ref o), .val (.int (2 : Int32)), .val (.ref q1), .val (.ref q2), .val (.ref q3)] [(.int (0 : Int32)), (.ref o)])) rfl (hb hby d5_94) rfl (by decide) (cap := 0) (by decide) (by decide) (by decide) (by decide)
  obtain ⟨b50, g50⟩ : ∃ z, z = h47.size := ⟨_, rfl⟩
  rw [← g50] at Aw50 st50
  have G50 : n0 ≤ b50 := Nat.le_trans Z47 (Nat.le_of_eq g50.symm)
  have Z50 : n0 ≤ h50.size := Nat.le_trans Z47 E50.1
  refine own_go st50 ?_
  show own_Go _ _ _ _ _ _ _ (T50.setTop (mkF m 96 #[.val (.ref o), .val (.int (2 : Int32)), .val (.ref q1), .val (.ref q2), .val (.ref q3)] [(.ref b50), (.ref o)]))
  have f52 := ((f48.wr W47).ext E50)
  obtain ⟨pv51, pf51⟩ := f52 "backwardColumns" "[I" (.array .int) (Or.inl (hw _ (List.mem_of_getElem? (i := 122) rfl))) (by decide)
  have f53 := ((f49.wr W47).ext E50)
  obtain ⟨T51, h51, X51, e51, W51, st51⟩ := putF X50 hx hZ hown (host := "") (Or.inl (hw _ (List.mem_of_getElem? (i := 121) rfl))) Via.refl e50 pf51 f53 (Or.inl (hw _ (List.mem_of_getElem? (i := 122) rfl))) (hw _ (List.mem_of_getElem? (i := 89) rfl)) (ty := (.array .int)) (by decide) rfl rfl (g := (mkF m 96 #[.val (.ref o), .val (.int (2 : Int32)), .val (.ref q1), .val (.ref q2), .val (.ref q3)] [(.ref b50), (.ref o)])) rfl rfl (hb hby d5_96)
  have N51 := Fr.snoc X51 N47 go
  have Fw51 := pf51.same W51
  have Z51 : n0 ≤ h51.size := by rw [W51.size]; exact Z50
  refine own_go st51 ?_
  show own_Go _ _ _ _ _ _ _ (T51.setTop (mkF m 99 #[.val (.ref o), .val (.int (2 : Int32)), .val (.ref q1), .val (.ref q2), .val (.ref q3)] []))
  refine own_go (fun _ q => XS.aloadN X51.here hx rfl (hb hby d5_99) rfl rfl q) ?_
  show own_Go _ _ _ _ _ _ _ (T51.setTop (mkF m 100 #[.val (.ref o), .val (.int (2 : Int32)), .val (.ref q1), .val (.ref q2), .val (.ref q3)] [(.ref o)]))
  refine own_go (fun _ q => XS.iconst X51.here hx rfl (hb hby d5_100) q) ?_
  show own_Go _ _ _ _ _ _ _ (T51.setTop (mkF m 101 #[.val (.ref o), .val (.int (2 : Int32)), .val (.ref q1), .val (.ref q2), .val (.ref q3)] [(.int (0 : Int32)), (.ref o)]))
  obtain ⟨T54, h54, k54, X54, e54, E54, Aw54, st54⟩ := newP X51 hx hZ (hw _ (List.mem_of_getElem? (i := 1) rfl)) e51 (g := (mkF m 101 #[.val (.ref o), .val (.int (2 : Int32)), .val (.ref q1), .val (.ref q2), .val (.ref q3)] [(.int (0 : Int32)), (.ref o)])) rfl (hb hby d5_101) rfl (by decide) (cap := 0) (by decide) (by decide) (by decide) (by decide)
  obtain ⟨b54, g54⟩ : ∃ z, z = h51.size := ⟨_, rfl⟩
  rw [← g54] at Aw54 st54
  have G54 : n0 ≤ b54 := Nat.le_trans Z51 (Nat.le_of_eq g54.symm)
  have Z54 : n0 ≤ h54.size := Nat.le_trans Z51 E54.1
  refine own_go st54 ?_
  show own_Go _ _ _ _ _ _ _ (T54.setTop (mkF m 103 #[.val (.ref o), .val (.int (2 : Int32)), .val (.ref q1), .val (.ref q2), .val (.ref q3)] [(.ref b54), (.ref o)]))
  have f56 := ((f52.wr W51).ext E54)
  obtain ⟨pv55, pf55⟩ := f56 "backwardPivots" "[D" (.array .double) (Or.inl (hw _ (List.mem_of_getElem? (i := 124) rfl))) (by decide)
  have f57 := ((f53.wr W51).ext E54)
  obtain ⟨T55, h55, X55, e55, W55, st55⟩ := putF X54 hx hZ hown (host := "") (Or.inl (hw _ (List.mem_of_getElem? (i := 123) rfl))) Via.refl e54 pf55 f57 (Or.inl (hw _ (List.mem_of_getElem? (i := 124) rfl))) (hw _ (List.mem_of_getElem? (i := 89) rfl)) (ty := (.array .double)) (by decide) rfl rfl (g := (mkF m 103 #[.val (.ref o), .val (.int (2 : Int32)), .val (.ref q1), .val (.ref q2), .val (.ref q3)] [(.ref b54), (.ref o)])) rfl rfl (hb hby d5_103)
  have N55 := Fr.snoc X55 N51 go
  have Fw55 := pf55.same W55
  have Z55 : n0 ≤ h55.size := by rw [W55.size]; exact Z54
  refine own_go st55 ?_
  show own_Go _ _ _ _ _ _ _ (T55.setTop (mkF m 106 #[.val (.ref o), .val (.int (2 : Int32)), .val (.ref q1), .val (.ref q2), .val (.ref q3)] []))
  refine own_go (fun _ q => XS.aloadN X55.here hx rfl (hb hby d5_106) rfl rfl q) ?_
  show own_Go _ _ _ _ _ _ _ (T55.setTop (mkF m 107 #[.val (.ref o), .val (.int (2 : Int32)), .val (.ref q1), .val (.ref q2), .val (.ref q3)] [(.ref o)]))
  refine own_go (fun _ q => XS.iconst X55.here hx rfl (hb hby d5_107) q) ?_
  show own_Go _ _ _ _ _ _ _ (T55.setTop (mkF m 108 #[.val (.ref o), .val (.int (2 : Int32)), .val (.ref q1), .val (.ref q2), .val (.ref q3)] [(.int (0 : Int32)), (.ref o)]))
  obtain ⟨T58, h58, k58, X58, e58, E58, Aw58, st58⟩ := newP X55 hx hZ (hw _ (List.mem_of_getElem? (i := 25) rfl)) e55 (g := (mkF m 108 #[.val (.ref o), .val (.int (2 : Int32)), .val (.ref q1), .val (.ref q2), .val (.ref q3)] [(.int (0 : Int32)), (.ref o)])) rfl (hb hby d5_108) rfl (by decide) (cap := 0) (by decide) (by decide) (by decide) (by decide)
  obtain ⟨b58, g58⟩ : ∃ z, z = h55.size := ⟨_, rfl⟩
  rw [← g58] at Aw58 st58
  have G58 : n0 ≤ b58 := Nat.le_trans Z55 (Nat.le_of_eq g58.symm)
  have Z58 : n0 ≤ h58.size := Nat.le_trans Z55 E58.1
  refine own_go st58 ?_
  show own_Go _ _ _ _ _ _ _ (T58.setTop (mkF m 110 #[.val (.ref o), .val (.int (2 : Int32)), .val (.ref q1), .val (.ref q2), .val (.ref q3)] [(.ref b58), (.ref o)]))
  have f60 := ((f56.wr W55).ext E58)
  obtain ⟨pv59, pf59⟩ := f60 "forwardRows" "[I" (.array .int) (Or.inl (hw _ (List.mem_of_getElem? (i := 126) rfl))) (by decide)
  have f61 := ((f57.wr W55).ext E58)
  obtain ⟨T59, h59, X59, e59, W59, st59⟩ := putF X58 hx hZ hown (host := "") (Or.inl (hw _ (List.mem_of_getElem? (i := 125) rfl))) Via.refl e58 pf59 f61 (Or.inl (hw _ (List.mem_of_getElem? (i := 126) rfl))) (hw _ (List.mem_of_getElem? (i := 89) rfl)) (ty := (.array .int)) (by decide) rfl rfl (g := (mkF m 110 #[.val (.ref o), .val (.int (2 : Int32)), .val (.ref q1), .val (.ref q2), .val (.ref q3)] [(.ref b58), (.ref o)])) rfl rfl (hb hby d5_110)
  have N59 := Fr.snoc X59 N55 go
  have Fw59 := pf59.same W59
  have Z59 : n0 ≤ h59.size := by rw [W59.size]; exact Z58
  refine own_go st59 ?_
  show own_Go _ _ _ _ _ _ _ (T59.setTop (mkF m 113 #[.val (.ref o), .val (.int (2 : Int32)), .val (.ref q1), .val (.ref q2), .val (.ref q3)] []))
  refine own_go (fun _ q => XS.aloadN X59.here hx rfl (hb hby d5_113) rfl rfl q) ?_
  show own_Go _ _ _ _ _ _ _ (T59.setTop (mkF m 114 #[.val (.ref o), .val (.int (2 : Int32)), .val (.ref q1), .val (.ref q2), .val (.ref q3)] [(.ref o)]))
  refine own_go (fun _ q => XS.iconst X59.here hx rfl (hb hby d5_114) q) ?_
  show own_Go _ _ _ _ _ _ _ (T59.setTop (mkF m 115 #[.val (.ref o), .val (.int (2 : Int32)), .val (.ref q1), .val (.ref q2), .val (.ref q3)] [(.int (0 : Int32)), (.ref o)]))
  obtain ⟨T62, h62, k62, X62, e62, E62, Aw62, st62⟩ := newP X59 hx hZ (hw _ (List.mem_of_getElem? (i := 25) rfl)) e59 (g := (mkF m 115 #[.val (.ref o), .val (.int (2 : Int32)), .val (.ref q1), .val (.ref q2), .val (.ref q3)] [(.int (0 : Int32)), (.ref o)])) rfl (hb hby d5_115) rfl (by decide) (cap := 0) (by decide) (by decide) (by decide) (by decide)
  obtain ⟨b62, g62⟩ : ∃ z, z = h59.size := ⟨_, rfl⟩
  rw [← g62] at Aw62 st62
  have G62 : n0 ≤ b62 := Nat.le_trans Z59 (Nat.le_of_eq g62.symm)
  have Z62 : n0 ≤ h62.size := Nat.le_trans Z59 E62.1
  refine own_go st62 ?_
  show own_Go _ _ _ _ _ _ _ (T62.setTop (mkF m 117 #[.val (.ref o), .val (.int (2 : Int32)), .val (.ref q1), .val (.ref q2), .val (.ref q3)] [(.ref b62), (.ref o)]))
  have f64 := ((f60.wr W59).ext E62)
  obtain ⟨pv63, pf63⟩ := f64 "forwardColumns" "[I" (.array .int) (Or.inl (hw _ (List.mem_of_getElem? (i := 128) rfl))) (by decide)
  have f65 := ((f61.wr W59).ext E62)
  obtain ⟨T63, h63, X63, e63, W63, st63⟩ := putF X62 hx hZ hown (host := "") (Or.inl (hw _ (List.mem_of_getElem? (i := 127) rfl))) Via.refl e62 pf63 f65 (Or.inl (hw _ (List.mem_of_getElem? (i := 128) rfl))) (hw _ (List.mem_of_getElem? (i := 89) rfl)) (ty := (.array .int)) (by decide) rfl rfl (g := (mkF m 117 #[.val (.ref o), .val (.int (2 : Int32)), .val (.ref q1), .val (.ref q2), .val (.ref q3)] [(.ref b62), (.ref o)])) rfl rfl (hb hby d5_117)
  have N63 := Fr.snoc X63 N59 go
  have Fw63 := pf63.same W63
  have Z63 : n0 ≤ h63.size := by rw [W63.size]; exact Z62
  refine own_go st63 ?_
  show own_Go _ _ _ _ _ _ _ (T63.setTop (mkF m 120 #[.val (.ref o), .val (.int (2 : Int32)), .val (.ref q1), .val (.ref q2), .val (.ref q3)] []))
  refine own_go (fun _ q => XS.aloadN X63.here hx rfl (hb hby d5_120) rfl rfl q) ?_
  show own_Go _ _ _ _ _ _ _ (T63.setTop (mkF m 121 #[.val (.ref o), .val (.int (2 : Int32)), .val (.ref q1), .val (.ref q2), .val (.ref q3)] [(.ref o)]))
  refine own_go (fun _ q => XS.iconst X63.here hx rfl (hb hby d5_121) q) ?_
  show own_Go _ _ _ _ _ _ _ (T63.setTop (mkF m 122 #[.val (.ref o), .val (.int (2 : Int32)), .val (.ref q1), .val (.ref q2), .val (.ref q3)] [(.int (0 : Int32)), (.ref o)]))
  obtain ⟨T66, h66, k66, X66, e66, E66, Aw66, st66⟩ := newP X63 hx hZ (hw _ (List.mem_of_getElem? (i := 1) rfl)) e63 (g := (mkF m 122 #[.val (.ref o), .val (.int (2 : Int32)), .val (.ref q1), .val (.ref q2), .val (.ref q3)] [(.int (0 : Int32)), (.ref o)])) rfl (hb hby d5_122) rfl (by decide) (cap := 0) (by decide) (by decide) (by decide) (by decide)
  obtain ⟨b66, g66⟩ : ∃ z, z = h63.size := ⟨_, rfl⟩
  rw [← g66] at Aw66 st66
  have G66 : n0 ≤ b66 := Nat.le_trans Z63 (Nat.le_of_eq g66.symm)
  have Z66 : n0 ≤ h66.size := Nat.le_trans Z63 E66.1
  refine own_go st66 ?_
  show own_Go _ _ _ _ _ _ _ (T66.setTop (mkF m 124 #[.val (.ref o), .val (.int (2 : Int32)), .val (.ref q1), .val (.ref q2), .val (.ref q3)] [(.ref b66), (.ref o)]))
  have f68 := ((f64.wr W63).ext E66)
  obtain ⟨pv67, pf67⟩ := f68 "forwardPivots" "[D" (.array .double) (Or.inl (hw _ (List.mem_of_getElem? (i := 130) rfl))) (by decide)
  have f69 := ((f65.wr W63).ext E66)
  obtain ⟨T67, h67, X67, e67, W67, st67⟩ := putF X66 hx hZ hown (host := "") (Or.inl (hw _ (List.mem_of_getElem? (i := 129) rfl))) Via.refl e66 pf67 f69 (Or.inl (hw _ (List.mem_of_getElem? (i := 130) rfl))) (hw _ (List.mem_of_getElem? (i := 89) rfl)) (ty := (.array .double)) (by decide) rfl rfl (g := (mkF m 124 #[.val (.ref o), .val (.int (2 : Int32)), .val (.ref q1), .val (.ref q2), .val (.ref q3)] [(.ref b66), (.ref o)])) rfl rfl (hb hby d5_124)
  have N67 := Fr.snoc X67 N63 go
  have Fw67 := pf67.same W67
  have Z67 : n0 ≤ h67.size := by rw [W67.size]; exact Z66
  refine own_go st67 ?_
  show own_Go _ _ _ _ _ _ _ (T67.setTop (mkF m 127 #[.val (.ref o), .val (.int (2 : Int32)), .val (.ref q1), .val (.ref q2), .val (.ref q3)] []))
  refine own_go (fun _ q => XS.aloadN X67.here hx rfl (hb hby d5_127) rfl rfl q) ?_
  show own_Go _ _ _ _ _ _ _ (T67.setTop (mkF m 128 #[.val (.ref o), .val (.int (2 : Int32)), .val (.ref q1), .val (.ref q2), .val (.ref q3)] [(.ref o)]))
  refine own_go (fun _ q => XS.iconst X67.here hx rfl (hb hby d5_128) q) ?_
  show own_Go _ _ _ _ _ _ _ (T67.setTop (mkF m 129 #[.val (.ref o), .val (.int (2 : Int32)), .val (.ref q1), .val (.ref q2), .val (.ref q3)] [(.int (0 : Int32)), (.ref o)]))
  obtain ⟨T70, h70, k70, X70, e70, E70, Aw70, st70⟩ := newP X67 hx hZ (hw _ (List.mem_of_getElem? (i := 25) rfl)) e67 (g := (mkF m 129 #[.val (.ref o), .val (.int (2 : Int32)), .val (.ref q1), .val (.ref q2), .val (.ref q3)] [(.int (0 : Int32)), (.ref o)])) rfl (hb hby d5_129) rfl (by decide) (cap := 0) (by decide) (by decide) (by decide) (by decide)
  obtain ⟨b70, g70⟩ : ∃ z, z = h67.size := ⟨_, rfl⟩
  rw [← g70] at Aw70 st70
  have G70 : n0 ≤ b70 := Nat.le_trans Z67 (Nat.le_of_eq g70.symm)
  have Z70 : n0 ≤ h70.size := Nat.le_trans Z67 E70.1
  refine own_go st70 ?_
  show own_Go _ _ _ _ _ _ _ (T70.setTop (mkF m 131 #[.val (.ref o), .val (.int (2 : Int32)), .val (.ref q1), .val (.ref q2), .val (.ref q3)] [(.ref b70), (.ref o)]))
  have f72 := ((f68.wr W67).ext E70)
  obtain ⟨pv71, pf71⟩ := f72 "nucleusRows" "[I" (.array .int) (Or.inl (hw _ (List.mem_of_getElem? (i := 132) rfl))) (by decide)
  have f73 := ((f69.wr W67).ext E70)
  obtain ⟨T71, h71, X71, e71, W71, st71⟩ := putF X70 hx hZ hown (host := "") (Or.inl (hw _ (List.mem_of_getElem? (i := 131) rfl))) Via.refl e70 pf71 f73 (Or.inl (hw _ (List.mem_of_getElem? (i := 132) rfl))) (hw _ (List.mem_of_getElem? (i := 89) rfl)) (ty := (.array .int)) (by decide) rfl rfl (g := (mkF m 131 #[.val (.ref o), .val (.int (2 : Int32)), .val (.ref q1), .val (.ref q2), .val (.ref q3)] [(.ref b70), (.ref o)])) rfl rfl (hb hby d5_131)
  have N71 := Fr.snoc X71 N67 go
  have Fw71 := pf71.same W71
  have Z71 : n0 ≤ h71.size := by rw [W71.size]; exact Z70
  refine own_go st71 ?_
  show own_Go _ _ _ _ _ _ _ (T71.setTop (mkF m 134 #[.val (.ref o), .val (.int (2 : Int32)), .val (.ref q1), .val (.ref q2), .val (.ref q3)] []))
  refine own_go (fun _ q => XS.aloadN X71.here hx rfl (hb hby d5_134) rfl rfl q) ?_
  show own_Go _ _ _ _ _ _ _ (T71.setTop (mkF m 135 #[.val (.ref o), .val (.int (2 : Int32)), .val (.ref q1), .val (.ref q2), .val (.ref q3)] [(.ref o)]))
  refine own_go (fun _ q => XS.iconst X71.here hx rfl (hb hby d5_135) q) ?_
  show own_Go _ _ _ _ _ _ _ (T71.setTop (mkF m 136 #[.val (.ref o), .val (.int (2 : Int32)), .val (.ref q1), .val (.ref q2), .val (.ref q3)] [(.int (0 : Int32)), (.ref o)]))
  obtain ⟨T74, h74, k74, X74, e74, E74, Aw74, st74⟩ := newP X71 hx hZ (hw _ (List.mem_of_getElem? (i := 25) rfl)) e71 (g := (mkF m 136 #[.val (.ref o), .val (.int (2 : Int32)), .val (.ref q1), .val (.ref q2), .val (.ref q3)] [(.int (0 : Int32)), (.ref o)])) rfl (hb hby d5_136) rfl (by decide) (cap := 0) (by decide) (by decide) (by decide) (by decide)
  obtain ⟨b74, g74⟩ : ∃ z, z = h71.size := ⟨_, rfl⟩
  rw [← g74] at Aw74 st74
  have G74 : n0 ≤ b74 := Nat.le_trans Z71 (Nat.le_of_eq g74.symm)
  have Z74 : n0 ≤ h74.size := Nat.le_trans Z71 E74.1
  refine own_go st74 ?_
  show own_Go _ _ _ _ _ _ _ (T74.setTop (mkF m 138 #[.val (.ref o), .val (.int (2 : Int32)), .val (.ref q1), .val (.ref q2), .val (.ref q3)] [(.ref b74), (.ref o)]))
  have f76 := ((f72.wr W71).ext E74)
  obtain ⟨pv75, pf75⟩ := f76 "nucleusColumns" "[I" (.array .int) (Or.inl (hw _ (List.mem_of_getElem? (i := 134) rfl))) (by decide)
  have f77 := ((f73.wr W71).ext E74)
  obtain ⟨T75, h75, X75, e75, W75, st75⟩ := putF X74 hx hZ hown (host := "") (Or.inl (hw _ (List.mem_of_getElem? (i := 133) rfl))) Via.refl e74 pf75 f77 (Or.inl (hw _ (List.mem_of_getElem? (i := 134) rfl))) (hw _ (List.mem_of_getElem? (i := 89) rfl)) (ty := (.array .int)) (by decide) rfl rfl (g := (mkF m 138 #[.val (.ref o), .val (.int (2 : Int32)), .val (.ref q1), .val (.ref q2), .val (.ref q3)] [(.ref b74), (.ref o)])) rfl rfl (hb hby d5_138)
  have N75 := Fr.snoc X75 N71 go
  have Fw75 := pf75.same W75
  have Z75 : n0 ≤ h75.size := by rw [W75.size]; exact Z74
  refine own_go st75 ?_
  show own_Go _ _ _ _ _ _ _ (T75.setTop (mkF m 141 #[.val (.ref o), .val (.int (2 : Int32)), .val (.ref q1), .val (.ref q2), .val (.ref q3)] []))
  refine own_go (fun _ q => XS.aloadN X75.here hx rfl (hb hby d5_141) rfl rfl q) ?_
  show own_Go _ _ _ _ _ _ _ (T75.setTop (mkF m 142 #[.val (.ref o), .val (.int (2 : Int32)), .val (.ref q1), .val (.ref q2), .val (.ref q3)] [(.ref o)]))
  obtain ⟨T78, h78, X78, e78, E78, A78, D78, -, st78⟩ := newO X75 hx hZ hown (hw _ (List.mem_of_getElem? (i := 135) rfl)) (hw _ (List.mem_of_getElem? (i := 136) rfl)) (hw _ (List.mem_of_getElem? (i := 137) rfl)) e75 (g := (mkF m 142 #[.val (.ref o), .val (.int (2 : Int32)), .val (.ref q1), .val (.ref q2), .val (.ref q3)] [(.ref o)])) rfl (hb hby d5_142) (by decide) (by decide)
  obtain ⟨b78, g78⟩ : ∃ z, z = h75.size := ⟨_, rfl⟩
  rw [← g78] at A78 D78 st78
  have f79 := (f77.wr W75)
  have nq80 : o ≠ b78 := Nat.ne_of_lt (Nat.lt_of_lt_of_eq (f79).lt g78.symm)
  have G78 : n0 ≤ b78 := Nat.le_trans Z75 (Nat.le_of_eq g78.symm)
  have Z78 : n0 ≤ h78.size := Nat.le_trans Z75 E78.1
  have P78 : own_Fs Z a0 h78 b78 "com/example/slotwright/slotwright/SparseLu" := fun _ _ _ L q => ⟨_, D78 L q⟩
  refine own_go st78 ?_
  show own_Go _ _ _ _ _ _ _ (T78.setTop (mkF m 145 #[.val (.ref o), .val (.int (2 : Int32)), .val (.ref q1), .val (.ref q2), .val (.ref q3)] [(.ref b78), (.ref o)]))
  refine own_go (fun _ q => XS.dup X78.here hx rfl (hb hby d5_145) rfl rfl q) ?_
  show own_Go _ _ _ _ _ _ _ (T78.setTop (mkF m 146 #[.val (.ref o), .val (.int (2 : Int32)), .val (.ref q1), .val (.ref q2), .val (.ref q3)] [(.ref b78), (.ref b78), (.ref o)]))
  refine own_go (fun _ q => XS.iconst X78.here hx rfl (hb hby d5_146) q) ?_
  show own_Go _ _ _ _ _ _ _ (T78.setTop (mkF m 147 #[.val (.ref o), .val (.int (2 : Int32)), .val (.ref q1), .val (.ref q2), .val (.ref q3)] [(.int (0 : Int32)), (.ref b78), (.ref b78), (.ref o)]))
  obtain ⟨T81, h81, k81, X81, e81, E81, Aw81, Ex81, Ov81, st81⟩ := newRA X78 hx hZ hown (C := "[D") (ty := .double) (by decide) (hw _ (List.mem_of_getElem? (i := 112) rfl)) (hw _ (List.mem_of_getElem? (i := 16) rfl)) e78 (g := (mkF m 147 #[.val (.ref o), .val (.int (2 : Int32)), .val (.ref q1), .val (.ref q2), .val (.ref q3)] [(.int (0 : Int32)), (.ref b78), (.ref b78), (.ref o)])) rfl (hb hby d5_147) rfl (by decide) (cap := 0) (by decide) (by decide) (by decide) (by decide) (ad := "[[D") (by decide)
  obtain ⟨b81, g81⟩ : ∃ z, z = h78.size := ⟨_, rfl⟩
  rw [← g81] at Aw81 st81 Ex81
  have nq82 : b78 ≠ b81 := Nat.ne_of_lt (Nat.lt_of_lt_of_eq (A78).lt g81.symm)
  have f83 := (f79.ext E78)
  have nq84 : o ≠ b81 := Nat.ne_of_lt (Nat.lt_of_lt_of_eq (f83).lt g81.symm)
  have A81 := own_Ar.new (nn := 0) Aw81 (by decide) rfl
  have St81 : own_St Z h81 b81 "[D" := ⟨_, _, Aw81.1, Ov81⟩
  have G81 : n0 ≤ b81 := Nat.le_trans Z78 (Nat.le_of_eq g81.symm)
  have Z81 : n0 ≤ h81.size := Nat.le_trans Z78 E81.1
  refine own_go st81 ?_
  show own_Go _ _ _ _ _ _ _ (T81.setTop (mkF m 150 #[.val (.ref o), .val (.int (2 : Int32)), .val (.ref q1), .val (.ref q2), .val (.ref q3)] [(.ref b81), (.ref b78), (.ref b78), (.ref o)]))
  have f85 := (A78.ext E81)
  have f86 := (P78.ext E81)
  refine own_init X81 hx hZ rfl hown (hw _ (List.mem_of_getElem? (i := 138) rfl)) (hw _ (List.mem_of_getElem? (i := 139) rfl)) (hw _ (List.mem_of_getElem? (i := 137) rfl)) (hw _ (List.mem_of_getElem? (i := 140) rfl)) (by decide) e81 (a := b78) (argsL := [(.ref b81)]) (rest := [(.ref b78), (.ref o)]) (rm6 l Z a0 hw [] b78 b81 _ h81 n0 Z81 f85 f86 A81 (Ne.symm nq82) G78) 2 (by decide) (by decide) (by decide) (by decide) (by rw [hml]; rfl) pd_0 rfl rfl (Nat.le_of_eq rfl) (hb hby d5_150) rfl ?_
  intro v87 T87 L87 X87 hQ87
  obtain ⟨rfl, N87q, K87⟩ := hQ87
  have N87 := Fr.app N75 N87q
  show own_Go _ _ _ _ _ _ _ (T87.setTop (mkF m 153 #[.val (.ref o), .val (.int (2 : Int32)), .val (.ref q1), .val (.ref q2), .val (.ref q3)] [(.ref b78), (.ref o)]))
  have hs78 : h0.size ≤ b78 := Nat.le_trans (Nat.le_trans (Nat.le_trans (Nat.le_trans (Nat.le_trans (Nat.le_trans (Nat.le_trans (Nat.le_trans (Nat.le_trans (Nat.le_trans (Nat.le_trans (Nat.le_trans (Nat.le_trans (Nat.le_trans (Nat.le_trans (Nat.le_trans (Nat.le_trans (Nat.le_trans (Nat.le_trans (Nat.le_trans (Nat.le_trans (Nat.le_trans (Nat.le_trans (Nat.le_trans (Nat.le_trans (Nat.le_trans (Nat.le_trans (Nat.le_trans (Nat.le_trans (Nat.le_trans (Nat.le_trans (Nat.le_trans (Nat.le_trans (Nat.le_trans (Nat.le_trans (Nat.le_trans (Nat.le_trans (Nat.le_trans (Nat.le_trans (Nat.le_refl _) E2.1) (Nat.le_of_eq W3.size.symm)) E6.1) (Nat.le_of_eq W7.size.symm)) E10.1) (Nat.le_of_eq W11.size.symm)) E14.1) (Nat.le_of_eq W15.size.symm)) E18.1) (Nat.le_of_eq W19.size.symm)) E22.1) (Nat.le_of_eq W23.size.symm)) E26.1) (Nat.le_of_eq W27.size.symm)) E30.1) (Nat.le_of_eq W31.size.symm)) E34.1) (Nat.le_of_eq W35.size.symm)) E38.1) (Nat.le_of_eq W39.size.symm)) E42.1) (Nat.le_of_eq W43.size.symm)) E46.1) (Nat.le_of_eq W47.size.symm)) E50.1) (Nat.le_of_eq W51.size.symm)) E54.1) (Nat.le_of_eq W55.size.symm)) E58.1) (Nat.le_of_eq W59.size.symm)) E62.1) (Nat.le_of_eq W63.size.symm)) E66.1) (Nat.le_of_eq W67.size.symm)) E70.1) (Nat.le_of_eq W71.size.symm)) E74.1) (Nat.le_of_eq W75.size.symm)) (Nat.le_of_eq g78.symm)
  have Z87 : n0 ≤ T87.heap.size := Nat.le_trans Z81 K87.1
  have f89 := ((((f76.wr W75).ext E78).ext E81).keep K87)
  obtain ⟨pv88, pf88⟩ := f89 "nucleusFactors" "Lcom/example/slotwright/slotwright/SparseLu;" (.object "com/example/slotwright/slotwright/SparseLu") (Or.inl (hw _ (List.mem_of_getElem? (i := 170) rfl))) (by decide)
  have f90 := ((f83.ext E81).keep K87)
  obtain ⟨T88, h88, X88, e88, W88, st88⟩ := putF X87 hx hZ hown (host := "") (Or.inl (hw _ (List.mem_of_getElem? (i := 169) rfl))) Via.refl rfl pf88 f90 (Or.inl (hw _ (List.mem_of_getElem? (i := 170) rfl))) (hw _ (List.mem_of_getElem? (i := 89) rfl)) (ty := (.object "com/example/slotwright/slotwright/SparseLu")) (by decide) rfl rfl (g := (mkF m 153 #[.val (.ref o), .val (.int (2 : Int32)), .val (.ref q1), .val (.ref q2), .val (.ref q3)] [(.ref b78), (.ref o)])) rfl rfl (hb hby d5_153)
  have N88 := Fr.snoc X88 N87 go
  have Fw88 := pf88.same W88
  have Z88 : n0 ≤ h88.size := by rw [W88.size]; exact Z87
  refine own_go st88 ?_
  show own_Go _ _ _ _ _ _ _ (T88.setTop (mkF m 156 #[.val (.ref o), .val (.int (2 : Int32)), .val (.ref q1), .val (.ref q2), .val (.ref q3)] []))
  refine own_go (fun _ q => XS.aloadN X88.here hx rfl (hb hby d5_156) rfl rfl q) ?_
  show own_Go _ _ _ _ _ _ _ (T88.setTop (mkF m 157 #[.val (.ref o), .val (.int (2 : Int32)), .val (.ref q1), .val (.ref q2), .val (.ref q3)] [(.ref o)]))
  refine own_go (fun _ q => XS.bipush X88.here hx rfl (hb hby d5_157) q) ?_
  show own_Go _ _ _ _ _ _ _ (T88.setTop (mkF m 159 #[.val (.ref o), .val (.int (2 : Int32)), .val (.ref q1), .val (.ref q2), .val (.ref q3)] [(.int (16 : Int32)), (.ref o)]))
  obtain ⟨T91, h91, k91, X91, e91, E91, Aw91, st91⟩ := newP X88 hx hZ (hw _ (List.mem_of_getElem? (i := 25) rfl)) e88 (g := (mkF m 159 #[.val (.ref o), .val (.int (2 : Int32)), .val (.ref q1), .val (.ref q2), .val (.ref q3)] [(.int (16 : Int32)), (.ref o)])) rfl (hb hby d5_159) rfl (by decide) (cap := 16) (by decide) (by decide) (by decide) (by decide)
  obtain ⟨b91, g91⟩ : ∃ z, z = h88.size := ⟨_, rfl⟩
  rw [← g91] at Aw91 st91
  have G91 : n0 ≤ b91 := Nat.le_trans Z88 (Nat.le_of_eq g91.symm)
  have Z91 : n0 ≤ h91.size := Nat.le_trans Z88 E91.1
  refine own_go st91 ?_
  show own_Go _ _ _ _ _ _ _ (T91.setTop (mkF m 161 #[.val (.ref o), .val (.int (2 : Int32)), .val (.ref q1), .val (.ref q2), .val (.ref q3)] [(.ref b91), (.ref o)]))
  have f93 := ((f89.wr W88).ext E91)
  obtain ⟨pv92, pf92⟩ := f93 "etaPositions" "[I" (.array .int) (Or.inl (hw _ (List.mem_of_getElem? (i := 172) rfl))) (by decide)
  have f94 := ((f90.wr W88).ext E91)
  obtain ⟨T92, h92, X92, e92, W92, st92⟩ := putF X91 hx hZ hown (host := "") (Or.inl (hw _ (List.mem_of_getElem? (i := 171) rfl))) Via.refl e91 pf92 f94 (Or.inl (hw _ (List.mem_of_getElem? (i := 172) rfl))) (hw _ (List.mem_of_getElem? (i := 89) rfl)) (ty := (.array .int)) (by decide) rfl rfl (g := (mkF m 161 #[.val (.ref o), .val (.int (2 : Int32)), .val (.ref q1), .val (.ref q2), .val (.ref q3)] [(.ref b91), (.ref o)])) rfl rfl (hb hby d5_161)
  have N92 := Fr.snoc X92 N88 go
  have Fw92 := pf92.same W92
  have Z92 : n0 ≤ h92.size := by rw [W92.size]; exact Z91
  refine own_go st92 ?_
  show own_Go _ _ _ _ _ _ _ (T92.setTop (mkF m 164 #[.val (.ref o), .val (.int (2 : Int32)), .val (.ref q1), .val (.ref q2), .val (.ref q3)] []))
  refine own_go (fun _ q => XS.aloadN X92.here hx rfl (hb hby d5_164) rfl rfl q) ?_
  show own_Go _ _ _ _ _ _ _ (T92.setTop (mkF m 165 #[.val (.ref o), .val (.int (2 : Int32)), .val (.ref q1), .val (.ref q2), .val (.ref q3)] [(.ref o)]))
  refine own_go (fun _ q => XS.bipush X92.here hx rfl (hb hby d5_165) q) ?_
  show own_Go _ _ _ _ _ _ _ (T92.setTop (mkF m 167 #[.val (.ref o), .val (.int (2 : Int32)), .val (.ref q1), .val (.ref q2), .val (.ref q3)] [(.int (16 : Int32)), (.ref o)]))
  obtain ⟨T95, h95, k95, X95, e95, E95, Aw95, Ex95, Ov95, st95⟩ := newRA X92 hx hZ hown (C := "[I") (ty := .int) (by decide) (hw _ (List.mem_of_getElem? (i := 109) rfl)) (hw _ (List.mem_of_getElem? (i := 12) rfl)) e92 (g := (mkF m 167 #[.val (.ref o), .val (.int (2 : Int32)), .val (.ref q1), .val (.ref q2), .val (.ref q3)] [(.int (16 : Int32)), (.ref o)])) rfl (hb hby d5_167) rfl (by decide) (cap := 16) (by decide) (by decide) (by decide) (by decide) (ad := "[[I") (by decide)
  obtain ⟨b95, g95⟩ : ∃ z, z = h92.size := ⟨_, rfl⟩
  rw [← g95] at Aw95 st95 Ex95
  have G95 : n0 ≤ b95 := Nat.le_trans Z92 (Nat.le_of_eq g95.symm)
  have Z95 : n0 ≤ h95.size := Nat.le_trans Z92 E95.1
  refine own_go st95 ?_
  show own_Go _ _ _ _ _ _ _ (T95.setTop (mkF m 170 #[.val (.ref o), .val (.int (2 : Int32)), .val (.ref q1), .val (.ref q2), .val (.ref q3)] [(.ref b95), (.ref o)]))
  have f97 := ((f93.wr W92).ext E95)
  obtain ⟨pv96, pf96⟩ := f97 "etaIndex" "[[I" (.array (.array .int)) (Or.inl (hw _ (List.mem_of_getElem? (i := 174) rfl))) (by decide)
  have f98 := ((f94.wr W92).ext E95)
  obtain ⟨T96, h96, X96, e96, W96, st96⟩ := putF X95 hx hZ hown (host := "") (Or.inl (hw _ (List.mem_of_getElem? (i := 173) rfl))) Via.refl e95 pf96 f98 (Or.inl (hw _ (List.mem_of_getElem? (i := 174) rfl))) (hw _ (List.mem_of_getElem? (i := 89) rfl)) (ty := (.array (.array .int))) (by decide) rfl rfl (g := (mkF m 170 #[.val (.ref o), .val (.int (2 : Int32)), .val (.ref q1), .val (.ref q2), .val (.ref q3)] [(.ref b95), (.ref o)])) rfl rfl (hb hby d5_170)
  have N96 := Fr.snoc X96 N92 go
  have Fw96 := pf96.same W96
  have Z96 : n0 ≤ h96.size := by rw [W96.size]; exact Z95
  refine own_go st96 ?_
  show own_Go _ _ _ _ _ _ _ (T96.setTop (mkF m 173 #[.val (.ref o), .val (.int (2 : Int32)), .val (.ref q1), .val (.ref q2), .val (.ref q3)] []))
  refine own_go (fun _ q => XS.aloadN X96.here hx rfl (hb hby d5_173) rfl rfl q) ?_
  show own_Go _ _ _ _ _ _ _ (T96.setTop (mkF m 174 #[.val (.ref o), .val (.int (2 : Int32)), .val (.ref q1), .val (.ref q2), .val (.ref q3)] [(.ref o)]))
  refine own_go (fun _ q => XS.bipush X96.here hx rfl (hb hby d5_174) q) ?_
  show own_Go _ _ _ _ _ _ _ (T96.setTop (mkF m 176 #[.val (.ref o), .val (.int (2 : Int32)), .val (.ref q1), .val (.ref q2), .val (.ref q3)] [(.int (16 : Int32)), (.ref o)]))
  obtain ⟨T99, h99, k99, X99, e99, E99, Aw99, Ex99, Ov99, st99⟩ := newRA X96 hx hZ hown (C := "[D") (ty := .double) (by decide) (hw _ (List.mem_of_getElem? (i := 112) rfl)) (hw _ (List.mem_of_getElem? (i := 16) rfl)) e96 (g := (mkF m 176 #[.val (.ref o), .val (.int (2 : Int32)), .val (.ref q1), .val (.ref q2), .val (.ref q3)] [(.int (16 : Int32)), (.ref o)])) rfl (hb hby d5_176) rfl (by decide) (cap := 16) (by decide) (by decide) (by decide) (by decide) (ad := "[[D") (by decide)
  obtain ⟨b99, g99⟩ : ∃ z, z = h96.size := ⟨_, rfl⟩
  rw [← g99] at Aw99 st99 Ex99
  have G99 : n0 ≤ b99 := Nat.le_trans Z96 (Nat.le_of_eq g99.symm)
  have Z99 : n0 ≤ h99.size := Nat.le_trans Z96 E99.1
  refine own_go st99 ?_
  show own_Go _ _ _ _ _ _ _ (T99.setTop (mkF m 179 #[.val (.ref o), .val (.int (2 : Int32)), .val (.ref q1), .val (.ref q2), .val (.ref q3)] [(.ref b99), (.ref o)]))
  have f101 := ((f97.wr W96).ext E99)
  obtain ⟨pv100, pf100⟩ := f101 "etaValues" "[[D" (.array (.array .double)) (Or.inl (hw _ (List.mem_of_getElem? (i := 176) rfl))) (by decide)
  have f102 := ((f98.wr W96).ext E99)
  obtain ⟨T100, h100, X100, e100, W100, st100⟩ := putF X99 hx hZ hown (host := "") (Or.inl (hw _ (List.mem_of_getElem? (i := 175) rfl))) Via.refl e99 pf100 f102 (Or.inl (hw _ (List.mem_of_getElem? (i := 176) rfl))) (hw _ (List.mem_of_getElem? (i := 89) rfl)) (ty := (.array (.array .double))) (by decide) rfl rfl (g := (mkF m 179 #[.val (.ref o), .val (.int (2 : Int32)), .val (.ref q1), .val (.ref q2), .val (.ref q3)] [(.ref b99), (.ref o)])) rfl rfl (hb hby d5_179)
  have N100 := Fr.snoc X100 N96 go
  have Fw100 := pf100.same W100
  have Z100 : n0 ≤ h100.size := by rw [W100.size]; exact Z99
  refine own_go st100 ?_
  show own_Go _ _ _ _ _ _ _ (T100.setTop (mkF m 182 #[.val (.ref o), .val (.int (2 : Int32)), .val (.ref q1), .val (.ref q2), .val (.ref q3)] []))
  refine own_go (fun _ q => XS.aloadN X100.here hx rfl (hb hby d5_182) rfl rfl q) ?_
  show own_Go _ _ _ _ _ _ _ (T100.setTop (mkF m 183 #[.val (.ref o), .val (.int (2 : Int32)), .val (.ref q1), .val (.ref q2), .val (.ref q3)] [(.ref o)]))
  refine own_go (fun _ q => XS.iconst X100.here hx rfl (hb hby d5_183) q) ?_
  show own_Go _ _ _ _ _ _ _ (T100.setTop (mkF m 184 #[.val (.ref o), .val (.int (2 : Int32)), .val (.ref q1), .val (.ref q2), .val (.ref q3)] [(.int (0 : Int32)), (.ref o)]))
  obtain ⟨T103, h103, k103, X103, e103, E103, Aw103, st103⟩ := newP X100 hx hZ (hw _ (List.mem_of_getElem? (i := 1) rfl)) e100 (g := (mkF m 184 #[.val (.ref o), .val (.int (2 : Int32)), .val (.ref q1), .val (.ref q2), .val (.ref q3)] [(.int (0 : Int32)), (.ref o)])) rfl (hb hby d5_184) rfl (by decide) (cap := 0) (by decide) (by decide) (by decide) (by decide)
  obtain ⟨b103, g103⟩ : ∃ z, z = h100.size := ⟨_, rfl⟩
  rw [← g103] at Aw103 st103
  have G103 : n0 ≤ b103 := Nat.le_trans Z100 (Nat.le_of_eq g103.symm)
  have Z103 : n0 ≤ h103.size := Nat.le_trans Z100 E103.1
  refine own_go st103 ?_
  show own_Go _ _ _ _ _ _ _ (T103.setTop (mkF m 186 #[.val (.ref o), .val (.int (2 : Int32)), .val (.ref q1), .val (.ref q2), .val (.ref q3)] [(.ref b103), (.ref o)]))
  have f105 := ((f101.wr W100).ext E103)
  obtain ⟨pv104, pf104⟩ := f105 "byKernelRow" "[D" (.array .double) (Or.inl (hw _ (List.mem_of_getElem? (i := 178) rfl))) (by decide)
  have f106 := ((f102.wr W100).ext E103)
  obtain ⟨T104, h104, X104, e104, W104, st104⟩ := putF X103 hx hZ hown (host := "") (Or.inl (hw _ (List.mem_of_getElem? (i := 177) rfl))) Via.refl e103 pf104 f106 (Or.inl (hw _ (List.mem_of_getElem? (i := 178) rfl))) (hw _ (List.mem_of_getElem? (i := 89) rfl)) (ty := (.array .double)) (by decide) rfl rfl (g := (mkF m 186 #[.val (.ref o), .val (.int (2 : Int32)), .val (.ref q1), .val (.ref q2), .val (.ref q3)] [(.ref b103), (.ref o)])) rfl rfl (hb hby d5_186)
  have N104 := Fr.snoc X104 N100 go
  have Fw104 := pf104.same W104
  have Z104 : n0 ≤ h104.size := by rw [W104.size]; exact Z103
  refine own_go st104 ?_
  show own_Go _ _ _ _ _ _ _ (T104.setTop (mkF m 189 #[.val (.ref o), .val (.int (2 : Int32)), .val (.ref q1), .val (.ref q2), .val (.ref q3)] []))
  refine own_go (fun _ q => XS.aloadN X104.here hx rfl (hb hby d5_189) rfl rfl q) ?_
  show own_Go _ _ _ _ _ _ _ (T104.setTop (mkF m 190 #[.val (.ref o), .val (.int (2 : Int32)), .val (.ref q1), .val (.ref q2), .val (.ref q3)] [(.ref o)]))
  refine own_go (fun _ q => XS.iconst X104.here hx rfl (hb hby d5_190) q) ?_
  show own_Go _ _ _ _ _ _ _ (T104.setTop (mkF m 191 #[.val (.ref o), .val (.int (2 : Int32)), .val (.ref q1), .val (.ref q2), .val (.ref q3)] [(.int (0 : Int32)), (.ref o)]))
  obtain ⟨T107, h107, k107, X107, e107, E107, Aw107, st107⟩ := newP X104 hx hZ (hw _ (List.mem_of_getElem? (i := 1) rfl)) e104 (g := (mkF m 191 #[.val (.ref o), .val (.int (2 : Int32)), .val (.ref q1), .val (.ref q2), .val (.ref q3)] [(.int (0 : Int32)), (.ref o)])) rfl (hb hby d5_191) rfl (by decide) (cap := 0) (by decide) (by decide) (by decide) (by decide)
  obtain ⟨b107, g107⟩ : ∃ z, z = h104.size := ⟨_, rfl⟩
  rw [← g107] at Aw107 st107
  have G107 : n0 ≤ b107 := Nat.le_trans Z104 (Nat.le_of_eq g107.symm)
  have Z107 : n0 ≤ h107.size := Nat.le_trans Z104 E107.1
  refine own_go st107 ?_
  show own_Go _ _ _ _ _ _ _ (T107.setTop (mkF m 193 #[.val (.ref o), .val (.int (2 : Int32)), .val (.ref q1), .val (.ref q2), .val (.ref q3)] [(.ref b107), (.ref o)]))
  have f109 := ((f105.wr W104).ext E107)
  obtain ⟨pv108, pf108⟩ := f109 "byKernelColumn" "[D" (.array .double) (Or.inl (hw _ (List.mem_of_getElem? (i := 180) rfl))) (by decide)
  have f110 := ((f106.wr W104).ext E107)
  obtain ⟨T108, h108, X108, e108, W108, st108⟩ := putF X107 hx hZ hown (host := "") (Or.inl (hw _ (List.mem_of_getElem? (i := 179) rfl))) Via.refl e107 pf108 f110 (Or.inl (hw _ (List.mem_of_getElem? (i := 180) rfl))) (hw _ (List.mem_of_getElem? (i := 89) rfl)) (ty := (.array .double)) (by decide) rfl rfl (g := (mkF m 193 #[.val (.ref o), .val (.int (2 : Int32)), .val (.ref q1), .val (.ref q2), .val (.ref q3)] [(.ref b107), (.ref o)])) rfl rfl (hb hby d5_193)
  have N108 := Fr.snoc X108 N104 go
  have Fw108 := pf108.same W108
  have Z108 : n0 ≤ h108.size := by rw [W108.size]; exact Z107
  refine own_go st108 ?_
  show own_Go _ _ _ _ _ _ _ (T108.setTop (mkF m 196 #[.val (.ref o), .val (.int (2 : Int32)), .val (.ref q1), .val (.ref q2), .val (.ref q3)] []))
  refine own_go (fun _ q => XS.aloadN X108.here hx rfl (hb hby d5_196) rfl rfl q) ?_
  show own_Go _ _ _ _ _ _ _ (T108.setTop (mkF m 197 #[.val (.ref o), .val (.int (2 : Int32)), .val (.ref q1), .val (.ref q2), .val (.ref q3)] [(.ref o)]))
  refine own_go (fun _ q => XS.iconst X108.here hx rfl (hb hby d5_197) q) ?_
  show own_Go _ _ _ _ _ _ _ (T108.setTop (mkF m 198 #[.val (.ref o), .val (.int (2 : Int32)), .val (.ref q1), .val (.ref q2), .val (.ref q3)] [(.int (0 : Int32)), (.ref o)]))
  obtain ⟨T111, h111, k111, X111, e111, E111, Aw111, st111⟩ := newP X108 hx hZ (hw _ (List.mem_of_getElem? (i := 1) rfl)) e108 (g := (mkF m 198 #[.val (.ref o), .val (.int (2 : Int32)), .val (.ref q1), .val (.ref q2), .val (.ref q3)] [(.int (0 : Int32)), (.ref o)])) rfl (hb hby d5_198) rfl (by decide) (cap := 0) (by decide) (by decide) (by decide) (by decide)
  obtain ⟨b111, g111⟩ : ∃ z, z = h108.size := ⟨_, rfl⟩
  rw [← g111] at Aw111 st111
  have G111 : n0 ≤ b111 := Nat.le_trans Z108 (Nat.le_of_eq g111.symm)
  have Z111 : n0 ≤ h111.size := Nat.le_trans Z108 E111.1
  refine own_go st111 ?_
  show own_Go _ _ _ _ _ _ _ (T111.setTop (mkF m 200 #[.val (.ref o), .val (.int (2 : Int32)), .val (.ref q1), .val (.ref q2), .val (.ref q3)] [(.ref b111), (.ref o)]))
  have f113 := ((f109.wr W108).ext E111)
  obtain ⟨pv112, pf112⟩ := f113 "byPositionWork" "[D" (.array .double) (Or.inl (hw _ (List.mem_of_getElem? (i := 182) rfl))) (by decide)
  have f114 := ((f110.wr W108).ext E111)
  obtain ⟨T112, h112, X112, e112, W112, st112⟩ := putF X111 hx hZ hown (host := "") (Or.inl (hw _ (List.mem_of_getElem? (i := 181) rfl))) Via.refl e111 pf112 f114 (Or.inl (hw _ (List.mem_of_getElem? (i := 182) rfl))) (hw _ (List.mem_of_getElem? (i := 89) rfl)) (ty := (.array .double)) (by decide) rfl rfl (g := (mkF m 200 #[.val (.ref o), .val (.int (2 : Int32)), .val (.ref q1), .val (.ref q2), .val (.ref q3)] [(.ref b111), (.ref o)])) rfl rfl (hb hby d5_200)
  have N112 := Fr.snoc X112 N108 go
  have Fw112 := pf112.same W112
  have Z112 : n0 ≤ h112.size := by rw [W112.size]; exact Z111
  refine own_go st112 ?_
  show own_Go _ _ _ _ _ _ _ (T112.setTop (mkF m 203 #[.val (.ref o), .val (.int (2 : Int32)), .val (.ref q1), .val (.ref q2), .val (.ref q3)] []))
  refine own_go (fun _ q => XS.aloadN X112.here hx rfl (hb hby d5_203) rfl rfl q) ?_
  show own_Go _ _ _ _ _ _ _ (T112.setTop (mkF m 204 #[.val (.ref o), .val (.int (2 : Int32)), .val (.ref q1), .val (.ref q2), .val (.ref q3)] [(.ref o)]))
  refine own_go (fun _ q => XS.iconst X112.here hx rfl (hb hby d5_204) q) ?_
  show own_Go _ _ _ _ _ _ _ (T112.setTop (mkF m 205 #[.val (.ref o), .val (.int (2 : Int32)), .val (.ref q1), .val (.ref q2), .val (.ref q3)] [(.int (0 : Int32)), (.ref o)]))
  obtain ⟨T115, h115, k115, X115, e115, E115, Aw115, st115⟩ := newP X112 hx hZ (hw _ (List.mem_of_getElem? (i := 25) rfl)) e112 (g := (mkF m 205 #[.val (.ref o), .val (.int (2 : Int32)), .val (.ref q1), .val (.ref q2), .val (.ref q3)] [(.int (0 : Int32)), (.ref o)])) rfl (hb hby d5_205) rfl (by decide) (cap := 0) (by decide) (by decide) (by decide) (by decide)
  obtain ⟨b115, g115⟩ : ∃ z, z = h112.size := ⟨_, rfl⟩
  rw [← g115] at Aw115 st115
  have G115 : n0 ≤ b115 := Nat.le_trans Z112 (Nat.le_of_eq g115.symm)
  have Z115 : n0 ≤ h115.size := Nat.le_trans Z112 E115.1
  refine own_go st115 ?_
  show own_Go _ _ _ _ _ _ _ (T115.setTop (mkF m 207 #[.val (.ref o), .val (.int (2 : Int32)), .val (.ref q1), .val (.ref q2), .val (.ref q3)] [(.ref b115), (.ref o)]))
  have f117 := ((f113.wr W112).ext E115)
  obtain ⟨pv116, pf116⟩ := f117 "nucleusColumn" "[I" (.array .int) (Or.inl (hw _ (List.mem_of_getElem? (i := 184) rfl))) (by decide)
  have f118 := ((f114.wr W112).ext E115)
  obtain ⟨T116, h116, X116, e116, W116, st116⟩ := putF X115 hx hZ hown (host := "") (Or.inl (hw _ (List.mem_of_getElem? (i := 183) rfl))) Via.refl e115 pf116 f118 (Or.inl (hw _ (List.mem_of_getElem? (i := 184) rfl))) (hw _ (List.mem_of_getElem? (i := 89) rfl)) (ty := (.array .int)) (by decide) rfl rfl (g := (mkF m 207 #[.val (.ref o), .val (.int (2 : Int32)), .val (.ref q1), .val (.ref q2), .val (.ref q3)] [(.ref b115), (.ref o)])) rfl rfl (hb hby d5_207)
  have N116 := Fr.snoc X116 N112 go
  have Fw116 := pf116.same W116
  have Z116 : n0 ≤ h116.size := by rw [W116.size]; exact Z115
  refine own_go st116 ?_
  show own_Go _ _ _ _ _ _ _ (T116.setTop (mkF m 210 #[.val (.ref o), .val (.int (2 : Int32)), .val (.ref q1), .val (.ref q2), .val (.ref q3)] []))
  refine own_go (fun _ q => XS.aloadN X116.here hx rfl (hb hby d5_210) rfl rfl q) ?_
  show own_Go _ _ _ _ _ _ _ (T116.setTop (mkF m 211 #[.val (.ref o), .val (.int (2 : Int32)), .val (.ref q1), .val (.ref q2), .val (.ref q3)] [(.ref o)]))
  refine own_go (fun _ q => XS.iconst X116.here hx rfl (hb hby d5_211) q) ?_
  show own_Go _ _ _ _ _ _ _ (T116.setTop (mkF m 212 #[.val (.ref o), .val (.int (2 : Int32)), .val (.ref q1), .val (.ref q2), .val (.ref q3)] [(.int (0 : Int32)), (.ref o)]))
  obtain ⟨T119, h119, k119, X119, e119, E119, Aw119, st119⟩ := newP X116 hx hZ (hw _ (List.mem_of_getElem? (i := 25) rfl)) e116 (g := (mkF m 212 #[.val (.ref o), .val (.int (2 : Int32)), .val (.ref q1), .val (.ref q2), .val (.ref q3)] [(.int (0 : Int32)), (.ref o)])) rfl (hb hby d5_212) rfl (by decide) (cap := 0) (by decide) (by decide) (by decide) (by decide)
  obtain ⟨b119, g119⟩ : ∃ z, z = h116.size := ⟨_, rfl⟩
  rw [← g119] at Aw119 st119
  have G119 : n0 ≤ b119 := Nat.le_trans Z116 (Nat.le_of_eq g119.symm)
  have Z119 : n0 ≤ h119.size := Nat.le_trans Z116 E119.1
  refine own_go st119 ?_
  show own_Go _ _ _ _ _ _ _ (T119.setTop (mkF m 214 #[.val (.ref o), .val (.int (2 : Int32)), .val (.ref q1), .val (.ref q2), .val (.ref q3)] [(.ref b119), (.ref o)]))
  have f121 := ((f117.wr W116).ext E119)
  obtain ⟨pv120, pf120⟩ := f121 "nucleusRow" "[I" (.array .int) (Or.inl (hw _ (List.mem_of_getElem? (i := 186) rfl))) (by decide)
  have f122 := ((f118.wr W116).ext E119)
  obtain ⟨T120, h120, X120, e120, W120, st120⟩ := putF X119 hx hZ hown (host := "") (Or.inl (hw _ (List.mem_of_getElem? (i := 185) rfl))) Via.refl e119 pf120 f122 (Or.inl (hw _ (List.mem_of_getElem? (i := 186) rfl))) (hw _ (List.mem_of_getElem? (i := 89) rfl)) (ty := (.array .int)) (by decide) rfl rfl (g := (mkF m 214 #[.val (.ref o), .val (.int (2 : Int32)), .val (.ref q1), .val (.ref q2), .val (.ref q3)] [(.ref b119), (.ref o)])) rfl rfl (hb hby d5_214)
  have N120 := Fr.snoc X120 N116 go
  have Fw120 := pf120.same W120
  have Z120 : n0 ≤ h120.size := by rw [W120.size]; exact Z119
  refine own_go st120 ?_
  show own_Go _ _ _ _ _ _ _ (T120.setTop (mkF m 217 #[.val (.ref o), .val (.int (2 : Int32)), .val (.ref q1), .val (.ref q2), .val (.ref q3)] []))
  refine own_go (fun _ q => XS.aloadN X120.here hx rfl (hb hby d5_217) rfl rfl q) ?_
  show own_Go _ _ _ _ _ _ _ (T120.setTop (mkF m 218 #[.val (.ref o), .val (.int (2 : Int32)), .val (.ref q1), .val (.ref q2), .val (.ref q3)] [(.ref o)]))
  refine own_go (fun _ q => XS.iloadN X120.here hx rfl (hb hby d5_218) rfl q) ?_
  show own_Go _ _ _ _ _ _ _ (T120.setTop (mkF m 219 #[.val (.ref o), .val (.int (2 : Int32)), .val (.ref q1), .val (.ref q2), .val (.ref q3)] [(.int (2 : Int32)), (.ref o)]))
  have f124 := (f121.wr W120)
  obtain ⟨pv123, pf123⟩ := f124 "columns" "I" .int (Or.inr (hw _ (List.mem_of_getElem? (i := 188) rfl))) (by decide)
  have f125 := (f122.wr W120)
  obtain ⟨T123, h123, X123, e123, W123, st123⟩ := putF X120 hx hZ hown (host := "") (Or.inl (hw _ (List.mem_of_getElem? (i := 187) rfl))) Via.refl e120 pf123 f125 (Or.inr ⟨(hw _ (List.mem_of_getElem? (i := 188) rfl)), rfl, hnm⟩) (hw _ (List.mem_of_getElem? (i := 89) rfl)) (ty := .int) (by decide) rfl rfl (g := (mkF m 219 #[.val (.ref o), .val (.int (2 : Int32)), .val (.ref q1), .val (.ref q2), .val (.ref q3)] [(.int (2 : Int32)), (.ref o)])) rfl rfl (hb hby d5_219)
  have N123 := Fr.snoc X123 N120 go
  have Fw123 := pf123.same W123
  have Z123 : n0 ≤ h123.size := by rw [W123.size]; exact Z120
  refine own_go st123 ?_
  show own_Go _ _ _ _ _ _ _ (T123.setTop (mkF m 222 #[.val (.ref o), .val (.int (2 : Int32)), .val (.ref q1), .val (.ref q2), .val (.ref q3)] []))
  refine own_go (fun _ q => XS.aloadN X123.here hx rfl (hb hby d5_222) rfl rfl q) ?_
  show own_Go _ _ _ _ _ _ _ (T123.setTop (mkF m 223 #[.val (.ref o), .val (.int (2 : Int32)), .val (.ref q1), .val (.ref q2), .val (.ref q3)] [(.ref o)]))
  refine own_go (fun _ q => XS.aloadN X123.here hx rfl (hb hby d5_223) rfl rfl q) ?_
  show own_Go _ _ _ _ _ _ _ (T123.setTop (mkF m 224 #[.val (.ref o), .val (.int (2 : Int32)), .val (.ref q1), .val (.ref q2), .val (.ref q3)] [(.ref q1), (.ref o)]))
  have f127 := (f124.wr W123)
  obtain ⟨pv126, pf126⟩ := f127 "columnRows" "[[I" (.array (.array .int)) (Or.inr (hw _ (List.mem_of_getElem? (i := 190) rfl))) (by decide)
  have f128 := (f125.wr W123)
  obtain ⟨T126, h126, X126, e126, W126, st126⟩ := putF X123 hx hZ hown (host := "") (Or.inl (hw _ (List.mem_of_getElem? (i := 189) rfl))) Via.refl e123 pf126 f128 (Or.inr ⟨(hw _ (List.mem_of_getElem? (i := 190) rfl)), rfl, hnm⟩) (hw _ (List.mem_of_getElem? (i := 89) rfl)) (ty := (.array (.array .int))) (by decide) rfl rfl (g := (mkF m 224 #[.val (.ref o), .val (.int (2 : Int32)), .val (.ref q1), .val (.ref q2), .val (.ref q3)] [(.ref q1), (.ref o)])) rfl rfl (hb hby d5_224)
  have N126 := Fr.snoc X126 N123 go
  have Fw126 := pf126.same W126
  have Z126 : n0 ≤ h126.size := by rw [W126.size]; exact Z123
  refine own_go st126 ?_
  show own_Go _ _ _ _ _ _ _ (T126.setTop (mkF m 227 #[.val (.ref o), .val (.int (2 : Int32)), .val (.ref q1), .val (.ref q2), .val (.ref q3)] []))
  refine own_go (fun _ q => XS.aloadN X126.here hx rfl (hb hby d5_227) rfl rfl q) ?_
  show own_Go _ _ _ _ _ _ _ (T126.setTop (mkF m 228 #[.val (.ref o), .val (.int (2 : Int32)), .val (.ref q1), .val (.ref q2), .val (.ref q3)] [(.ref o)]))
  refine own_go (fun _ q => XS.aloadN X126.here hx rfl (hb hby d5_228) rfl rfl q) ?_
  show own_Go _ _ _ _ _ _ _ (T126.setTop (mkF m 229 #[.val (.ref o), .val (.int (2 : Int32)), .val (.ref q1), .val (.ref q2), .val (.ref q3)] [(.ref q2), (.ref o)]))
  have f130 := (f127.wr W126)
  obtain ⟨pv129, pf129⟩ := f130 "columnEntries" "[[D" (.array (.array .double)) (Or.inr (hw _ (List.mem_of_getElem? (i := 192) rfl))) (by decide)
  have f131 := (f128.wr W126)
  obtain ⟨T129, h129, X129, e129, W129, st129⟩ := putF X126 hx hZ hown (host := "") (Or.inl (hw _ (List.mem_of_getElem? (i := 191) rfl))) Via.refl e126 pf129 f131 (Or.inr ⟨(hw _ (List.mem_of_getElem? (i := 192) rfl)), rfl, hnm⟩) (hw _ (List.mem_of_getElem? (i := 89) rfl)) (ty := (.array (.array .double))) (by decide) rfl rfl (g := (mkF m 229 #[.val (.ref o), .val (.int (2 : Int32)), .val (.ref q1), .val (.ref q2), .val (.ref q3)] [(.ref q2), (.ref o)])) rfl rfl (hb hby d5_229)
  have N129 := Fr.snoc X129 N126 go
  have Fw129 := pf129.same W129
  have Z129 : n0 ≤ h129.size := by rw [W129.size]; exact Z126
  refine own_go st129 ?_
  show own_Go _ _ _ _ _ _ _ (T129.setTop (mkF m 232 #[.val (.ref o), .val (.int (2 : Int32)), .val (.ref q1), .val (.ref q2), .val (.ref q3)] []))
  refine own_go (fun _ q => XS.aloadN X129.here hx rfl (hb hby d5_232) rfl rfl q) ?_
  show own_Go _ _ _ _ _ _ _ (T129.setTop (mkF m 233 #[.val (.ref o), .val (.int (2 : Int32)), .val (.ref q1), .val (.ref q2), .val (.ref q3)] [(.ref o)]))
  refine own_go (fun _ q => XS.aload X129.here hx rfl (hb hby d5_233) rfl rfl q) ?_
  show own_Go _ _ _ _ _ _ _ (T129.setTop (mkF m 235 #[.val (.ref o), .val (.int (2 : Int32)), .val (.ref q1), .val (.ref q2), .val (.ref q3)] [(.ref q3), (.ref o)]))
  have f133 := (f130.wr W129)
  obtain ⟨pv132, pf132⟩ := f133 "columnLength" "[I" (.array .int) (Or.inr (hw _ (List.mem_of_getElem? (i := 194) rfl))) (by decide)
  have f134 := (f131.wr W129)
  obtain ⟨T132, h132, X132, e132, W132, st132⟩ := putF X129 hx hZ hown (host := "") (Or.inl (hw _ (List.mem_of_getElem? (i := 193) rfl))) Via.refl e129 pf132 f134 (Or.inr ⟨(hw _ (List.mem_of_getElem? (i := 194) rfl)), rfl, hnm⟩) (hw _ (List.mem_of_getElem? (i := 89) rfl)) (ty := (.array .int)) (by decide) rfl rfl (g := (mkF m 235 #[.val (.ref o), .val (.int (2 : Int32)), .val (.ref q1), .val (.ref q2), .val (.ref q3)] [(.ref q3), (.ref o)])) rfl rfl (hb hby d5_235)
  have N132 := Fr.snoc X132 N129 go
  have Fw132 := pf132.same W132
  have Z132 : n0 ≤ h132.size := by rw [W132.size]; exact Z129
  refine own_go st132 ?_
  show own_Go _ _ _ _ _ _ _ (T132.setTop (mkF m 238 #[.val (.ref o), .val (.int (2 : Int32)), .val (.ref q1), .val (.ref q2), .val (.ref q3)] []))
  have K : Keep h0 h132 [o] := (((((((((((((((((((((((((((((((((((((((((((((((((((((((((((((((Keep.refl h0 [o]).ext E2).wr W3 (Or.inl (List.mem_cons_self ..))).ext E6).wr W7 (Or.inl (List.mem_cons_self ..))).ext E10).wr W11 (Or.inl (List.mem_cons_self ..))).ext E14).wr W15 (Or.inl (List.mem_cons_self ..))).ext E18).wr W19 (Or.inl (List.mem_cons_self ..))).ext E22).wr W23 (Or.inl (List.mem_cons_self ..))).ext E26).wr W27 (Or.inl (List.mem_cons_self ..))).ext E30).wr W31 (Or.inl (List.mem_cons_self ..))).ext E34).wr W35 (Or.inl (List.mem_cons_self ..))).ext E38).wr W39 (Or.inl (List.mem_cons_self ..))).ext E42).wr W43 (Or.inl (List.mem_cons_self ..))).ext E46).wr W47 (Or.inl (List.mem_cons_self ..))).ext E50).wr W51 (Or.inl (List.mem_cons_self ..))).ext E54).wr W55 (Or.inl (List.mem_cons_self ..))).ext E58).wr W59 (Or.inl (List.mem_cons_self ..))).ext E62).wr W63 (Or.inl (List.mem_cons_self ..))).ext E66).wr W67 (Or.inl (List.mem_cons_self ..))).ext E70).wr W71 (Or.inl (List.mem_cons_self ..))).ext E74).wr W75 (Or.inl (List.mem_cons_self ..))).ext E78).ext E81).trans K87 (fun x hx => Or.inr (by cases List.mem_singleton.mp hx; have := hs78; have := g78; omega))).wr W88 (Or.inl (List.mem_cons_self ..))).ext E91).wr W92 (Or.inl (List.mem_cons_self ..))).ext E95).wr W96 (Or.inl (List.mem_cons_self ..))).ext E99).wr W100 (Or.inl (List.mem_cons_self ..))).ext E103).wr W104 (Or.inl (List.mem_cons_self ..))).ext E107).wr W108 (Or.inl (List.mem_cons_self ..))).ext E111).wr W112 (Or.inl (List.mem_cons_self ..))).ext E115).wr W116 (Or.inl (List.mem_cons_self ..))).ext E119).wr W120 (Or.inl (List.mem_cons_self ..))).wr W123 (Or.inl (List.mem_cons_self ..))).wr W126 (Or.inl (List.mem_cons_self ..))).wr W129 (Or.inl (List.mem_cons_self ..))).wr W132 (Or.inl (List.mem_cons_self ..)))
  subst e132
  exact own_retV X132 hx hlk hret (hb hby d5_238) (by decide) (by decide) ⟨rfl, N132, K⟩
theorem d3_0 : decode jdk_65_method_103_code 0 = .ok (.iconst 0, 1) := by decide +kernel
theorem d3_1 : decode jdk_65_method_103_code 1 = .ok (.istore_n 2, 1) := by decide +kernel
theorem d3_2 : decode jdk_65_method_103_code 2 = .ok (.aload_n 0, 1) := by decide +kernel
theorem d3_3 : decode jdk_65_method_103_code 3 = .ok (.arraylength, 1) := by decide +kernel
theorem d3_4 : decode jdk_65_method_103_code 4 = .ok (.istore_n 3, 1) := by decide +kernel
theorem d3_5 : decode jdk_65_method_103_code 5 = .ok (.iload_n 2, 1) := by decide +kernel
theorem d3_6 : decode jdk_65_method_103_code 6 = .ok (.iload_n 3, 1) := by decide +kernel
theorem d3_7 : decode jdk_65_method_103_code 7 = .ok (.if_icmp .ge 13, 3) := by decide +kernel
theorem d3_10 : decode jdk_65_method_103_code 10 = .ok (.aload_n 0, 1) := by decide +kernel
theorem d3_11 : decode jdk_65_method_103_code 11 = .ok (.iload_n 2, 1) := by decide +kernel
theorem d3_12 : decode jdk_65_method_103_code 12 = .ok (.iload_n 1, 1) := by decide +kernel
theorem d3_13 : decode jdk_65_method_103_code 13 = .ok (.iastore, 1) := by decide +kernel
theorem d3_14 : decode jdk_65_method_103_code 14 = .ok (.iinc 2 1, 3) := by decide +kernel
theorem d3_17 : decode jdk_65_method_103_code 17 = .ok (.goto (-12), 3) := by decide +kernel
theorem d3_20 : decode jdk_65_method_103_code 20 = .ok (.return_, 1) := by decide +kernel
def Q3 (Z : State) (a : Addr) (x : Int32) (F : Nat → Value) (h0 : Heap) (n0 : Nat) (v : Option Value) (h : Heap) (L : List Loc) : Prop := v = none ∧ Fr n0 L ∧ Keep h0 h [a] ∧ own_Ar Z h a .int 2 (fun j => if j = 1 then .int x else if j = 0 then .int x else F j)
theorem ef_3 (m : MethodId) (x0 : Addr) (x1 : Int32) : entryFrame m #[(.ref x0), (.int x1)] 4 = mkF m 0 #[.val (.ref x0), .val (.int x1), .unset, .unset] [] := by first | (simp [entryFrame, mkF, argsToLocals, Value.category]; done) | rfl
set_option maxRecDepth 65536 in
set_option maxHeartbeats 40000000 in
theorem rm3 (l : Launch) (Z : State) (a0 : Array Value) (hw : ∀ d ∈ tables_1, d.before a0 Z = true) (ws : List Jvm.Cond) (a : Addr) (x : Int32) (F : Nat → Value) (h0 : Heap) (n0 : Nat) (Z0 : n0 ≤ h0.size) (Aa : own_Ar Z h0 a .int 2 F) (ga : n0 ≤ a) :
    own_Met l Z (⟨"java/util/Arrays", "fill", "([II)V"⟩ : MethodName) jdk_65_method_103_code 4 none ({ frames := 0, cells := 0, slots := 0, locals := 0 } : Room) ws #[(.ref a), (.int x)] h0 (Q3 Z a x F h0 n0) := by
  refine own_enter (plainFor_of_name (by first | (simp [plainName, overriddenIn]; done) | decide +kernel)) ?_
  intro p e s m below meth c s₁ hx hby hml hown hnm hlk hret hZ X0 e0
  have N0 := Fr.nil n0
  refine own_go (fun _ q => castTop (ef_3 m a x) q) ?_
  show own_Go _ _ _ _ _ _ _ (s₁.setTop (mkF m 0 #[.val (.ref a), .val (.int x), .unset, .unset] []))
  refine own_go (fun _ q => XS.iconst X0.here hx rfl (hb hby d3_0) q) ?_
  show own_Go _ _ _ _ _ _ _ (s₁.setTop (mkF m 1 #[.val (.ref a), .val (.int x), .unset, .unset] [(.int (0 : Int32))]))
  refine own_go (fun _ q => XS.istoreN X0.here hx rfl (hb hby d3_1) rfl (l' := #[.val (.ref a), .val (.int x), .val (.int (0 : Int32)), .unset]) rfl q) ?_
  show own_Go _ _ _ _ _ _ _ (s₁.setTop (mkF m 2 #[.val (.ref a), .val (.int x), .val (.int (0 : Int32)), .unset] []))
  refine own_go (fun _ q => XS.aloadN X0.here hx rfl (hb hby d3_2) rfl rfl q) ?_
  show own_Go _ _ _ _ _ _ _ (s₁.setTop (mkF m 3 #[.val (.ref a), .val (.int x), .val (.int (0 : Int32)), .unset] [(.ref a)]))
  refine own_length (z := (2 : Int32)) X0 hx hZ e0 Aa rfl (hb hby d3_3) rfl ?_
  show own_Go _ _ _ _ _ _ _ (s₁.setTop (mkF m 4 #[.val (.ref a), .val (.int x), .val (.int (0 : Int32)), .unset] [(.int (2 : Int32))]))
  refine own_go (fun _ q => XS.istoreN X0.here hx rfl (hb hby d3_4) rfl (l' := #[.val (.ref a), .val (.int x), .val (.int (0 : Int32)), .val (.int (2 : Int32))]) rfl q) ?_
  show own_Go _ _ _ _ _ _ _ (s₁.setTop (mkF m 5 #[.val (.ref a), .val (.int x), .val (.int (0 : Int32)), .val (.int (2 : Int32))] []))
  refine own_go (fun _ q => XS.iloadN X0.here hx rfl (hb hby d3_5) rfl q) ?_
  show own_Go _ _ _ _ _ _ _ (s₁.setTop (mkF m 6 #[.val (.ref a), .val (.int x), .val (.int (0 : Int32)), .val (.int (2 : Int32))] [(.int (0 : Int32))]))
  refine own_go (fun _ q => XS.iloadN X0.here hx rfl (hb hby d3_6) rfl q) ?_
  show own_Go _ _ _ _ _ _ _ (s₁.setTop (mkF m 7 #[.val (.ref a), .val (.int x), .val (.int (0 : Int32)), .val (.int (2 : Int32))] [(.int (2 : Int32)), (.int (0 : Int32))]))
  refine own_go (fun _ q => XS.icmpNo X0.here hx rfl (hb hby d3_7) rfl (tlt (by decide : (0 : Int32) < (2 : Int32))).2.1 q) ?_
  show own_Go _ _ _ _ _ _ _ (s₁.setTop (mkF m 10 #[.val (.ref a), .val (.int x), .val (.int (0 : Int32)), .val (.int (2 : Int32))] []))
  refine own_go (fun _ q => XS.aloadN X0.here hx rfl (hb hby d3_10) rfl rfl q) ?_
  show own_Go _ _ _ _ _ _ _ (s₁.setTop (mkF m 11 #[.val (.ref a), .val (.int x), .val (.int (0 : Int32)), .val (.int (2 : Int32))] [(.ref a)]))
  refine own_go (fun _ q => XS.iloadN X0.here hx rfl (hb hby d3_11) rfl q) ?_
  show own_Go _ _ _ _ _ _ _ (s₁.setTop (mkF m 12 #[.val (.ref a), .val (.int x), .val (.int (0 : Int32)), .val (.int (2 : Int32))] [(.int (0 : Int32)), (.ref a)]))
  refine own_go (fun _ q => XS.iloadN X0.here hx rfl (hb hby d3_12) rfl q) ?_
  show own_Go _ _ _ _ _ _ _ (s₁.setTop (mkF m 13 #[.val (.ref a), .val (.int x), .val (.int (0 : Int32)), .val (.int (2 : Int32))] [(.int x), (.int (0 : Int32)), (.ref a)]))
  refine own_iastore X0 hx hZ e0 (i := 0) Aa rfl (by decide) (hb hby d3_13) rfl ?_
  intro T1 h1 X1 e1 W1 A1
  have N1 := Fr.snoc X1 N0 ga
  have Z1 : n0 ≤ h1.size := by rw [W1.size]; exact Z0
  show own_Go _ _ _ _ _ _ _ (T1.setTop (mkF m 14 #[.val (.ref a), .val (.int x), .val (.int (0 : Int32)), .val (.int (2 : Int32))] []))
  refine own_go (fun _ q => XS.iinc X1.here hx rfl (hb hby d3_14) rfl (l' := #[.val (.ref a), .val (.int x), .val (.int ((0 : Int32) + (1 : Int32))), .val (.int (2 : Int32))]) rfl q) ?_
  show own_Go _ _ _ _ _ _ _ (T1.setTop (mkF m 17 #[.val (.ref a), .val (.int x), .val (.int ((0 : Int32) + (1 : Int32))), .val (.int (2 : Int32))] []))
  show own_Go _ _ _ _ _ _ _ (T1.setTop (mkF m 17 #[.val (.ref a), .val (.int x), .val (.int (1 : Int32)), .val (.int (2 : Int32))] []))
  refine own_go (fun _ q => XS.goto X1.here hx rfl (pc0 := 17) (pc' := 5) rfl (hb hby d3_17) (by decide) (by decide) q) ?_
  show own_Go _ _ _ _ _ _ _ (T1.setTop (mkF m 5 #[.val (.ref a), .val (.int x), .val (.int (1 : Int32)), .val (.int (2 : Int32))] []))
  refine own_go (fun _ q => XS.iloadN X1.here hx rfl (hb hby d3_5) rfl q) ?_
  show own_Go _ _ _ _ _ _ _ (T1.setTop (mkF m 6 #[.val (.ref a), .val (.int x), .val (.int (1 : Int32)), .val (.int (2 : Int32))] [(.int (1 : Int32))]))
  refine own_go (fun _ q => XS.iloadN X1.here hx rfl (hb hby d3_6) rfl q) ?_
  show own_Go _ _ _ _ _ _ _ (T1.setTop (mkF m 7 #[.val (.ref a), .val (.int x), .val (.int (1 : Int32)), .val (.int (2 : Int32))] [(.int (2 : Int32)), (.int (1 : Int32))]))
  refine own_go (fun _ q => XS.icmpNo X1.here hx rfl (hb hby d3_7) rfl (tlt (by decide : (1 : Int32) < (2 : Int32))).2.1 q) ?_
  show own_Go _ _ _ _ _ _ _ (T1.setTop (mkF m 10 #[.val (.ref a), .val (.int x), .val (.int (1 : Int32)), .val (.int (2 : Int32))] []))
  refine own_go (fun _ q => XS.aloadN X1.here hx rfl (hb hby d3_10) rfl rfl q) ?_
  show own_Go _ _ _ _ _ _ _ (T1.setTop (mkF m 11 #[.val (.ref a), .val (.int x), .val (.int (1 : Int32)), .val (.int (2 : Int32))] [(.ref a)]))
  refine own_go (fun _ q => XS.iloadN X1.here hx rfl (hb hby d3_11) rfl q) ?_
  show own_Go _ _ _ _ _ _ _ (T1.setTop (mkF m 12 #[.val (.ref a), .val (.int x), .val (.int (1 : Int32)), .val (.int (2 : Int32))] [(.int (1 : Int32)), (.ref a)]))
  refine own_go (fun _ q => XS.iloadN X1.here hx rfl (hb hby d3_12) rfl q) ?_
  show own_Go _ _ _ _ _ _ _ (T1.setTop (mkF m 13 #[.val (.ref a), .val (.int x), .val (.int (1 : Int32)), .val (.int (2 : Int32))] [(.int x), (.int (1 : Int32)), (.ref a)]))
  refine own_iastore X1 hx hZ e1 (i := 1) A1 rfl (by decide) (hb hby d3_13) rfl ?_
  intro T2 h2 X2 e2 W2 A2
  have N2 := Fr.snoc X2 N1 ga
  have Z2 : n0 ≤ h2.size := by rw [W2.size]; exact Z1
  show own_Go _ _ _ _ _ _ _ (T2.setTop (mkF m 14 #[.val (.ref a), .val (.int x), .val (.int (1 : Int32)), .val (.int (2 : Int32))] []))
  refine own_go (fun _ q => XS.iinc X2.here hx rfl (hb hby d3_14) rfl (l' := #[.val (.ref a), .val (.int x), .val (.int ((1 : Int32) + (1 : Int32))), .val (.int (2 : Int32))]) rfl q) ?_
  show own_Go _ _ _ _ _ _ _ (T2.setTop (mkF m 17 #[.val (.ref a), .val (.int x), .val (.int ((1 : Int32) + (1 : Int32))), .val (.int (2 : Int32))] []))
  show own_Go _ _ _ _ _ _ _ (T2.setTop (mkF m 17 #[.val (.ref a), .val (.int x), .val (.int (2 : Int32)), .val (.int (2 : Int32))] []))
  refine own_go (fun _ q => XS.goto X2.here hx rfl (pc0 := 17) (pc' := 5) rfl (hb hby d3_17) (by decide) (by decide) q) ?_
  show own_Go _ _ _ _ _ _ _ (T2.setTop (mkF m 5 #[.val (.ref a), .val (.int x), .val (.int (2 : Int32)), .val (.int (2 : Int32))] []))
  refine own_go (fun _ q => XS.iloadN X2.here hx rfl (hb hby d3_5) rfl q) ?_
  show own_Go _ _ _ _ _ _ _ (T2.setTop (mkF m 6 #[.val (.ref a), .val (.int x), .val (.int (2 : Int32)), .val (.int (2 : Int32))] [(.int (2 : Int32))]))
  refine own_go (fun _ q => XS.iloadN X2.here hx rfl (hb hby d3_6) rfl q) ?_
  show own_Go _ _ _ _ _ _ _ (T2.setTop (mkF m 7 #[.val (.ref a), .val (.int x), .val (.int (2 : Int32)), .val (.int (2 : Int32))] [(.int (2 : Int32)), (.int (2 : Int32))]))
  refine own_go (fun _ q => XS.icmpYes X2.here hx rfl (pc0 := 7) (pc' := 20) rfl (hb hby d3_7) rfl (flt (by decide : ¬ ((2 : Int32) < (2 : Int32)))).2.1 (by decide) (by decide) q) ?_
  show own_Go _ _ _ _ _ _ _ (T2.setTop (mkF m 20 #[.val (.ref a), .val (.int x), .val (.int (2 : Int32)), .val (.int (2 : Int32))] []))
  have K : Keep h0 h2 [a] := (((Keep.refl h0 [a]).wr W1 (Or.inl (List.mem_cons_self ..))).wr W2 (Or.inl (List.mem_cons_self ..)))
  subst e2
  exact own_retV X2 hx hlk hret (hb hby d3_20) (by decide) (by decide) ⟨rfl, N2, K, A2⟩
theorem d4_0 : decode jdk_65_method_113_code 0 = .ok (.iconst 0, 1) := by decide +kernel
theorem d4_1 : decode jdk_65_method_113_code 1 = .ok (.istore_n 3, 1) := by decide +kernel
theorem d4_2 : decode jdk_65_method_113_code 2 = .ok (.aload_n 0, 1) := by decide +kernel
theorem d4_3 : decode jdk_65_method_113_code 3 = .ok (.arraylength, 1) := by decide +kernel
theorem d4_4 : decode jdk_65_method_113_code 4 = .ok (.istore 4, 2) := by decide +kernel
theorem d4_6 : decode jdk_65_method_113_code 6 = .ok (.iload_n 3, 1) := by decide +kernel
theorem d4_7 : decode jdk_65_method_113_code 7 = .ok (.iload 4, 2) := by decide +kernel
theorem d4_9 : decode jdk_65_method_113_code 9 = .ok (.if_icmp .ge 13, 3) := by decide +kernel
theorem d4_12 : decode jdk_65_method_113_code 12 = .ok (.aload_n 0, 1) := by decide +kernel
theorem d4_13 : decode jdk_65_method_113_code 13 = .ok (.iload_n 3, 1) := by decide +kernel
theorem d4_14 : decode jdk_65_method_113_code 14 = .ok (.dload_n 1, 1) := by decide +kernel
theorem d4_15 : decode jdk_65_method_113_code 15 = .ok (.dastore, 1) := by decide +kernel
theorem d4_16 : decode jdk_65_method_113_code 16 = .ok (.iinc 3 1, 3) := by decide +kernel
theorem d4_19 : decode jdk_65_method_113_code 19 = .ok (.goto (-13), 3) := by decide +kernel
theorem d4_22 : decode jdk_65_method_113_code 22 = .ok (.return_, 1) := by decide +kernel
def Q4 (Z : State) (a : Addr) (x : UInt64) (F : Nat → Value) (h0 : Heap) (n0 : Nat) (v : Option Value) (h : Heap) (L : List Loc) : Prop := v = none ∧ Fr n0 L ∧ Keep h0 h [a] ∧ own_Ar Z h a .double 2 (fun j => if j = 1 then .double x else if j = 0 then .double x else F j)
theorem ef_4 (m : MethodId) (x0 : Addr) (x1 : UInt64) : entryFrame m #[(.ref x0), (.double x1)] 5 = mkF m 0 #[.val (.ref x0), .val (.double x1), .second, .unset, .unset] [] := by first | (simp [entryFrame, mkF, argsToLocals, Value.category]; done) | rfl
set_option maxRecDepth 65536 in
set_option maxHeartbeats 40000000 in
theorem rm4 (l : Launch) (Z : State) (a0 : Array Value) (hw : ∀ d ∈ tables_1, d.before a0 Z = true) (ws : List Jvm.Cond) (a : Addr) (x : UInt64) (F : Nat → Value) (h0 : Heap) (n0 : Nat) (Z0 : n0 ≤ h0.size) (Aa : own_Ar Z h0 a .double 2 F) (ga : n0 ≤ a) :
    own_Met l Z (⟨"java/util/Arrays", "fill", "([DD)V"⟩ : MethodName) jdk_65_method_113_code 5 none ({ frames := 0, cells := 0, slots := 0, locals := 0 } : Room) ws #[(.ref a), (.double x)] h0 (Q4 Z a x F h0 n0) := by
  refine own_enter (plainFor_of_name (by first | (simp [plainName, overriddenIn]; done) | decide +kernel)) ?_
  intro p e s m below meth c s₁ hx hby hml hown hnm hlk hret hZ X0 e0
  have N0 := Fr.nil n0
  refine own_go (fun _ q => castTop (ef_4 m a x) q) ?_
  show own_Go _ _ _ _ _ _ _ (s₁.setTop (mkF m 0 #[.val (.ref a), .val (.double x), .second, .unset, .unset] []))
  refine own_go (fun _ q => XS.iconst X0.here hx rfl (hb hby d4_0) q) ?_
  show own_Go _ _ _ _ _ _ _ (s₁.setTop (mkF m 1 #[.val (.ref a), .val (.double x), .second, .unset, .unset] [(.int (0 : Int32))]))
  refine own_go (fun _ q => XS.istoreN X0.here hx rfl (hb hby d4_1) rfl (l' := #[.val (.ref a), .val (.double x), .second, .val (.int (0 : Int32)), .unset]) rfl q) ?_
  show own_Go _ _ _ _ _ _ _ (s₁.setTop (mkF m 2 #[.val (.ref a), .val (.double x), .second, .val (.int (0 : Int32)), .unset] []))
  refine own_go (fun _ q => XS.aloadN X0.here hx rfl (hb hby d4_2) rfl rfl q) ?_
  show own_Go _ _ _ _ _ _ _ (s₁.setTop (mkF m 3 #[.val (.ref a), .val (.double x), .second, .val (.int (0 : Int32)), .unset] [(.ref a)]))
  refine own_length (z := (2 : Int32)) X0 hx hZ e0 Aa rfl (hb hby d4_3) rfl ?_
  show own_Go _ _ _ _ _ _ _ (s₁.setTop (mkF m 4 #[.val (.ref a), .val (.double x), .second, .val (.int (0 : Int32)), .unset] [(.int (2 : Int32))]))
  refine own_go (fun _ q => XS.istore X0.here hx rfl (hb hby d4_4) rfl (l' := #[.val (.ref a), .val (.double x), .second, .val (.int (0 : Int32)), .val (.int (2 : Int32))]) rfl q) ?_
  show own_Go _ _ _ _ _ _ _ (s₁.setTop (mkF m 6 #[.val (.ref a), .val (.double x), .second, .val (.int (0 : Int32)), .val (.int (2 : Int32))] []))
  refine own_go (fun _ q => XS.iloadN X0.here hx rfl (hb hby d4_6) rfl q) ?_
  show own_Go _ _ _ _ _ _ _ (s₁.setTop (mkF m 7 #[.val (.ref a), .val (.double x), .second, .val (.int (0 : Int32)), .val (.int (2 : Int32))] [(.int (0 : Int32))]))
  refine own_go (fun _ q => XS.iload X0.here hx rfl (hb hby d4_7) rfl q) ?_
  show own_Go _ _ _ _ _ _ _ (s₁.setTop (mkF m 9 #[.val (.ref a), .val (.double x), .second, .val (.int (0 : Int32)), .val (.int (2 : Int32))] [(.int (2 : Int32)), (.int (0 : Int32))]))
  refine own_go (fun _ q => XS.icmpNo X0.here hx rfl (hb hby d4_9) rfl (tlt (by decide : (0 : Int32) < (2 : Int32))).2.1 q) ?_
  show own_Go _ _ _ _ _ _ _ (s₁.setTop (mkF m 12 #[.val (.ref a), .val (.double x), .second, .val (.int (0 : Int32)), .val (.int (2 : Int32))] []))
  refine own_go (fun _ q => XS.aloadN X0.here hx rfl (hb hby d4_12) rfl rfl q) ?_
  show own_Go _ _ _ _ _ _ _ (s₁.setTop (mkF m 13 #[.val (.ref a), .val (.double x), .second, .val (.int (0 : Int32)), .val (.int (2 : Int32))] [(.ref a)]))
  refine own_go (fun _ q => XS.iloadN X0.here hx rfl (hb hby d4_13) rfl q) ?_
  show own_Go _ _ _ _ _ _ _ (s₁.setTop (mkF m 14 #[.val (.ref a), .val (.double x), .second, .val (.int (0 : Int32)), .val (.int (2 : Int32))] [(.int (0 : Int32)), (.ref a)]))
  refine own_go (fun _ q => XT.dloadN X0.here hx rfl (hb hby d4_14) rfl q) ?_
  show own_Go _ _ _ _ _ _ _ (s₁.setTop (mkF m 15 #[.val (.ref a), .val (.double x), .second, .val (.int (0 : Int32)), .val (.int (2 : Int32))] [(.double x), (.int (0 : Int32)), (.ref a)]))
  refine own_dastore X0 hx hZ e0 (i := 0) Aa rfl (by decide) (hb hby d4_15) rfl ?_
  intro T1 h1 X1 e1 W1 A1
  have N1 := Fr.snoc X1 N0 ga
  have Z1 : n0 ≤ h1.size := by rw [W1.size]; exact Z0
  show own_Go _ _ _ _ _ _ _ (T1.setTop (mkF m 16 #[.val (.ref a), .val (.double x), .second, .val (.int (0 : Int32)), .val (.int (2 : Int32))] []))
  refine own_go (fun _ q => XS.iinc X1.here hx rfl (hb hby d4_16) rfl (l' := #[.val (.ref a), .val (.double x), .second, .val (.int ((0 : Int32) + (1 : Int32))), .val (.int (2 : Int32))]) rfl q) ?_
  show own_Go _ _ _ _ _ _ _ (T1.setTop (mkF m 19 #[.val (.ref a), .val (.double x), .second, .val (.int ((0 : Int32) + (1 : Int32))), .val (.int (2 : Int32))] []))
  show own_Go _ _ _ _ _ _ _ (T1.setTop (mkF m 19 #[.val (.ref a), .val (.double x), .second, .val (.int (1 : Int32)), .val (.int (2 : Int32))] []))
  refine own_go (fun _ q => XS.goto X1.here hx rfl (pc0 := 19) (pc' := 6) rfl (hb hby d4_19) (by decide) (by decide) q) ?_
  show own_Go _ _ _ _ _ _ _ (T1.setTop (mkF m 6 #[.val (.ref a), .val (.double x), .second, .val (.int (1 : Int32)), .val (.int (2 : Int32))] []))
  refine own_go (fun _ q => XS.iloadN X1.here hx rfl (hb hby d4_6) rfl q) ?_
  show own_Go _ _ _ _ _ _ _ (T1.setTop (mkF m 7 #[.val (.ref a), .val (.double x), .second, .val (.int (1 : Int32)), .val (.int (2 : Int32))] [(.int (1 : Int32))]))
  refine own_go (fun _ q => XS.iload X1.here hx rfl (hb hby d4_7) rfl q) ?_
  show own_Go _ _ _ _ _ _ _ (T1.setTop (mkF m 9 #[.val (.ref a), .val (.double x), .second, .val (.int (1 : Int32)), .val (.int (2 : Int32))] [(.int (2 : Int32)), (.int (1 : Int32))]))
  refine own_go (fun _ q => XS.icmpNo X1.here hx rfl (hb hby d4_9) rfl (tlt (by decide : (1 : Int32) < (2 : Int32))).2.1 q) ?_
  show own_Go _ _ _ _ _ _ _ (T1.setTop (mkF m 12 #[.val (.ref a), .val (.double x), .second, .val (.int (1 : Int32)), .val (.int (2 : Int32))] []))
  refine own_go (fun _ q => XS.aloadN X1.here hx rfl (hb hby d4_12) rfl rfl q) ?_
  show own_Go _ _ _ _ _ _ _ (T1.setTop (mkF m 13 #[.val (.ref a), .val (.double x), .second, .val (.int (1 : Int32)), .val (.int (2 : Int32))] [(.ref a)]))
  refine own_go (fun _ q => XS.iloadN X1.here hx rfl (hb hby d4_13) rfl q) ?_
  show own_Go _ _ _ _ _ _ _ (T1.setTop (mkF m 14 #[.val (.ref a), .val (.double x), .second, .val (.int (1 : Int32)), .val (.int (2 : Int32))] [(.int (1 : Int32)), (.ref a)]))
  refine own_go (fun _ q => XT.dloadN X1.here hx rfl (hb hby d4_14) rfl q) ?_
  show own_Go _ _ _ _ _ _ _ (T1.setTop (mkF m 15 #[.val (.ref a), .val (.double x), .second, .val (.int (1 : Int32)), .val (.int (2 : Int32))] [(.double x), (.int (1 : Int32)), (.ref a)]))
  refine own_dastore X1 hx hZ e1 (i := 1) A1 rfl (by decide) (hb hby d4_15) rfl ?_
  intro T2 h2 X2 e2 W2 A2
  have N2 := Fr.snoc X2 N1 ga
  have Z2 : n0 ≤ h2.size := by rw [W2.size]; exact Z1
  show own_Go _ _ _ _ _ _ _ (T2.setTop (mkF m 16 #[.val (.ref a), .val (.double x), .second, .val (.int (1 : Int32)), .val (.int (2 : Int32))] []))
  refine own_go (fun _ q => XS.iinc X2.here hx rfl (hb hby d4_16) rfl (l' := #[.val (.ref a), .val (.double x), .second, .val (.int ((1 : Int32) + (1 : Int32))), .val (.int (2 : Int32))]) rfl q) ?_
  show own_Go _ _ _ _ _ _ _ (T2.setTop (mkF m 19 #[.val (.ref a), .val (.double x), .second, .val (.int ((1 : Int32) + (1 : Int32))), .val (.int (2 : Int32))] []))
  show own_Go _ _ _ _ _ _ _ (T2.setTop (mkF m 19 #[.val (.ref a), .val (.double x), .second, .val (.int (2 : Int32)), .val (.int (2 : Int32))] []))
  refine own_go (fun _ q => XS.goto X2.here hx rfl (pc0 := 19) (pc' := 6) rfl (hb hby d4_19) (by decide) (by decide) q) ?_
  show own_Go _ _ _ _ _ _ _ (T2.setTop (mkF m 6 #[.val (.ref a), .val (.double x), .second, .val (.int (2 : Int32)), .val (.int (2 : Int32))] []))
  refine own_go (fun _ q => XS.iloadN X2.here hx rfl (hb hby d4_6) rfl q) ?_
  show own_Go _ _ _ _ _ _ _ (T2.setTop (mkF m 7 #[.val (.ref a), .val (.double x), .second, .val (.int (2 : Int32)), .val (.int (2 : Int32))] [(.int (2 : Int32))]))
  refine own_go (fun _ q => XS.iload X2.here hx rfl (hb hby d4_7) rfl q) ?_
  show own_Go _ _ _ _ _ _ _ (T2.setTop (mkF m 9 #[.val (.ref a), .val (.double x), .second, .val (.int (2 : Int32)), .val (.int (2 : Int32))] [(.int (2 : Int32)), (.int (2 : Int32))]))
  refine own_go (fun _ q => XS.icmpYes X2.here hx rfl (pc0 := 9) (pc' := 22) rfl (hb hby d4_9) rfl (flt (by decide : ¬ ((2 : Int32) < (2 : Int32)))).2.1 (by decide) (by decide) q) ?_
  show own_Go _ _ _ _ _ _ _ (T2.setTop (mkF m 22 #[.val (.ref a), .val (.double x), .second, .val (.int (2 : Int32)), .val (.int (2 : Int32))] []))
  have K : Keep h0 h2 [a] := (((Keep.refl h0 [a]).wr W1 (Or.inl (List.mem_cons_self ..))).wr W2 (Or.inl (List.mem_cons_self ..)))
  subst e2
  exact own_retV X2 hx hlk hret (hb hby d4_22) (by decide) (by decide) ⟨rfl, N2, K, A2⟩
theorem d7_0 : decode prog_5_method_7_code 0 = .ok (.aload_n 1, 1) := by decide +kernel
theorem d7_1 : decode prog_5_method_7_code 1 = .ok (.arraylength, 1) := by decide +kernel
theorem d7_2 : decode prog_5_method_7_code 2 = .ok (.aload_n 0, 1) := by decide +kernel
theorem d7_3 : decode prog_5_method_7_code 3 = .ok (.getfield 71, 3) := by decide +kernel
theorem d7_6 : decode prog_5_method_7_code 6 = .ok (.if_icmp .ne 12, 3) := by decide +kernel
theorem d7_9 : decode prog_5_method_7_code 9 = .ok (.aload_n 2, 1) := by decide +kernel
theorem d7_10 : decode prog_5_method_7_code 10 = .ok (.arraylength, 1) := by decide +kernel
theorem d7_11 : decode prog_5_method_7_code 11 = .ok (.aload_n 0, 1) := by decide +kernel
theorem d7_12 : decode prog_5_method_7_code 12 = .ok (.getfield 71, 3) := by decide +kernel
theorem d7_15 : decode prog_5_method_7_code 15 = .ok (.if_icmp .eq 13, 3) := by decide +kernel
theorem d7_28 : decode prog_5_method_7_code 28 = .ok (.iconst 0, 1) := by decide +kernel
theorem d7_29 : decode prog_5_method_7_code 29 = .ok (.istore_n 3, 1) := by decide +kernel
theorem d7_30 : decode prog_5_method_7_code 30 = .ok (.iload_n 3, 1) := by decide +kernel
theorem d7_31 : decode prog_5_method_7_code 31 = .ok (.aload_n 0, 1) := by decide +kernel
theorem d7_32 : decode prog_5_method_7_code 32 = .ok (.getfield 71, 3) := by decide +kernel
theorem d7_35 : decode prog_5_method_7_code 35 = .ok (.if_icmp .ge 108, 3) := by decide +kernel
theorem d7_38 : decode prog_5_method_7_code 38 = .ok (.aload_n 1, 1) := by decide +kernel
theorem d7_39 : decode prog_5_method_7_code 39 = .ok (.iload_n 3, 1) := by decide +kernel
theorem d7_40 : decode prog_5_method_7_code 40 = .ok (.daload, 1) := by decide +kernel
theorem d7_41 : decode prog_5_method_7_code 41 = .ok (.invokestatic 193, 3) := by decide +kernel
theorem d7_44 : decode prog_5_method_7_code 44 = .ok (.ifCond .eq 22, 3) := by decide +kernel
theorem d7_47 : decode prog_5_method_7_code 47 = .ok (.aload_n 2, 1) := by decide +kernel
theorem d7_48 : decode prog_5_method_7_code 48 = .ok (.iload_n 3, 1) := by decide +kernel
theorem d7_49 : decode prog_5_method_7_code 49 = .ok (.daload, 1) := by decide +kernel
theorem d7_50 : decode prog_5_method_7_code 50 = .ok (.invokestatic 193, 3) := by decide +kernel
theorem d7_53 : decode prog_5_method_7_code 53 = .ok (.ifCond .eq 13, 3) := by decide +kernel
theorem d7_56 : decode prog_5_method_7_code 56 = .ok (.aload_n 1, 1) := by decide +kernel
theorem d7_57 : decode prog_5_method_7_code 57 = .ok (.iload_n 3, 1) := by decide +kernel
theorem d7_58 : decode prog_5_method_7_code 58 = .ok (.daload, 1) := by decide +kernel
theorem d7_59 : decode prog_5_method_7_code 59 = .ok (.aload_n 2, 1) := by decide +kernel
theorem d7_60 : decode prog_5_method_7_code 60 = .ok (.iload_n 3, 1) := by decide +kernel
theorem d7_61 : decode prog_5_method_7_code 61 = .ok (.daload, 1) := by decide +kernel
theorem d7_62 : decode prog_5_method_7_code 62 = .ok (.dcmp .l, 1) := by decide +kernel
theorem d7_63 : decode prog_5_method_7_code 63 = .ok (.ifCond .le 23, 3) := by decide +kernel
theorem d7_86 : decode prog_5_method_7_code 86 = .ok (.aload_n 0, 1) := by decide +kernel
theorem d7_87 : decode prog_5_method_7_code 87 = .ok (.getfield 78, 3) := by decide +kernel
theorem d7_90 : decode prog_5_method_7_code 90 = .ok (.iload_n 3, 1) := by decide +kernel
theorem d7_91 : decode prog_5_method_7_code 91 = .ok (.aload_n 1, 1) := by decide +kernel
theorem d7_92 : decode prog_5_method_7_code 92 = .ok (.iload_n 3, 1) := by decide +kernel
theorem d7_93 : decode prog_5_method_7_code 93 = .ok (.daload, 1) := by decide +kernel
theorem d7_94 : decode prog_5_method_7_code 94 = .ok (.dastore, 1) := by decide +kernel
theorem d7_95 : decode prog_5_method_7_code 95 = .ok (.aload_n 0, 1) := by decide +kernel
theorem d7_96 : decode prog_5_method_7_code 96 = .ok (.getfield 81, 3) := by decide +kernel
theorem d7_99 : decode prog_5_method_7_code 99 = .ok (.iload_n 3, 1) := by decide +kernel
theorem d7_100 : decode prog_5_method_7_code 100 = .ok (.aload_n 2, 1) := by decide +kernel
theorem d7_101 : decode prog_5_method_7_code 101 = .ok (.iload_n 3, 1) := by decide +kernel
theorem d7_102 : decode prog_5_method_7_code 102 = .ok (.daload, 1) := by decide +kernel
theorem d7_103 : decode prog_5_method_7_code 103 = .ok (.dastore, 1) := by decide +kernel
theorem d7_104 : decode prog_5_method_7_code 104 = .ok (.aload_n 0, 1) := by decide +kernel
theorem d7_105 : decode prog_5_method_7_code 105 = .ok (.getfield 109, 3) := by decide +kernel
theorem d7_108 : decode prog_5_method_7_code 108 = .ok (.iload_n 3, 1) := by decide +kernel
theorem d7_109 : decode prog_5_method_7_code 109 = .ok (.iaload, 1) := by decide +kernel
theorem d7_110 : decode prog_5_method_7_code 110 = .ok (.ifCond .ge 27, 3) := by decide +kernel
theorem d7_113 : decode prog_5_method_7_code 113 = .ok (.aload_n 0, 1) := by decide +kernel
theorem d7_114 : decode prog_5_method_7_code 114 = .ok (.getfield 84, 3) := by decide +kernel
theorem d7_117 : decode prog_5_method_7_code 117 = .ok (.iload_n 3, 1) := by decide +kernel
theorem d7_118 : decode prog_5_method_7_code 118 = .ok (.aload_n 0, 1) := by decide +kernel
theorem d7_119 : decode prog_5_method_7_code 119 = .ok (.getfield 87, 3) := by decide +kernel
theorem d7_122 : decode prog_5_method_7_code 122 = .ok (.iload_n 3, 1) := by decide +kernel
theorem d7_123 : decode prog_5_method_7_code 123 = .ok (.baload, 1) := by decide +kernel
theorem d7_124 : decode prog_5_method_7_code 124 = .ok (.ifCond .eq 9, 3) := by decide +kernel
theorem d7_127 : decode prog_5_method_7_code 127 = .ok (.aload_n 2, 1) := by decide +kernel
theorem d7_128 : decode prog_5_method_7_code 128 = .ok (.iload_n 3, 1) := by decide +kernel
theorem d7_129 : decode prog_5_method_7_code 129 = .ok (.daload, 1) := by decide +kernel
theorem d7_130 : decode prog_5_method_7_code 130 = .ok (.goto 6, 3) := by decide +kernel
theorem d7_133 : decode prog_5_method_7_code 133 = .ok (.aload_n 1, 1) := by decide +kernel
theorem d7_134 : decode prog_5_method_7_code 134 = .ok (.iload_n 3, 1) := by decide +kernel
theorem d7_135 : decode prog_5_method_7_code 135 = .ok (.daload, 1) := by decide +kernel
theorem d7_136 : decode prog_5_method_7_code 136 = .ok (.dastore, 1) := by decide +kernel
theorem d7_137 : decode prog_5_method_7_code 137 = .ok (.iinc 3 1, 3) := by decide +kernel
theorem d7_140 : decode prog_5_method_7_code 140 = .ok (.goto (-110), 3) := by decide +kernel
theorem d7_143 : decode prog_5_method_7_code 143 = .ok (.aload_n 0, 1) := by decide +kernel
theorem d7_144 : decode prog_5_method_7_code 144 = .ok (.getfield 144, 3) := by decide +kernel
theorem d7_147 : decode prog_5_method_7_code 147 = .ok (.ifCond .le 7, 3) := by decide +kernel
theorem d7_154 : decode prog_5_method_7_code 154 = .ok (.return_, 1) := by decide +kernel
def Q7 (Z : State) (o : Addr) (p1 : Addr) (p2 : Addr) (la : Addr) (ua : Addr) (va : Addr) (za : Addr) (pa : Addr) (x0 : UInt64) (x1 : UInt64) (y0 : UInt64) (y1 : UInt64) (z0 : Int32) (z1 : Int32) (o0 : Ordering) (o1 : Ordering) (F1 : Nat → Value) (F2 : Nat → Value) (Fl : Nat → Value) (Fu : Nat → Value) (Fv : Nat → Value) (Fz : Nat → Value) (Fp : Nat → Value) (h0 : Heap) (n0 : Nat) (v : Option Value) (h : Heap) (L : List Loc) : Prop := v = none ∧ Fr n0 L ∧ Keep h0 h [la, ua, va] ∧ own_Ar Z h va .double 2 (fun j => if j = 1 then .double (own_sel z1 x1 y1) else if j = 0 then .double (own_sel z0 x0 y0) else Fv j)
theorem ef_7 (m : MethodId) (x0 : Addr) (x1 : Addr) (x2 : Addr) : entryFrame m #[(.ref x0), (.ref x1), (.ref x2)] 4 = mkF m 0 #[.val (.ref x0), .val (.ref x1), .val (.ref x2), .unset] [] := by first | (simp [entryFrame, mkF, argsToLocals, Value.category]; done) | rfl
set_option maxRecDepth 65536 in
set_option maxHeartbeats 40000000 in
theorem rm7 (l : Launch) (Z : State) (a0 : Array Value) (hw : ∀ d ∈ tables_1, d.before a0 Z = true) (ws : List Jvm.Cond) (o : Addr) (p1 : Addr) (p2 : Addr) (la : Addr) (ua : Addr) (va : Addr) (za : Addr) (pa : Addr) (x0 : UInt64) (x1 : UInt64) (y0 : UInt64) (y1 : UInt64) (z0 : Int32) (z1 : Int32) (o0 : Ordering) (o1 : Ordering) (F1 : Nat → Value) (F2 : Nat → Value) (Fl : Nat → Value) (Fu : Nat → Value) (Fv : Nat → Value) (Fz : Nat → Value) (Fp : Nat → Value) (h0 : Heap) (n0 : Nat) (Z0 : n0 ≤ h0.size) (F_columns : Fld Z h0 o "com/example/slotwright/slotwright/BoundedSimplex" "columns" "I" (.int 2)) (F_lower : Fld Z h0 o "com/example/slotwright/slotwright/BoundedSimplex" "lower" "[D" (.ref la)) (F_upper : Fld Z h0 o "com/example/slotwright/slotwright/BoundedSimplex" "upper" "[D" (.ref ua)) (F_value : Fld Z h0 o "com/example/slotwright/slotwright/BoundedSimplex" "value" "[D" (.ref va)) (F_atUpper : Fld Z h0 o "com/example/slotwright/slotwright/BoundedSimplex" "atUpper" "[Z" (.ref za)) (F_position : Fld Z h0 o "com/example/slotwright/slotwright/BoundedSimplex" "position" "[I" (.ref pa)) (F_rows : Fld Z h0 o "com/example/slotwright/slotwright/BoundedSimplex" "rows" "I" (.int 0)) (A_p1 : own_Ar Z h0 p1 .double 2 F1) (A_p2 : own_Ar Z h0 p2 .double 2 F2) (A_la : own_Ar Z h0 la .double 2 Fl) (A_ua : own_Ar Z h0 ua .double 2 Fu) (A_va : own_Ar Z h0 va .double 2 Fv) (A_za : own_Ar Z h0 za .boolean 2 Fz) (A_pa : own_Ar Z h0 pa .int 2 Fp) (ne_la_o : la ≠ o) (ne_la_p1 : la ≠ p1) (ne_la_p2 : la ≠ p2) (ne_la_ua : la ≠ ua) (ne_la_va : la ≠ va) (ne_la_za : la ≠ za) (ne_la_pa : la ≠ pa) (ne_ua_o : ua ≠ o) (ne_ua_p1 : ua ≠ p1) (ne_ua_p2 : ua ≠ p2) (ne_ua_va : ua ≠ va) (ne_ua_za : ua ≠ za) (ne_ua_pa : ua ≠ pa) (ne_va_o : va ≠ o) (ne_va_p1 : va ≠ p1) (ne_va_p2 : va ≠ p2) (ne_va_za : va ≠ za) (ne_va_pa : va ≠ pa) (g_la : n0 ≤ la) (g_ua : n0 ≤ ua) (g_va : n0 ≤ va) (h1_0 : F1 0 = .double x0) (h2_0 : F2 0 = .double y0) (hp_0 : Fp 0 = .int (-1)) (hz_0 : Fz 0 = .int z0) (fx0 : Jvm.FP.Core.DFin x0) (fy0 : Jvm.FP.Core.DFin y0) (hc0 : FP.dcmp x0 y0 = some o0) (hg0 : o0 ≠ .gt) (h1_1 : F1 1 = .double x1) (h2_1 : F2 1 = .double y1) (hp_1 : Fp 1 = .int (-1)) (hz_1 : Fz 1 = .int z1) (fx1 : Jvm.FP.Core.DFin x1) (fy1 : Jvm.FP.Core.DFin y1) (hc1 : FP.dcmp x1 y1 = some o1) (hg1 : o1 ≠ .gt) :
    own_Met l Z (⟨"com/example/slotwright/slotwright/BoundedSimplex", "setBounds", "([D[D)V"⟩ : MethodName) prog_5_method_7_code 4 none ({ frames := 2, cells := 0, slots := 0, locals := 26 } : Room) ws #[(.ref o), (.ref p1), (.ref p2)] h0 (Q7 Z o p1 p2 la ua va za pa x0 x1 y0 y1 z0 z1 o0 o1 F1 F2 Fl Fu Fv Fz Fp h0 n0) := by
  refine own_enter (plainFor_of_name (by first | (simp [plainName, overriddenIn]; done) | decide +kernel)) ?_
  intro p e s m below meth c s₁ hx hby hml hown hnm hlk hret hZ X0 e0
  have N0 := Fr.nil n0
  refine own_go (fun _ q => castTop (ef_7 m o p1 p2) q) ?_
  show own_Go _ _ _ _ _ _ _ (s₁.setTop (mkF m 0 #[.val (.ref o), .val (.ref p1), .val (.ref p2), .unset] []))
  refine own_go (fun _ q => XS.aloadN X0.here hx rfl (hb hby d7_0) rfl rfl q) ?_
  show own_Go _ _ _ _ _ _ _ (s₁.setTop (mkF m 1 #[.val (.ref o), .val (.ref p1), .val (.ref p2), .unset] [(.ref p1)]))
  refine own_length (z := (2 : Int32)) X0 hx hZ e0 A_p1 rfl (hb hby d7_1) rfl ?_
  show own_Go _ _ _ _ _ _ _ (s₁.setTop (mkF m 2 #[.val (.ref o), .val (.ref p1), .val (.ref p2), .unset] [(.int (2 : Int32))]))
  refine own_go (fun _ q => XS.aloadN X0.here hx rfl (hb hby d7_2) rfl rfl q) ?_
  show own_Go _ _ _ _ _ _ _ (s₁.setTop (mkF m 3 #[.val (.ref o), .val (.ref p1), .val (.ref p2), .unset] [(.ref o), (.int (2 : Int32))]))
  obtain ⟨T1, X1, e1, st1⟩ := getF X0 hx hZ hown (host := "") (Or.inl (hw _ (List.mem_of_getElem? (i := 48) rfl))) Via.refl e0 F_columns (g := (mkF m 3 #[.val (.ref o), .val (.ref p1), .val (.ref p2), .unset] [(.ref o), (.int (2 : Int32))])) rfl rfl (hb hby d7_3)
  refine own_go st1 ?_
  show own_Go _ _ _ _ _ _ _ (T1.setTop (mkF m 6 #[.val (.ref o), .val (.ref p1), .val (.ref p2), .unset] [(.int (2 : Int32)), (.int (2 : Int32))]))
  refine own_go (fun _ q => XS.icmpNo X1.here hx rfl (hb hby d7_6) rfl (teq (by decide : (2 : Int32) = (2 : Int32))).2 q) ?_
  show own_Go _ _ _ _ _ _ _ (T1.setTop (mkF m 9 #[.val (.ref o), .val (.ref p1), .val (.ref p2), .unset] []))
  refine own_go (fun _ q => XS.aloadN X1.here hx rfl (hb hby d7_9) rfl rfl q) ?_
  show own_Go _ _ _ _ _ _ _ (T1.setTop (mkF m 10 #[.val (.ref o), .val (.ref p1), .val (.ref p2), .unset] [(.ref p2)]))
  refine own_length (z := (2 : Int32)) X1 hx hZ e1 A_p2 rfl (hb hby d7_10) rfl ?_
  show own_Go _ _ _ _ _ _ _ (T1.setTop (mkF m 11 #[.val (.ref o), .val (.ref p1), .val (.ref p2), .unset] [(.int (2 : Int32))]))
  refine own_go (fun _ q => XS.aloadN X1.here hx rfl (hb hby d7_11) rfl rfl q) ?_
  show own_Go _ _ _ _ _ _ _ (T1.setTop (mkF m 12 #[.val (.ref o), .val (.ref p1), .val (.ref p2), .unset] [(.ref o), (.int (2 : Int32))]))
  obtain ⟨T2, X2, e2, st2⟩ := getF X1 hx hZ hown (host := "") (Or.inl (hw _ (List.mem_of_getElem? (i := 48) rfl))) Via.refl e1 F_columns (g := (mkF m 12 #[.val (.ref o), .val (.ref p1), .val (.ref p2), .unset] [(.ref o), (.int (2 : Int32))])) rfl rfl (hb hby d7_12)
  refine own_go st2 ?_
  show own_Go _ _ _ _ _ _ _ (T2.setTop (mkF m 15 #[.val (.ref o), .val (.ref p1), .val (.ref p2), .unset] [(.int (2 : Int32)), (.int (2 : Int32))]))
  refine own_go (fun _ q => XS.icmpYes X2.here hx rfl (pc0 := 15) (pc' := 28) rfl (hb hby d7_15) rfl (teq (by decide : (2 : Int32) = (2 : Int32))).1 (by decide) (by decide) q) ?_
  show own_Go _ _ _ _ _ _ _ (T2.setTop (mkF m 28 #[.val (.ref o), .val (.ref p1), .val (.ref p2), .unset] []))
  refine own_go (fun _ q => XS.iconst X2.here hx rfl (hb hby d7_28) q) ?_
  show own_Go _ _ _ _ _ _ _ (T2.setTop (mkF m 29 #[.val (.ref o), .val (.ref p1), .val (.ref p2), .unset] [(.int (0 : Int32))]))
  refine own_go (fun _ q => XS.istoreN X2.here hx rfl (hb hby d7_29) rfl (l' := #[.val (.ref o), .val (.ref p1), .val (.ref p2), .val (.int (0 : Int32))]) rfl q) ?_
  show own_Go _ _ _ _ _ _ _ (T2.setTop (mkF m 30 #[.val (.ref o), .val (.ref p1), .val (.ref p2), .val (.int (0 : Int32))] []))
  refine own_go (fun _ q => XS.iloadN X2.here hx rfl (hb hby d7_30) rfl q) ?_
  show own_Go _ _ _ _ _ _ _ (T2.setTop (mkF m 31 #[.val (.ref o), .val (.ref p1), .val (.ref p2), .val (.int (0 : Int32))] [(.int (0 : Int32))]))
  refine own_go (fun _ q => XS.aloadN X2.here hx rfl (hb hby d7_31) rfl rfl q) ?_
  show own_Go _ _ _ _ _ _ _ (T2.setTop (mkF m 32 #[.val (.ref o), .val (.ref p1), .val (.ref p2), .val (.int (0 : Int32))] [(.ref o), (.int (0 : Int32))]))
  obtain ⟨T3, X3, e3, st3⟩ := getF X2 hx hZ hown (host := "") (Or.inl (hw _ (List.mem_of_getElem? (i := 48) rfl))) Via.refl e2 F_columns (g := (mkF m 32 #[.val (.ref o), .val (.ref p1), .val (.ref p2), .val (.int (0 : Int32))] [(.ref o), (.int (0 : Int32))])) rfl rfl (hb hby d7_32)
  refine own_go st3 ?_
  show own_Go _ _ _ _ _ _ _ (T3.setTop (mkF m 35 #[.val (.ref o), .val (.ref p1), .val (.ref p2), .val (.int (0 : Int32))] [(.int (2 : Int32)), (.int (0 : Int32))]))
  refine own_go (fun _ q => XS.icmpNo X3.here hx rfl (hb hby d7_35) rfl (tlt (by decide : (0 : Int32) < (2 : Int32))).2.1 q) ?_
  show own_Go _ _ _ _ _ _ _ (T3.setTop (mkF m 38 #[.val (.ref o), .val (.ref p1), .val (.ref p2), .val (.int (0 : Int32))] []))
  refine own_go (fun _ q => XS.aloadN X3.here hx rfl (hb hby d7_38) rfl rfl q) ?_
  show own_Go _ _ _ _ _ _ _ (T3.setTop (mkF m 39 #[.val (.ref o), .val (.ref p1), .val (.ref p2), .val (.int (0 : Int32))] [(.ref p1)]))
  refine own_go (fun _ q => XS.iloadN X3.here hx rfl (hb hby d7_39) rfl q) ?_
  show own_Go _ _ _ _ _ _ _ (T3.setTop (mkF m 40 #[.val (.ref o), .val (.ref p1), .val (.ref p2), .val (.int (0 : Int32))] [(.int (0 : Int32)), (.ref p1)]))
  refine own_daload X3 hx hZ e3 A_p1 (i := 0) rfl (by decide) h1_0 (hb hby d7_40) rfl ?_
  show own_Go _ _ _ _ _ _ _ (T3.setTop (mkF m 41 #[.val (.ref o), .val (.ref p1), .val (.ref p2), .val (.int (0 : Int32))] [(.double x0)]))
  refine own_isFinite X3 hx hZ hown (hw _ (List.mem_of_getElem? (i := 202) rfl)) (hw _ (List.mem_of_getElem? (i := 203) rfl)) (hw _ (List.mem_of_getElem? (i := 204) rfl)) (hw _ (List.mem_of_getElem? (i := 205) rfl)) (hw _ (List.mem_of_getElem? (i := 206) rfl)) (hw _ (List.mem_of_getElem? (i := 207) rfl)) (hw _ (List.mem_of_getElem? (i := 208) rfl)) (hw _ (List.mem_of_getElem? (i := 209) rfl)) (hw _ (List.mem_of_getElem? (i := 210) rfl)) e3 fx0 0 (by decide) (by decide) (by decide) (by decide) (by rw [hml]; rfl) (Nat.le_of_eq rfl) (hb hby d7_41) rfl ?_
  intro T4 X4 e4
  show own_Go _ _ _ _ _ _ _ (T4.setTop (mkF m 44 #[.val (.ref o), .val (.ref p1), .val (.ref p2), .val (.int (0 : Int32))] [(.int (1 : Int32))]))
  refine own_go (fun _ q => XS.ifNo X4.here hx rfl (hb hby d7_44) rfl ((if0 _ _).trans (feq (by decide : ¬ ((1 : Int32) = (0 : Int32)))).1) q) ?_
  show own_Go _ _ _ _ _ _ _ (T4.setTop (mkF m 47 #[.val (.ref o), .val (.ref p1), .val (.ref p2), .val (.int (0 : Int32))] []))
  refine own_go (fun _ q => XS.aloadN X4.here hx rfl (hb hby d7_47) rfl rfl q) ?_
  show own_Go _ _ _ _ _ _ _ (T4.setTop (mkF m 48 #[.val (.ref o), .val (.ref p1), .val (.ref p2), .val (.int (0 : Int32))] [(.ref p2)]))
  refine own_go (fun _ q => XS.iloadN X4.here hx rfl (hb hby d7_48) rfl q) ?_
  show own_Go _ _ _ _ _ _ _ (T4.setTop (mkF m 49 #[.val (.ref o), .val (.ref p1), .val (.ref p2), .val (.int (0 : Int32))] [(.int (0 : Int32)), (.ref p2)]))
  refine own_daload X4 hx hZ e4 A_p2 (i := 0) rfl (by decide) h2_0 (hb hby d7_49) rfl ?_
  show own_Go _ _ _ _ _ _ _ (T4.setTop (mkF m 50 #[.val (.ref o), .val (.ref p1), .val (.ref p2), .val (.int (0 : Int32))] [(.double y0)]))
  refine own_isFinite X4 hx hZ hown (hw _ (List.mem_of_getElem? (i := 202) rfl)) (hw _ (List.mem_of_getElem? (i := 203) rfl)) (hw _ (List.mem_of_getElem? (i := 204) rfl)) (hw _ (List.mem_of_getElem? (i := 205) rfl)) (hw _ (List.mem_of_getElem? (i := 206) rfl)) (hw _ (List.mem_of_getElem? (i := 207) rfl)) (hw _ (List.mem_of_getElem? (i := 208) rfl)) (hw _ (List.mem_of_getElem? (i := 209) rfl)) (hw _ (List.mem_of_getElem? (i := 210) rfl)) e4 fy0 0 (by decide) (by decide) (by decide) (by decide) (by rw [hml]; rfl) (Nat.le_of_eq rfl) (hb hby d7_50) rfl ?_
  intro T5 X5 e5
  show own_Go _ _ _ _ _ _ _ (T5.setTop (mkF m 53 #[.val (.ref o), .val (.ref p1), .val (.ref p2), .val (.int (0 : Int32))] [(.int (1 : Int32))]))
  refine own_go (fun _ q => XS.ifNo X5.here hx rfl (hb hby d7_53) rfl ((if0 _ _).trans (feq (by decide : ¬ ((1 : Int32) = (0 : Int32)))).1) q) ?_
  show own_Go _ _ _ _ _ _ _ (T5.setTop (mkF m 56 #[.val (.ref o), .val (.ref p1), .val (.ref p2), .val (.int (0 : Int32))] []))
  refine own_go (fun _ q => XS.aloadN X5.here hx rfl (hb hby d7_56) rfl rfl q) ?_
  show own_Go _ _ _ _ _ _ _ (T5.setTop (mkF m 57 #[.val (.ref o), .val (.ref p1), .val (.ref p2), .val (.int (0 : Int32))] [(.ref p1)]))
  refine own_go (fun _ q => XS.iloadN X5.here hx rfl (hb hby d7_57) rfl q) ?_
  show own_Go _ _ _ _ _ _ _ (T5.setTop (mkF m 58 #[.val (.ref o), .val (.ref p1), .val (.ref p2), .val (.int (0 : Int32))] [(.int (0 : Int32)), (.ref p1)]))
  refine own_daload X5 hx hZ e5 A_p1 (i := 0) rfl (by decide) h1_0 (hb hby d7_58) rfl ?_
  show own_Go _ _ _ _ _ _ _ (T5.setTop (mkF m 59 #[.val (.ref o), .val (.ref p1), .val (.ref p2), .val (.int (0 : Int32))] [(.double x0)]))
  refine own_go (fun _ q => XS.aloadN X5.here hx rfl (hb hby d7_59) rfl rfl q) ?_
  show own_Go _ _ _ _ _ _ _ (T5.setTop (mkF m 60 #[.val (.ref o), .val (.ref p1), .val (.ref p2), .val (.int (0 : Int32))] [(.ref p2), (.double x0)]))
  refine own_go (fun _ q => XS.iloadN X5.here hx rfl (hb hby d7_60) rfl q) ?_
  show own_Go _ _ _ _ _ _ _ (T5.setTop (mkF m 61 #[.val (.ref o), .val (.ref p1), .val (.ref p2), .val (.int (0 : Int32))] [(.int (0 : Int32)), (.ref p2), (.double x0)]))
  refine own_daload X5 hx hZ e5 A_p2 (i := 0) rfl (by decide) h2_0 (hb hby d7_61) rfl ?_
  show own_Go _ _ _ _ _ _ _ (T5.setTop (mkF m 62 #[.val (.ref o), .val (.ref p1), .val (.ref p2), .val (.int (0 : Int32))] [(.double y0), (.double x0)]))
  refine own_go (own_dcmp X5 hx (g := (mkF m 62 #[.val (.ref o), .val (.ref p1), .val (.ref p2), .val (.int (0 : Int32))] [(.double y0), (.double x0)])) rfl (o := o0) hc0 (hb hby d7_62) rfl) ?_
  show own_Go _ _ _ _ _ _ _ (T5.setTop (mkF m 63 #[.val (.ref o), .val (.ref p1), .val (.ref p2), .val (.int (0 : Int32))] [(.int (own_oi o0))]))
  refine own_go (fun _ q => XS.ifYes X5.here hx rfl (pc0 := 63) (pc' := 86) rfl (hb hby d7_63) rfl ((if0 _ _).trans (flt (own_oi_ngt hg0)).2.2.2) (by decide) (by decide) q) ?_
  show own_Go _ _ _ _ _ _ _ (T5.setTop (mkF m 86 #[.val (.ref o), .val (.ref p1), .val (.ref p2), .val (.int (0 : Int32))] []))
  refine own_go (fun _ q => XS.aloadN X5.here hx rfl (hb hby d7_86) rfl rfl q) ?_
  show own_Go _ _ _ _ _ _ _ (T5.setTop (mkF m 87 #[.val (.ref o), .val (.ref p1), .val (.ref p2), .val (.int (0 : Int32))] [(.ref o)]))
  obtain ⟨T6, X6, e6, st6⟩ := getF X5 hx hZ hown (host := "") (Or.inl (hw _ (List.mem_of_getElem? (i := 52) rfl))) Via.refl e5 F_lower (g := (mkF m 87 #[.val (.ref o), .val (.ref p1), .val (.ref p2), .val (.int (0 : Int32))] [(.ref o)])) rfl rfl (hb hby d7_87)
  refine own_go st6 ?_
  show own_Go _ _ _ _ _ _ _ (T6.setTop (mkF m 90 #[.val (.ref o), .val (.ref p1), .val (.ref p2), .val (.int (0 : Int32))] [(.ref la)]))
  refine own_go (fun _ q => XS.iloadN X6.here hx rfl (hb hby d7_90) rfl q) ?_
  show own_Go _ _ _ _ _ _ _ (T6.setTop (mkF m 91 #[.val (.ref o), .val (.ref p1), .val (.ref p2), .val (.int (0 : Int32))] [(.int (0 : Int32)), (.ref la)]))
  refine own_go (fun _ q => XS.aloadN X6.here hx rfl (hb hby d7_91) rfl rfl q) ?_
  show own_Go _ _ _ _ _ _ _ (T6.setTop (mkF m 92 #[.val (.ref o), .val (.ref p1), .val (.ref p2), .val (.int (0 : Int32))] [(.ref p1), (.int (0 : Int32)), (.ref la)]))
  refine own_go (fun _ q => XS.iloadN X6.here hx rfl (hb hby d7_92) rfl q) ?_
  show own_Go _ _ _ _ _ _ _ (T6.setTop (mkF m 93 #[.val (.ref o), .val (.ref p1), .val (.ref p2), .val (.int (0 : Int32))] [(.int (0 : Int32)), (.ref p1), (.int (0 : Int32)), (.ref la)]))
  refine own_daload X6 hx hZ e6 A_p1 (i := 0) rfl (by decide) h1_0 (hb hby d7_93) rfl ?_
  show own_Go _ _ _ _ _ _ _ (T6.setTop (mkF m 94 #[.val (.ref o), .val (.ref p1), .val (.ref p2), .val (.int (0 : Int32))] [(.double x0), (.int (0 : Int32)), (.ref la)]))
  refine own_dastore X6 hx hZ e6 (i := 0) A_la rfl (by decide) (hb hby d7_94) rfl ?_
  intro T7 h7 X7 e7 W7 A7
  have N7 := Fr.snoc X7 N0 g_la
  have Z7 : n0 ≤ h7.size := by rw [W7.size]; exact Z0
  show own_Go _ _ _ _ _ _ _ (T7.setTop (mkF m 95 #[.val (.ref o), .val (.ref p1), .val (.ref p2), .val (.int (0 : Int32))] []))
  refine own_go (fun _ q => XS.aloadN X7.here hx rfl (hb hby d7_95) rfl rfl q) ?_
  show own_Go _ _ _ _ _ _ _ (T7.setTop (mkF m 96 #[.val (.ref o), .val (.ref p1), .val (.ref p2), .val (.int (0 : Int32))] [(.ref o)]))
  have f9 := (F_upper.other W7 (Or.inl (Ne.symm ne_la_o)))
  obtain ⟨T8, X8, e8, st8⟩ := getF X7 hx hZ hown (host := "") (Or.inl (hw _ (List.mem_of_getElem? (i := 54) rfl))) Via.refl e7 f9 (g := (mkF m 96 #[.val (.ref o), .val (.ref p1), .val (.ref p2), .val (.int (0 : Int32))] [(.ref o)])) rfl rfl (hb hby d7_96)
  refine own_go st8 ?_
  show own_Go _ _ _ _ _ _ _ (T8.setTop (mkF m 99 #[.val (.ref o), .val (.ref p1), .val (.ref p2), .val (.int (0 : Int32))] [(.ref ua)]))
  refine own_go (fun _ q => XS.iloadN X8.here hx rfl (hb hby d7_99) rfl q) ?_
  show own_Go _ _ _ _ _ _ _ (T8.setTop (mkF m 100 #[.val (.ref o), .val (.ref p1), .val (.ref p2), .val (.int (0 : Int32))] [(.int (0 : Int32)), (.ref ua)]))
  refine own_go (fun _ q => XS.aloadN X8.here hx rfl (hb hby d7_100) rfl rfl q) ?_
  show own_Go _ _ _ _ _ _ _ (T8.setTop (mkF m 101 #[.val (.ref o), .val (.ref p1), .val (.ref p2), .val (.int (0 : Int32))] [(.ref p2), (.int (0 : Int32)), (.ref ua)]))
  refine own_go (fun _ q => XS.iloadN X8.here hx rfl (hb hby d7_101) rfl q) ?_
  show own_Go _ _ _ _ _ _ _ (T8.setTop (mkF m 102 #[.val (.ref o), .val (.ref p1), .val (.ref p2), .val (.int (0 : Int32))] [(.int (0 : Int32)), (.ref p2), (.int (0 : Int32)), (.ref ua)]))
  have f10 := (A_p2.other W7 (Ne.symm ne_la_p2))
  refine own_daload X8 hx hZ e8 f10 (i := 0) rfl (by decide) h2_0 (hb hby d7_102) rfl ?_
  show own_Go _ _ _ _ _ _ _ (T8.setTop (mkF m 103 #[.val (.ref o), .val (.ref p1), .val (.ref p2), .val (.int (0 : Int32))] [(.double y0), (.int (0 : Int32)), (.ref ua)]))
  have f12 := (A_ua.other W7 (Ne.symm ne_la_ua))
  refine own_dastore X8 hx hZ e8 (i := 0) f12 rfl (by decide) (hb hby d7_103) rfl ?_
  intro T11 h11 X11 e11 W11 A11
  have N11 := Fr.snoc X11 N7 g_ua
  have Z11 : n0 ≤ h11.size := by rw [W11.size]; exact Z7
  show own_Go _ _ _ _ _ _ _ (T11.setTop (mkF m 104 #[.val (.ref o), .val (.ref p1), .val (.ref p2), .val (.int (0 : Int32))] []))
  refine own_go (fun _ q => XS.aloadN X11.here hx rfl (hb hby d7_104) rfl rfl q) ?_
  show own_Go _ _ _ _ _ _ _ (T11.setTop (mkF m 105 #[.val (.ref o), .val (.ref p1), .val (.ref p2), .val (.int (0 : Int32))] [(.ref o)]))
  have f14 := ((F_position.other W7 (Or.inl (Ne.symm ne_la_o))).other W11 (Or.inl (Ne.symm ne_ua_o)))
  obtain ⟨T13, X13, e13, st13⟩ := getF X11 hx hZ hown (host := "") (Or.inl (hw _ (List.mem_of_getElem? (i := 73) rfl))) Via.refl e11 f14 (g := (mkF m 105 #[.val (.ref o), .val (.ref p1), .val (.ref p2), .val (.int (0 : Int32))] [(.ref o)])) rfl rfl (hb hby d7_105)
  refine own_go st13 ?_
  show own_Go _ _ _ _ _ _ _ (T13.setTop (mkF m 108 #[.val (.ref o), .val (.ref p1), .val (.ref p2), .val (.int (0 : Int32))] [(.ref pa)]))
  refine own_go (fun _ q => XS.iloadN X13.here hx rfl (hb hby d7_108) rfl q) ?_
  show own_Go _ _ _ _ _ _ _ (T13.setTop (mkF m 109 #[.val (.ref o), .val (.ref p1), .val (.ref p2), .val (.int (0 : Int32))] [(.int (0 : Int32)), (.ref pa)]))
  have f15 := ((A_pa.other W7 (Ne.symm ne_la_pa)).other W11 (Ne.symm ne_ua_pa))
  refine own_iaload X13 hx hZ e13 f15 (i := 0) rfl (by decide) hp_0 (hb hby d7_109) rfl ?_
  show own_Go _ _ _ _ _ _ _ (T13.setTop (mkF m 110 #[.val (.ref o), .val (.ref p1), .val (.ref p2), .val (.int (0 : Int32))] [(.int (-1 : Int32))]))
  refine own_go (fun _ q => XS.ifNo X13.here hx rfl (hb hby d7_110) rfl ((if0 _ _).trans (tlt (by decide : (-1 : Int32) < (0 : Int32))).2.1) q) ?_
  show own_Go _ _ _ _ _ _ _ (T13.setTop (mkF m 113 #[.val (.ref o), .val (.ref p1), .val (.ref p2), .val (.int (0 : Int32))] []))
  refine own_go (fun _ q => XS.aloadN X13.here hx rfl (hb hby d7_113) rfl rfl q) ?_
  show own_Go _ _ _ _ _ _ _ (T13.setTop (mkF m 114 #[.val (.ref o), .val (.ref p1), .val (.ref p2), .val (.int (0 : Int32))] [(.ref o)]))
  have f17 := ((F_value.other W7 (Or.inl (Ne.symm ne_la_o))).other W11 (Or.inl (Ne.symm ne_ua_o)))
  obtain ⟨T16, X16, e16, st16⟩ := getF X13 hx hZ hown (host := "") (Or.inl (hw _ (List.mem_of_getElem? (i := 56) rfl))) Via.refl e13 f17 (g := (mkF m 114 #[.val (.ref o), .val (.ref p1), .val (.ref p2), .val (.int (0 : Int32))] [(.ref o)])) rfl rfl (hb hby d7_114)
  refine own_go st16 ?_
  show own_Go _ _ _ _ _ _ _ (T16.setTop (mkF m 117 #[.val (.ref o), .val (.ref p1), .val (.ref p2), .val (.int (0 : Int32))] [(.ref va)]))
  refine own_go (fun _ q => XS.iloadN X16.here hx rfl (hb hby d7_117) rfl q) ?_
  show own_Go _ _ _ _ _ _ _ (T16.setTop (mkF m 118 #[.val (.ref o), .val (.ref p1), .val (.ref p2), .val (.int (0 : Int32))] [(.int (0 : Int32)), (.ref va)]))
  refine own_go (fun _ q => XS.aloadN X16.here hx rfl (hb hby d7_118) rfl rfl q) ?_
  show own_Go _ _ _ _ _ _ _ (T16.setTop (mkF m 119 #[.val (.ref o), .val (.ref p1), .val (.ref p2), .val (.int (0 : Int32))] [(.ref o), (.int (0 : Int32)), (.ref va)]))
  have f19 := ((F_atUpper.other W7 (Or.inl (Ne.symm ne_la_o))).other W11 (Or.inl (Ne.symm ne_ua_o)))
  obtain ⟨T18, X18, e18, st18⟩ := getF X16 hx hZ hown (host := "") (Or.inl (hw _ (List.mem_of_getElem? (i := 59) rfl))) Via.refl e16 f19 (g := (mkF m 119 #[.val (.ref o), .val (.ref p1), .val (.ref p2), .val (.int (0 : Int32))] [(.ref o), (.int (0 : Int32)), (.ref va)])) rfl rfl (hb hby d7_119)
  refine own_go st18 ?_
  show own_Go _ _ _ _ _ _ _ (T18.setTop (mkF m 122 #[.val (.ref o), .val (.ref p1), .val (.ref p2), .val (.int (0 : Int32))] [(.ref za), (.int (0 : Int32)), (.ref va)]))
  refine own_go (fun _ q => XS.iloadN X18.here hx rfl (hb hby d7_122) rfl q) ?_
  show own_Go _ _ _ _ _ _ _ (T18.setTop (mkF m 123 #[.val (.ref o), .val (.ref p1), .val (.ref p2), .val (.int (0 : Int32))] [(.int (0 : Int32)), (.ref za), (.int (0 : Int32)), (.ref va)]))
  have f20 := ((A_za.other W7 (Ne.symm ne_la_za)).other W11 (Ne.symm ne_ua_za))
  refine own_baload X18 hx hZ e18 f20 (i := 0) rfl (by decide) hz_0 (hb hby d7_123) rfl ?_
  show own_Go _ _ _ _ _ _ _ (T18.setTop (mkF m 124 #[.val (.ref o), .val (.ref p1), .val (.ref p2), .val (.int (0 : Int32))] [(.int z0), (.int (0 : Int32)), (.ref va)]))
  have f21 := ((A_p1.other W7 (Ne.symm ne_la_p1)).other W11 (Ne.symm ne_ua_p1))
  have f22 := (f10.other W11 (Ne.symm ne_ua_p2))
  refine own_via (t' := T18.setTop (mkF m 136 #[.val (.ref o), .val (.ref p1), .val (.ref p2), .val (.int (0 : Int32))] [(.double (own_sel z0 x0 y0)), (.int (0 : Int32)), (.ref va)])) ?_ (fun tail0 => ?_)
  · show own_Go _ _ _ _ _ _ _ (T18.setTop (mkF m 136 #[.val (.ref o), .val (.ref p1), .val (.ref p2), .val (.int (0 : Int32))] [(.double (own_sel z0 x0 y0)), (.int (0 : Int32)), (.ref va)]))
    have f24 := ((A_va.other W7 (Ne.symm ne_la_va)).other W11 (Ne.symm ne_ua_va))
    refine own_dastore X18 hx hZ e18 (i := 0) f24 rfl (by decide) (hb hby d7_136) rfl ?_
    intro T23 h23 X23 e23 W23 A23
    have N23 := Fr.snoc X23 N11 g_va
    have Z23 : n0 ≤ h23.size := by rw [W23.size]; exact Z11
    show own_Go _ _ _ _ _ _ _ (T23.setTop (mkF m 137 #[.val (.ref o), .val (.ref p1), .val (.ref p2), .val (.int (0 : Int32))] []))
    refine own_go (fun _ q => XS.iinc X23.here hx rfl (hb hby d7_137) rfl (l' := #[.val (.ref o), .val (.ref p1), .val (.ref p2), .val (.int ((0 : Int32) + (1 : Int32)))]) rfl q) ?_
    show own_Go _ _ _ _ _ _ _ (T23.setTop (mkF m 140 #[.val (.ref o), .val (.ref p1), .val (.ref p2), .val (.int ((0 : Int32) + (1 : Int32)))] []))
    show own_Go _ _ _ _ _ _ _ (T23.setTop (mkF m 140 #[.val (.ref o), .val (.ref p1), .val (.ref p2), .val (.int (1 : Int32))] []))
    refine own_go (fun _ q => XS.goto X23.here hx rfl (pc0 := 140) (pc' := 30) rfl (hb hby d7_140) (by decide) (by decide) q) ?_
    show own_Go _ _ _ _ _ _ _ (T23.setTop (mkF m 30 #[.val (.ref o), .val (.ref p1), .val (.ref p2), .val (.int (1 : Int32))] []))
    refine own_go (fun _ q => XS.iloadN X23.here hx rfl (hb hby d7_30) rfl q) ?_
    show own_Go _ _ _ _ _ _ _ (T23.setTop (mkF m 31 #[.val (.ref o), .val (.ref p1), .val (.ref p2), .val (.int (1 : Int32))] [(.int (1 : Int32))]))
    refine own_go (fun _ q => XS.aloadN X23.here hx rfl (hb hby d7_31) rfl rfl q) ?_
    show own_Go _ _ _ _ _ _ _ (T23.setTop (mkF m 32 #[.val (.ref o), .val (.ref p1), .val (.ref p2), .val (.int (1 : Int32))] [(.ref o), (.int (1 : Int32))]))
    have f26 := (((F_columns.other W7 (Or.inl (Ne.symm ne_la_o))).other W11 (Or.inl (Ne.symm ne_ua_o))).other W23 (Or.inl (Ne.symm ne_va_o)))
    obtain ⟨T25, X25, e25, st25⟩ := getF X23 hx hZ hown (host := "") (Or.inl (hw _ (List.mem_of_getElem? (i := 48) rfl))) Via.refl e23 f26 (g := (mkF m 32 #[.val (.ref o), .val (.ref p1), .val (.ref p2), .val (.int (1 : Int32))] [(.ref o), (.int (1 : Int32))])) rfl rfl (hb hby d7_32)
    refine own_go st25 ?_
    show own_Go _ _ _ _ _ _ _ (T25.setTop (mkF m 35 #[.val (.ref o), .val (.ref p1), .val (.ref p2), .val (.int (1 : Int32))] [(.int (2 : Int32)), (.int (1 : Int32))]))
    refine own_go (fun _ q => XS.icmpNo X25.here hx rfl (hb hby d7_35) rfl (tlt (by decide : (1 : Int32) < (2 : Int32))).2.1 q) ?_
    show own_Go _ _ _ _ _ _ _ (T25.setTop (mkF m 38 #[.val (.ref o), .val (.ref p1), .val (.ref p2), .val (.int (1 : Int32))] []))
    refine own_go (fun _ q => XS.aloadN X25.here hx rfl (hb hby d7_38) rfl rfl q) ?_
    show own_Go _ _ _ _ _ _ _ (T25.setTop (mkF m 39 #[.val (.ref o), .val (.ref p1), .val (.ref p2), .val (.int (1 : Int32))] [(.ref p1)]))
    refine own_go (fun _ q => XS.iloadN X25.here hx rfl (hb hby d7_39) rfl q) ?_
    show own_Go _ _ _ _ _ _ _ (T25.setTop (mkF m 40 #[.val (.ref o), .val (.ref p1), .val (.ref p2), .val (.int (1 : Int32))] [(.int (1 : Int32)), (.ref p1)]))
    have f27 := (f21.other W23 (Ne.symm ne_va_p1))
    refine own_daload X25 hx hZ e25 f27 (i := 1) rfl (by decide) h1_1 (hb hby d7_40) rfl ?_
    show own_Go _ _ _ _ _ _ _ (T25.setTop (mkF m 41 #[.val (.ref o), .val (.ref p1), .val (.ref p2), .val (.int (1 : Int32))] [(.double x1)]))
    refine own_isFinite X25 hx hZ hown (hw _ (List.mem_of_getElem? (i := 202) rfl)) (hw _ (List.mem_of_getElem? (i := 203) rfl)) (hw _ (List.mem_of_getElem? (i := 204) rfl)) (hw _ (List.mem_of_getElem? (i := 205) rfl)) (hw _ (List.mem_of_getElem? (i := 206) rfl)) (hw _ (List.mem_of_getElem? (i := 207) rfl)) (hw _ (List.mem_of_getElem? (i := 208) rfl)) (hw _ (List.mem_of_getElem? (i := 209) rfl)) (hw _ (List.mem_of_getElem? (i := 210) rfl)) e25 fx1 0 (by decide) (by decide) (by decide) (by decide) (by rw [hml]; rfl) (Nat.le_of_eq rfl) (hb hby d7_41) rfl ?_
    intro T28 X28 e28
    show own_Go _ _ _ _ _ _ _ (T28.setTop (mkF m 44 #[.val (.ref o), .val (.ref p1), .val (.ref p2), .val (.int (1 : Int32))] [(.int (1 : Int32))]))
    refine own_go (fun _ q => XS.ifNo X28.here hx rfl (hb hby d7_44) rfl ((if0 _ _).trans (feq (by decide : ¬ ((1 : Int32) = (0 : Int32)))).1) q) ?_
    show own_Go _ _ _ _ _ _ _ (T28.setTop (mkF m 47 #[.val (.ref o), .val (.ref p1), .val (.ref p2), .val (.int (1 : Int32))] []))
    refine own_go (fun _ q => XS.aloadN X28.here hx rfl (hb hby d7_47) rfl rfl q) ?_
    show own_Go _ _ _ _ _ _ _ (T28.setTop (mkF m 48 #[.val (.ref o), .val (.ref p1), .val (.ref p2), .val (.int (1 : Int32))] [(.ref p2)]))
    refine own_go (fun _ q => XS.iloadN X28.here hx rfl (hb hby d7_48) rfl q) ?_
    show own_Go _ _ _ _ _ _ _ (T28.setTop (mkF m 49 #[.val (.ref o), .val (.ref p1), .val (.ref p2), .val (.int (1 : Int32))] [(.int (1 : Int32)), (.ref p2)]))
    have f29 := (f22.other W23 (Ne.symm ne_va_p2))
    refine own_daload X28 hx hZ e28 f29 (i := 1) rfl (by decide) h2_1 (hb hby d7_49) rfl ?_
    show own_Go _ _ _ _ _ _ _ (T28.setTop (mkF m 50 #[.val (.ref o), .val (.ref p1), .val (.ref p2), .val (.int (1 : Int32))] [(.double y1)]))
    refine own_isFinite X28 hx hZ hown (hw _ (List.mem_of_getElem? (i := 202) rfl)) (hw _ (List.mem_of_getElem? (i := 203) rfl)) (hw _ (List.mem_of_getElem? (i := 204) rfl)) (hw _ (List.mem_of_getElem? (i := 205) rfl)) (hw _ (List.mem_of_getElem? (i := 206) rfl)) (hw _ (List.mem_of_getElem? (i := 207) rfl)) (hw _ (List.mem_of_getElem? (i := 208) rfl)) (hw _ (List.mem_of_getElem? (i := 209) rfl)) (hw _ (List.mem_of_getElem? (i := 210) rfl)) e28 fy1 0 (by decide) (by decide) (by decide) (by decide) (by rw [hml]; rfl) (Nat.le_of_eq rfl) (hb hby d7_50) rfl ?_
    intro T30 X30 e30
    show own_Go _ _ _ _ _ _ _ (T30.setTop (mkF m 53 #[.val (.ref o), .val (.ref p1), .val (.ref p2), .val (.int (1 : Int32))] [(.int (1 : Int32))]))
    refine own_go (fun _ q => XS.ifNo X30.here hx rfl (hb hby d7_53) rfl ((if0 _ _).trans (feq (by decide : ¬ ((1 : Int32) = (0 : Int32)))).1) q) ?_
    show own_Go _ _ _ _ _ _ _ (T30.setTop (mkF m 56 #[.val (.ref o), .val (.ref p1), .val (.ref p2), .val (.int (1 : Int32))] []))
    refine own_go (fun _ q => XS.aloadN X30.here hx rfl (hb hby d7_56) rfl rfl q) ?_
    show own_Go _ _ _ _ _ _ _ (T30.setTop (mkF m 57 #[.val (.ref o), .val (.ref p1), .val (.ref p2), .val (.int (1 : Int32))] [(.ref p1)]))
    refine own_go (fun _ q => XS.iloadN X30.here hx rfl (hb hby d7_57) rfl q) ?_
    show own_Go _ _ _ _ _ _ _ (T30.setTop (mkF m 58 #[.val (.ref o), .val (.ref p1), .val (.ref p2), .val (.int (1 : Int32))] [(.int (1 : Int32)), (.ref p1)]))
    refine own_daload X30 hx hZ e30 f27 (i := 1) rfl (by decide) h1_1 (hb hby d7_58) rfl ?_
    show own_Go _ _ _ _ _ _ _ (T30.setTop (mkF m 59 #[.val (.ref o), .val (.ref p1), .val (.ref p2), .val (.int (1 : Int32))] [(.double x1)]))
    refine own_go (fun _ q => XS.aloadN X30.here hx rfl (hb hby d7_59) rfl rfl q) ?_
    show own_Go _ _ _ _ _ _ _ (T30.setTop (mkF m 60 #[.val (.ref o), .val (.ref p1), .val (.ref p2), .val (.int (1 : Int32))] [(.ref p2), (.double x1)]))
    refine own_go (fun _ q => XS.iloadN X30.here hx rfl (hb hby d7_60) rfl q) ?_
    show own_Go _ _ _ _ _ _ _ (T30.setTop (mkF m 61 #[.val (.ref o), .val (.ref p1), .val (.ref p2), .val (.int (1 : Int32))] [(.int (1 : Int32)), (.ref p2), (.double x1)]))
    refine own_daload X30 hx hZ e30 f29 (i := 1) rfl (by decide) h2_1 (hb hby d7_61) rfl ?_
    show own_Go _ _ _ _ _ _ _ (T30.setTop (mkF m 62 #[.val (.ref o), .val (.ref p1), .val (.ref p2), .val (.int (1 : Int32))] [(.double y1), (.double x1)]))
    refine own_go (own_dcmp X30 hx (g := (mkF m 62 #[.val (.ref o), .val (.ref p1), .val (.ref p2), .val (.int (1 : Int32))] [(.double y1), (.double x1)])) rfl (o := o1) hc1 (hb hby d7_62) rfl) ?_
    show own_Go _ _ _ _ _ _ _ (T30.setTop (mkF m 63 #[.val (.ref o), .val (.ref p1), .val (.ref p2), .val (.int (1 : Int32))] [(.int (own_oi o1))]))
    refine own_go (fun _ q => XS.ifYes X30.here hx rfl (pc0 := 63) (pc' := 86) rfl (hb hby d7_63) rfl ((if0 _ _).trans (flt (own_oi_ngt hg1)).2.2.2) (by decide) (by decide) q) ?_
    show own_Go _ _ _ _ _ _ _ (T30.setTop (mkF m 86 #[.val (.ref o), .val (.ref p1), .val (.ref p2), .val (.int (1 : Int32))] []))
    refine own_go (fun _ q => XS.aloadN X30.here hx rfl (hb hby d7_86) rfl rfl q) ?_
    show own_Go _ _ _ _ _ _ _ (T30.setTop (mkF m 87 #[.val (.ref o), .val (.ref p1), .val (.ref p2), .val (.int (1 : Int32))] [(.ref o)]))
    have f32 := (((F_lower.other W7 (Or.inl (Ne.symm ne_la_o))).other W11 (Or.inl (Ne.symm ne_ua_o))).other W23 (Or.inl (Ne.symm ne_va_o)))
    obtain ⟨T31, X31, e31, st31⟩ := getF X30 hx hZ hown (host := "") (Or.inl (hw _ (List.mem_of_getElem? (i := 52) rfl))) Via.refl e30 f32 (g := (mkF m 87 #[.val (.ref o), .val (.ref p1), .val (.ref p2), .val (.int (1 : Int32))] [(.ref o)])) rfl rfl (hb hby d7_87)
    refine own_go st31 ?_
    show own_Go _ _ _ _ _ _ _ (T31.setTop (mkF m 90 #[.val (.ref o), .val (.ref p1), .val (.ref p2), .val (.int (1 : Int32))] [(.ref la)]))
    refine own_go (fun _ q => XS.iloadN X31.here hx rfl (hb hby d7_90) rfl q) ?_
    show own_Go _ _ _ _ _ _ _ (T31.setTop (mkF m 91 #[.val (.ref o), .val (.ref p1), .val (.ref p2), .val (.int (1 : Int32))] [(.int (1 : Int32)), (.ref la)]))
    refine own_go (fun _ q => XS.aloadN X31.here hx rfl (hb hby d7_91) rfl rfl q) ?_
    show own_Go _ _ _ _ _ _ _ (T31.setTop (mkF m 92 #[.val (.ref o), .val (.ref p1), .val (.ref p2), .val (.int (1 : Int32))] [(.ref p1), (.int (1 : Int32)), (.ref la)]))
    refine own_go (fun _ q => XS.iloadN X31.here hx rfl (hb hby d7_92) rfl q) ?_
    show own_Go _ _ _ _ _ _ _ (T31.setTop (mkF m 93 #[.val (.ref o), .val (.ref p1), .val (.ref p2), .val (.int (1 : Int32))] [(.int (1 : Int32)), (.ref p1), (.int (1 : Int32)), (.ref la)]))
    refine own_daload X31 hx hZ e31 f27 (i := 1) rfl (by decide) h1_1 (hb hby d7_93) rfl ?_
    show own_Go _ _ _ _ _ _ _ (T31.setTop (mkF m 94 #[.val (.ref o), .val (.ref p1), .val (.ref p2), .val (.int (1 : Int32))] [(.double x1), (.int (1 : Int32)), (.ref la)]))
    have f34 := ((A7.other W11 ne_la_ua).other W23 ne_la_va)
    refine own_dastore X31 hx hZ e31 (i := 1) f34 rfl (by decide) (hb hby d7_94) rfl ?_
    intro T33 h33 X33 e33 W33 A33
    have N33 := Fr.snoc X33 N23 g_la
    have Z33 : n0 ≤ h33.size := by rw [W33.size]; exact Z23
    show own_Go _ _ _ _ _ _ _ (T33.setTop (mkF m 95 #[.val (.ref o), .val (.ref p1), .val (.ref p2), .val (.int (1 : Int32))] []))
    refine own_go (fun _ q => XS.aloadN X33.here hx rfl (hb hby d7_95) rfl rfl q) ?_
    show own_Go _ _ _ _ _ _ _ (T33.setTop (mkF m 96 #[.val (.ref o), .val (.ref p1), .val (.ref p2), .val (.int (1 : Int32))] [(.ref o)]))
    have f36 := (((f9.other W11 (Or.inl (Ne.symm ne_ua_o))).other W23 (Or.inl (Ne.symm ne_va_o))).other W33 (Or.inl (Ne.symm ne_la_o)))
    obtain ⟨T35, X35, e35, st35⟩ := getF X33 hx hZ hown (host := "") (Or.inl (hw _ (List.mem_of_getElem? (i := 54) rfl))) Via.refl e33 f36 (g := (mkF m 96 #[.val (.ref o), .val (.ref p1), .val (.ref p2), .val (.int (1 : Int32))] [(.ref o)])) rfl rfl (hb hby d7_96)
    refine own_go st35 ?_
    show own_Go _ _ _ _ _ _ _ (T35.setTop (mkF m 99 #[.val (.ref o), .val (.ref p1), .val (.ref p2), .val (.int (1 : Int32))] [(.ref ua)]))
    refine own_go (fun _ q => XS.iloadN X35.here hx rfl (hb hby d7_99) rfl q) ?_
    show own_Go _ _ _ _ _ _ _ (T35.setTop (mkF m 100 #[.val (.ref o), .val (.ref p1), .val (.ref p2), .val (.int (1 : Int32))] [(.int (1 : Int32)), (.ref ua)]))
    refine own_go (fun _ q => XS.aloadN X35.here hx rfl (hb hby d7_100) rfl rfl q) ?_
    show own_Go _ _ _ _ _ _ _ (T35.setTop (mkF m 101 #[.val (.ref o), .val (.ref p1), .val (.ref p2), .val (.int (1 : Int32))] [(.ref p2), (.int (1 : Int32)), (.ref ua)]))
    refine own_go (fun _ q => XS.iloadN X35.here hx rfl (hb hby d7_101) rfl q) ?_
    show own_Go _ _ _ _ _ _ _ (T35.setTop (mkF m 102 #[.val (.ref o), .val (.ref p1), .val (.ref p2), .val (.int (1 : Int32))] [(.int (1 : Int32)), (.ref p2), (.int (1 : Int32)), (.ref ua)]))
    have f37 := (f29.other W33 (Ne.symm ne_la_p2))
    refine own_daload X35 hx hZ e35 f37 (i := 1) rfl (by decide) h2_1 (hb hby d7_102) rfl ?_
    show own_Go _ _ _ _ _ _ _ (T35.setTop (mkF m 103 #[.val (.ref o), .val (.ref p1), .val (.ref p2), .val (.int (1 : Int32))] [(.double y1), (.int (1 : Int32)), (.ref ua)]))
    have f39 := ((A11.other W23 ne_ua_va).other W33 (Ne.symm ne_la_ua))
    refine own_dastore X35 hx hZ e35 (i := 1) f39 rfl (by decide) (hb hby d7_103) rfl ?_
    intro T38 h38 X38 e38 W38 A38
    have N38 := Fr.snoc X38 N33 g_ua
    have Z38 : n0 ≤ h38.size := by rw [W38.size]; exact Z33
    show own_Go _ _ _ _ _ _ _ (T38.setTop (mkF m 104 #[.val (.ref o), .val (.ref p1), .val (.ref p2), .val (.int (1 : Int32))] []))
    refine own_go (fun _ q => XS.aloadN X38.here hx rfl (hb hby d7_104) rfl rfl q) ?_
    show own_Go _ _ _ _ _ _ _ (T38.setTop (mkF m 105 #[.val (.ref o), .val (.ref p1), .val (.ref p2), .val (.int (1 : Int32))] [(.ref o)]))
    have f41 := (((f14.other W23 (Or.inl (Ne.symm ne_va_o))).other W33 (Or.inl (Ne.symm ne_la_o))).other W38 (Or.inl (Ne.symm ne_ua_o)))
    obtain ⟨T40, X40, e40, st40⟩ := getF X38 hx hZ hown (host := "") (Or.inl (hw _ (List.mem_of_getElem? (i := 73) rfl))) Via.refl e38 f41 (g := (mkF m 105 #[.val (.ref o), .val (.ref p1), .val (.ref p2), .val (.int (1 : Int32))] [(.ref o)])) rfl rfl (hb hby d7_105)
    refine own_go st40 ?_
    show own_Go _ _ _ _ _ _ _ (T40.setTop (mkF m 108 #[.val (.ref o), .val (.ref p1), .val (.ref p2), .val (.int (1 : Int32))] [(.ref pa)]))
    refine own_go (fun _ q => XS.iloadN X40.here hx rfl (hb hby d7_108) rfl q) ?_
    show own_Go _ _ _ _ _ _ _ (T40.setTop (mkF m 109 #[.val (.ref o), .val (.ref p1), .val (.ref p2), .val (.int (1 : Int32))] [(.int (1 : Int32)), (.ref pa)]))
    have f42 := (((f15.other W23 (Ne.symm ne_va_pa)).other W33 (Ne.symm ne_la_pa)).other W38 (Ne.symm ne_ua_pa))
    refine own_iaload X40 hx hZ e40 f42 (i := 1) rfl (by decide) hp_1 (hb hby d7_109) rfl ?_
    show own_Go _ _ _ _ _ _ _ (T40.setTop (mkF m 110 #[.val (.ref o), .val (.ref p1), .val (.ref p2), .val (.int (1 : Int32))] [(.int (-1 : Int32))]))
    refine own_go (fun _ q => XS.ifNo X40.here hx rfl (hb hby d7_110) rfl ((if0 _ _).trans (tlt (by decide : (-1 : Int32) < (0 : Int32))).2.1) q) ?_
    show own_Go _ _ _ _ _ _ _ (T40.setTop (mkF m 113 #[.val (.ref o), .val (.ref p1), .val (.ref p2), .val (.int (1 : Int32))] []))
    refine own_go (fun _ q => XS.aloadN X40.here hx rfl (hb hby d7_113) rfl rfl q) ?_
    show own_Go _ _ _ _ _ _ _ (T40.setTop (mkF m 114 #[.val (.ref o), .val (.ref p1), .val (.ref p2), .val (.int (1 : Int32))] [(.ref o)]))
    have f44 := (((f17.other W23 (Or.inl (Ne.symm ne_va_o))).other W33 (Or.inl (Ne.symm ne_la_o))).other W38 (Or.inl (Ne.symm ne_ua_o)))
    obtain ⟨T43, X43, e43, st43⟩ := getF X40 hx hZ hown (host := "") (Or.inl (hw _ (List.mem_of_getElem? (i := 56) rfl))) Via.refl e40 f44 (g := (mkF m 114 #[.val (.ref o), .val (.ref p1), .val (.ref p2), .val (.int (1 : Int32))] [(.ref o)])) rfl rfl (hb hby d7_114)
    refine own_go st43 ?_
    show own_Go _ _ _ _ _ _ _ (T43.setTop (mkF m 117 #[.val (.ref o), .val (.ref p1), .val (.ref p2), .val (.int (1 : Int32))] [(.ref va)]))
    refine own_go (fun _ q => XS.iloadN X43.here hx rfl (hb hby d7_117) rfl q) ?_
    show own_Go _ _ _ _ _ _ _ (T43.setTop (mkF m 118 #[.val (.ref o), .val (.ref p1), .val (.ref p2), .val (.int (1 : Int32))] [(.int (1 : Int32)), (.ref va)]))
    refine own_go (fun _ q => XS.aloadN X43.here hx rfl (hb hby d7_118) rfl rfl q) ?_
    show own_Go _ _ _ _ _ _ _ (T43.setTop (mkF m 119 #[.val (.ref o), .val (.ref p1), .val (.ref p2), .val (.int (1 : Int32))] [(.ref o), (.int (1 : Int32)), (.ref va)]))
    have f46 := (((f19.other W23 (Or.inl (Ne.symm ne_va_o))).other W33 (Or.inl (Ne.symm ne_la_o))).other W38 (Or.inl (Ne.symm ne_ua_o)))
    obtain ⟨T45, X45, e45, st45⟩ := getF X43 hx hZ hown (host := "") (Or.inl (hw _ (List.mem_of_getElem? (i := 59) rfl))) Via.refl e43 f46 (g := (mkF m 119 #[.val (.ref o), .val (.ref p1), .val (.ref p2), .val (.int (1 : Int32))] [(.ref o), (.int (1 : Int32)), (.ref va)])) rfl rfl (hb hby d7_119)
    refine own_go st45 ?_
    show own_Go _ _ _ _ _ _ _ (T45.setTop (mkF m 122 #[.val (.ref o), .val (.ref p1), .val (.ref p2), .val (.int (1 : Int32))] [(.ref za), (.int (1 : Int32)), (.ref va)]))
    refine own_go (fun _ q => XS.iloadN X45.here hx rfl (hb hby d7_122) rfl q) ?_
    show own_Go _ _ _ _ _ _ _ (T45.setTop (mkF m 123 #[.val (.ref o), .val (.ref p1), .val (.ref p2), .val (.int (1 : Int32))] [(.int (1 : Int32)), (.ref za), (.int (1 : Int32)), (.ref va)]))
    have f47 := (((f20.other W23 (Ne.symm ne_va_za)).other W33 (Ne.symm ne_la_za)).other W38 (Ne.symm ne_ua_za))
    refine own_baload X45 hx hZ e45 f47 (i := 1) rfl (by decide) hz_1 (hb hby d7_123) rfl ?_
    show own_Go _ _ _ _ _ _ _ (T45.setTop (mkF m 124 #[.val (.ref o), .val (.ref p1), .val (.ref p2), .val (.int (1 : Int32))] [(.int z1), (.int (1 : Int32)), (.ref va)]))
    have f48 := ((f27.other W33 (Ne.symm ne_la_p1)).other W38 (Ne.symm ne_ua_p1))
    have f49 := (f37.other W38 (Ne.symm ne_ua_p2))
    refine own_via (t' := T45.setTop (mkF m 136 #[.val (.ref o), .val (.ref p1), .val (.ref p2), .val (.int (1 : Int32))] [(.double (own_sel z1 x1 y1)), (.int (1 : Int32)), (.ref va)])) ?_ (fun tail1 => ?_)
    · show own_Go _ _ _ _ _ _ _ (T45.setTop (mkF m 136 #[.val (.ref o), .val (.ref p1), .val (.ref p2), .val (.int (1 : Int32))] [(.double (own_sel z1 x1 y1)), (.int (1 : Int32)), (.ref va)]))
      have f51 := ((A23.other W33 (Ne.symm ne_la_va)).other W38 (Ne.symm ne_ua_va))
      refine own_dastore X45 hx hZ e45 (i := 1) f51 rfl (by decide) (hb hby d7_136) rfl ?_
      intro T50 h50 X50 e50 W50 A50
      have N50 := Fr.snoc X50 N38 g_va
      have Z50 : n0 ≤ h50.size := by rw [W50.size]; exact Z38
      show own_Go _ _ _ _ _ _ _ (T50.setTop (mkF m 137 #[.val (.ref o), .val (.ref p1), .val (.ref p2), .val (.int (1 : Int32))] []))
      refine own_go (fun _ q => XS.iinc X50.here hx rfl (hb hby d7_137) rfl (l' := #[.val (.ref o), .val (.ref p1), .val (.ref p2), .val (.int ((1 : Int32) + (1 : Int32)))]) rfl q) ?_
      show own_Go _ _ _ _ _ _ _ (T50.setTop (mkF m 140 #[.val (.ref o), .val (.ref p1), .val (.ref p2), .val (.int ((1 : Int32) + (1 : Int32)))] []))
      show own_Go _ _ _ _ _ _ _ (T50.setTop (mkF m 140 #[.val (.ref o), .val (.ref p1), .val (.ref p2), .val (.int (2 : Int32))] []))
      refine own_go (fun _ q => XS.goto X50.here hx rfl (pc0 := 140) (pc' := 30) rfl (hb hby d7_140) (by decide) (by decide) q) ?_
      show own_Go _ _ _ _ _ _ _ (T50.setTop (mkF m 30 #[.val (.ref o), .val (.ref p1), .val (.ref p2), .val (.int (2 : Int32))] []))
      refine own_go (fun _ q => XS.iloadN X50.here hx rfl (hb hby d7_30) rfl q) ?_
      show own_Go _ _ _ _ _ _ _ (T50.setTop (mkF m 31 #[.val (.ref o), .val (.ref p1), .val (.ref p2), .val (.int (2 : Int32))] [(.int (2 : Int32))]))
      refine own_go (fun _ q => XS.aloadN X50.here hx rfl (hb hby d7_31) rfl rfl q) ?_
      show own_Go _ _ _ _ _ _ _ (T50.setTop (mkF m 32 #[.val (.ref o), .val (.ref p1), .val (.ref p2), .val (.int (2 : Int32))] [(.ref o), (.int (2 : Int32))]))
      have f53 := (((f26.other W33 (Or.inl (Ne.symm ne_la_o))).other W38 (Or.inl (Ne.symm ne_ua_o))).other W50 (Or.inl (Ne.symm ne_va_o)))
      obtain ⟨T52, X52, e52, st52⟩ := getF X50 hx hZ hown (host := "") (Or.inl (hw _ (List.mem_of_getElem? (i := 48) rfl))) Via.refl e50 f53 (g := (mkF m 32 #[.val (.ref o), .val (.ref p1), .val (.ref p2), .val (.int (2 : Int32))] [(.ref o), (.int (2 : Int32))])) rfl rfl (hb hby d7_32)
      refine own_go st52 ?_
      show own_Go _ _ _ _ _ _ _ (T52.setTop (mkF m 35 #[.val (.ref o), .val (.ref p1), .val (.ref p2), .val (.int (2 : Int32))] [(.int (2 : Int32)), (.int (2 : Int32))]))
      refine own_go (fun _ q => XS.icmpYes X52.here hx rfl (pc0 := 35) (pc' := 143) rfl (hb hby d7_35) rfl (flt (by decide : ¬ ((2 : Int32) < (2 : Int32)))).2.1 (by decide) (by decide) q) ?_
      show own_Go _ _ _ _ _ _ _ (T52.setTop (mkF m 143 #[.val (.ref o), .val (.ref p1), .val (.ref p2), .val (.int (2 : Int32))] []))
      refine own_go (fun _ q => XS.aloadN X52.here hx rfl (hb hby d7_143) rfl rfl q) ?_
      show own_Go _ _ _ _ _ _ _ (T52.setTop (mkF m 144 #[.val (.ref o), .val (.ref p1), .val (.ref p2), .val (.int (2 : Int32))] [(.ref o)]))
      have f55 := ((((((F_rows.other W7 (Or.inl (Ne.symm ne_la_o))).other W11 (Or.inl (Ne.symm ne_ua_o))).other W23 (Or.inl (Ne.symm ne_va_o))).other W33 (Or.inl (Ne.symm ne_la_o))).other W38 (Or.inl (Ne.symm ne_ua_o))).other W50 (Or.inl (Ne.symm ne_va_o)))
      obtain ⟨T54, X54, e54, st54⟩ := getF X52 hx hZ hown (host := "") (Or.inl (hw _ (List.mem_of_getElem? (i := 211) rfl))) Via.refl e52 f55 (g := (mkF m 144 #[.val (.ref o), .val (.ref p1), .val (.ref p2), .val (.int (2 : Int32))] [(.ref o)])) rfl rfl (hb hby d7_144)
      refine own_go st54 ?_
      show own_Go _ _ _ _ _ _ _ (T54.setTop (mkF m 147 #[.val (.ref o), .val (.ref p1), .val (.ref p2), .val (.int (2 : Int32))] [(.int (0 : Int32))]))
      refine own_go (fun _ q => XS.ifYes X54.here hx rfl (pc0 := 147) (pc' := 154) rfl (hb hby d7_147) rfl ((if0 _ _).trans (flt (by decide : ¬ ((0 : Int32) < (0 : Int32)))).2.2.2) (by decide) (by decide) q) ?_
      show own_Go _ _ _ _ _ _ _ (T54.setTop (mkF m 154 #[.val (.ref o), .val (.ref p1), .val (.ref p2), .val (.int (2 : Int32))] []))
      have K : Keep h0 h50 [la, ua, va] := (((((((Keep.refl h0 [la, ua, va]).wr W7 (Or.inl (List.mem_cons_self ..))).wr W11 (Or.inl (List.mem_cons_of_mem _ (List.mem_cons_self ..)))).wr W23 (Or.inl (List.mem_cons_of_mem _ (List.mem_cons_of_mem _ (List.mem_cons_self ..))))).wr W33 (Or.inl (List.mem_cons_self ..))).wr W38 (Or.inl (List.mem_cons_of_mem _ (List.mem_cons_self ..)))).wr W50 (Or.inl (List.mem_cons_of_mem _ (List.mem_cons_of_mem _ (List.mem_cons_self ..)))))
      subst e54
      exact own_retV X54 hx hlk hret (hb hby d7_154) (by decide) (by decide) ⟨rfl, N50, K, A50⟩
    · show own_Go _ _ _ _ _ _ _ (T45.setTop (mkF m 124 #[.val (.ref o), .val (.ref p1), .val (.ref p2), .val (.int (1 : Int32))] [(.int z1), (.int (1 : Int32)), (.ref va)]))
      by_cases hz1 : z1 = (0 : Int32)
      · refine own_go (fun _ q => XS.ifYes X45.here hx rfl (pc0 := 124) (pc' := 133) rfl (hb hby d7_124) rfl ((if0 _ _).trans (teq hz1).1) (by decide) (by decide) q) ?_
        show own_Go _ _ _ _ _ _ _ (T45.setTop (mkF m 133 #[.val (.ref o), .val (.ref p1), .val (.ref p2), .val (.int (1 : Int32))] [(.int (1 : Int32)), (.ref va)]))
        refine own_go (fun _ q => XS.aloadN X45.here hx rfl (hb hby d7_133) rfl rfl q) ?_
        show own_Go _ _ _ _ _ _ _ (T45.setTop (mkF m 134 #[.val (.ref o), .val (.ref p1), .val (.ref p2), .val (.int (1 : Int32))] [(.ref p1), (.int (1 : Int32)), (.ref va)]))
        refine own_go (fun _ q => XS.iloadN X45.here hx rfl (hb hby d7_134) rfl q) ?_
        show own_Go _ _ _ _ _ _ _ (T45.setTop (mkF m 135 #[.val (.ref o), .val (.ref p1), .val (.ref p2), .val (.int (1 : Int32))] [(.int (1 : Int32)), (.ref p1), (.int (1 : Int32)), (.ref va)]))
        refine own_daload X45 hx hZ e45 f48 (i := 1) rfl (by decide) h1_1 (hb hby d7_135) rfl ?_
        show own_Go _ _ _ _ _ _ _ (T45.setTop (mkF m 136 #[.val (.ref o), .val (.ref p1), .val (.ref p2), .val (.int (1 : Int32))] [(.double x1), (.int (1 : Int32)), (.ref va)]))
        exact own_cast (by rw [own_sel0 _ _ hz1]) tail1
      · refine own_go (fun _ q => XS.ifNo X45.here hx rfl (hb hby d7_124) rfl ((if0 _ _).trans (feq hz1).1) q) ?_
        show own_Go _ _ _ _ _ _ _ (T45.setTop (mkF m 127 #[.val (.ref o), .val (.ref p1), .val (.ref p2), .val (.int (1 : Int32))] [(.int (1 : Int32)), (.ref va)]))
        refine own_go (fun _ q => XS.aloadN X45.here hx rfl (hb hby d7_127) rfl rfl q) ?_
        show own_Go _ _ _ _ _ _ _ (T45.setTop (mkF m 128 #[.val (.ref o), .val (.ref p1), .val (.ref p2), .val (.int (1 : Int32))] [(.ref p2), (.int (1 : Int32)), (.ref va)]))
        refine own_go (fun _ q => XS.iloadN X45.here hx rfl (hb hby d7_128) rfl q) ?_
        show own_Go _ _ _ _ _ _ _ (T45.setTop (mkF m 129 #[.val (.ref o), .val (.ref p1), .val (.ref p2), .val (.int (1 : Int32))] [(.int (1 : Int32)), (.ref p2), (.int (1 : Int32)), (.ref va)]))
        refine own_daload X45 hx hZ e45 f49 (i := 1) rfl (by decide) h2_1 (hb hby d7_129) rfl ?_
        show own_Go _ _ _ _ _ _ _ (T45.setTop (mkF m 130 #[.val (.ref o), .val (.ref p1), .val (.ref p2), .val (.int (1 : Int32))] [(.double y1), (.int (1 : Int32)), (.ref va)]))
        refine own_go (fun _ q => XS.goto X45.here hx rfl (pc0 := 130) (pc' := 136) rfl (hb hby d7_130) (by decide) (by decide) q) ?_
        show own_Go _ _ _ _ _ _ _ (T45.setTop (mkF m 136 #[.val (.ref o), .val (.ref p1), .val (.ref p2), .val (.int (1 : Int32))] [(.double y1), (.int (1 : Int32)), (.ref va)]))
        exact own_cast (by rw [own_sel1 _ _ hz1]) tail1
  · show own_Go _ _ _ _ _ _ _ (T18.setTop (mkF m 124 #[.val (.ref o), .val (.ref p1), .val (.ref p2), .val (.int (0 : Int32))] [(.int z0), (.int (0 : Int32)), (.ref va)]))
    by_cases hz0 : z0 = (0 : Int32)
    · refine own_go (fun _ q => XS.ifYes X18.here hx rfl (pc0 := 124) (pc' := 133) rfl (hb hby d7_124) rfl ((if0 _ _).trans (teq hz0).1) (by decide) (by decide) q) ?_
      show own_Go _ _ _ _ _ _ _ (T18.setTop (mkF m 133 #[.val (.ref o), .val (.ref p1), .val (.ref p2), .val (.int (0 : Int32))] [(.int (0 : Int32)), (.ref va)]))
      refine own_go (fun _ q => XS.aloadN X18.here hx rfl (hb hby d7_133) rfl rfl q) ?_
      show own_Go _ _ _ _ _ _ _ (T18.setTop (mkF m 134 #[.val (.ref o), .val (.ref p1), .val (.ref p2), .val (.int (0 : Int32))] [(.ref p1), (.int (0 : Int32)), (.ref va)]))
      refine own_go (fun _ q => XS.iloadN X18.here hx rfl (hb hby d7_134) rfl q) ?_
      show own_Go _ _ _ _ _ _ _ (T18.setTop (mkF m 135 #[.val (.ref o), .val (.ref p1), .val (.ref p2), .val (.int (0 : Int32))] [(.int (0 : Int32)), (.ref p1), (.int (0 : Int32)), (.ref va)]))
      refine own_daload X18 hx hZ e18 f21 (i := 0) rfl (by decide) h1_0 (hb hby d7_135) rfl ?_
      show own_Go _ _ _ _ _ _ _ (T18.setTop (mkF m 136 #[.val (.ref o), .val (.ref p1), .val (.ref p2), .val (.int (0 : Int32))] [(.double x0), (.int (0 : Int32)), (.ref va)]))
      exact own_cast (by rw [own_sel0 _ _ hz0]) tail0
    · refine own_go (fun _ q => XS.ifNo X18.here hx rfl (hb hby d7_124) rfl ((if0 _ _).trans (feq hz0).1) q) ?_
      show own_Go _ _ _ _ _ _ _ (T18.setTop (mkF m 127 #[.val (.ref o), .val (.ref p1), .val (.ref p2), .val (.int (0 : Int32))] [(.int (0 : Int32)), (.ref va)]))
      refine own_go (fun _ q => XS.aloadN X18.here hx rfl (hb hby d7_127) rfl rfl q) ?_
      show own_Go _ _ _ _ _ _ _ (T18.setTop (mkF m 128 #[.val (.ref o), .val (.ref p1), .val (.ref p2), .val (.int (0 : Int32))] [(.ref p2), (.int (0 : Int32)), (.ref va)]))
      refine own_go (fun _ q => XS.iloadN X18.here hx rfl (hb hby d7_128) rfl q) ?_
      show own_Go _ _ _ _ _ _ _ (T18.setTop (mkF m 129 #[.val (.ref o), .val (.ref p1), .val (.ref p2), .val (.int (0 : Int32))] [(.int (0 : Int32)), (.ref p2), (.int (0 : Int32)), (.ref va)]))
      refine own_daload X18 hx hZ e18 f22 (i := 0) rfl (by decide) h2_0 (hb hby d7_129) rfl ?_
      show own_Go _ _ _ _ _ _ _ (T18.setTop (mkF m 130 #[.val (.ref o), .val (.ref p1), .val (.ref p2), .val (.int (0 : Int32))] [(.double y0), (.int (0 : Int32)), (.ref va)]))
      refine own_go (fun _ q => XS.goto X18.here hx rfl (pc0 := 130) (pc' := 136) rfl (hb hby d7_130) (by decide) (by decide) q) ?_
      show own_Go _ _ _ _ _ _ _ (T18.setTop (mkF m 136 #[.val (.ref o), .val (.ref p1), .val (.ref p2), .val (.int (0 : Int32))] [(.double y0), (.int (0 : Int32)), (.ref va)]))
      exact own_cast (by rw [own_sel1 _ _ hz0]) tail0
theorem d1_0 : decode prog_5_method_1_code 0 = .ok (.aload_n 0, 1) := by decide +kernel
theorem d1_1 : decode prog_5_method_1_code 1 = .ok (.invokespecial 1, 3) := by decide +kernel
theorem d1_4 : decode prog_5_method_1_code 4 = .ok (.aload_n 0, 1) := by decide +kernel
theorem d1_5 : decode prog_5_method_1_code 5 = .ok (.iconst 0, 1) := by decide +kernel
theorem d1_6 : decode prog_5_method_1_code 6 = .ok (.anewarray 7, 3) := by decide +kernel
theorem d1_9 : decode prog_5_method_1_code 9 = .ok (.putfield 9, 3) := by decide +kernel
theorem d1_12 : decode prog_5_method_1_code 12 = .ok (.aload_n 0, 1) := by decide +kernel
theorem d1_13 : decode prog_5_method_1_code 13 = .ok (.iconst 0, 1) := by decide +kernel
theorem d1_14 : decode prog_5_method_1_code 14 = .ok (.anewarray 15, 3) := by decide +kernel
theorem d1_17 : decode prog_5_method_1_code 17 = .ok (.putfield 17, 3) := by decide +kernel
theorem d1_20 : decode prog_5_method_1_code 20 = .ok (.aload_n 0, 1) := by decide +kernel
theorem d1_21 : decode prog_5_method_1_code 21 = .ok (.iconst 0, 1) := by decide +kernel
theorem d1_22 : decode prog_5_method_1_code 22 = .ok (.newarray .double, 2) := by decide +kernel
theorem d1_24 : decode prog_5_method_1_code 24 = .ok (.putfield 21, 3) := by decide +kernel
theorem d1_27 : decode prog_5_method_1_code 27 = .ok (.aload_n 0, 1) := by decide +kernel
theorem d1_28 : decode prog_5_method_1_code 28 = .ok (.iconst 0, 1) := by decide +kernel
theorem d1_29 : decode prog_5_method_1_code 29 = .ok (.newarray .double, 2) := by decide +kernel
theorem d1_31 : decode prog_5_method_1_code 31 = .ok (.putfield 24, 3) := by decide +kernel
theorem d1_34 : decode prog_5_method_1_code 34 = .ok (.aload_n 0, 1) := by decide +kernel
theorem d1_35 : decode prog_5_method_1_code 35 = .ok (.iconst 0, 1) := by decide +kernel
theorem d1_36 : decode prog_5_method_1_code 36 = .ok (.newarray .double, 2) := by decide +kernel
theorem d1_38 : decode prog_5_method_1_code 38 = .ok (.putfield 27, 3) := by decide +kernel
theorem d1_41 : decode prog_5_method_1_code 41 = .ok (.aload_n 0, 1) := by decide +kernel
theorem d1_42 : decode prog_5_method_1_code 42 = .ok (.iconst 0, 1) := by decide +kernel
theorem d1_43 : decode prog_5_method_1_code 43 = .ok (.newarray .int, 2) := by decide +kernel
theorem d1_45 : decode prog_5_method_1_code 45 = .ok (.putfield 30, 3) := by decide +kernel
theorem d1_48 : decode prog_5_method_1_code 48 = .ok (.aload_n 0, 1) := by decide +kernel
theorem d1_49 : decode prog_5_method_1_code 49 = .ok (.iconst 1, 1) := by decide +kernel
theorem d1_50 : decode prog_5_method_1_code 50 = .ok (.putfield 33, 3) := by decide +kernel
theorem d1_53 : decode prog_5_method_1_code 53 = .ok (.aload_n 0, 1) := by decide +kernel
theorem d1_54 : decode prog_5_method_1_code 54 = .ok (.iconst 0, 1) := by decide +kernel
theorem d1_55 : decode prog_5_method_1_code 55 = .ok (.newarray .double, 2) := by decide +kernel
theorem d1_57 : decode prog_5_method_1_code 57 = .ok (.putfield 37, 3) := by decide +kernel
theorem d1_60 : decode prog_5_method_1_code 60 = .ok (.aload_n 0, 1) := by decide +kernel
theorem d1_61 : decode prog_5_method_1_code 61 = .ok (.iconst 0, 1) := by decide +kernel
theorem d1_62 : decode prog_5_method_1_code 62 = .ok (.newarray .double, 2) := by decide +kernel
theorem d1_64 : decode prog_5_method_1_code 64 = .ok (.putfield 40, 3) := by decide +kernel
theorem d1_67 : decode prog_5_method_1_code 67 = .ok (.aload_n 0, 1) := by decide +kernel
theorem d1_68 : decode prog_5_method_1_code 68 = .ok (.iconst 0, 1) := by decide +kernel
theorem d1_69 : decode prog_5_method_1_code 69 = .ok (.newarray .double, 2) := by decide +kernel
theorem d1_71 : decode prog_5_method_1_code 71 = .ok (.putfield 43, 3) := by decide +kernel
theorem d1_74 : decode prog_5_method_1_code 74 = .ok (.aload_n 0, 1) := by decide +kernel
theorem d1_75 : decode prog_5_method_1_code 75 = .ok (.iconst 0, 1) := by decide +kernel
theorem d1_76 : decode prog_5_method_1_code 76 = .ok (.newarray .double, 2) := by decide +kernel
theorem d1_78 : decode prog_5_method_1_code 78 = .ok (.putfield 46, 3) := by decide +kernel
theorem d1_81 : decode prog_5_method_1_code 81 = .ok (.aload_n 0, 1) := by decide +kernel
theorem d1_82 : decode prog_5_method_1_code 82 = .ok (.iconst 0, 1) := by decide +kernel
theorem d1_83 : decode prog_5_method_1_code 83 = .ok (.newarray .double, 2) := by decide +kernel
theorem d1_85 : decode prog_5_method_1_code 85 = .ok (.putfield 49, 3) := by decide +kernel
theorem d1_88 : decode prog_5_method_1_code 88 = .ok (.aload_n 0, 1) := by decide +kernel
theorem d1_89 : decode prog_5_method_1_code 89 = .ok (.iconst 0, 1) := by decide +kernel
theorem d1_90 : decode prog_5_method_1_code 90 = .ok (.newarray .int, 2) := by decide +kernel
theorem d1_92 : decode prog_5_method_1_code 92 = .ok (.putfield 52, 3) := by decide +kernel
theorem d1_95 : decode prog_5_method_1_code 95 = .ok (.aload_n 0, 1) := by decide +kernel
theorem d1_96 : decode prog_5_method_1_code 96 = .ok (.iconst 0, 1) := by decide +kernel
theorem d1_97 : decode prog_5_method_1_code 97 = .ok (.newarray .int, 2) := by decide +kernel
theorem d1_99 : decode prog_5_method_1_code 99 = .ok (.putfield 55, 3) := by decide +kernel
theorem d1_102 : decode prog_5_method_1_code 102 = .ok (.aload_n 0, 1) := by decide +kernel
theorem d1_103 : decode prog_5_method_1_code 103 = .ok (.iconst 0, 1) := by decide +kernel
theorem d1_104 : decode prog_5_method_1_code 104 = .ok (.newarray .double, 2) := by decide +kernel
theorem d1_106 : decode prog_5_method_1_code 106 = .ok (.putfield 58, 3) := by decide +kernel
theorem d1_109 : decode prog_5_method_1_code 109 = .ok (.aload_n 0, 1) := by decide +kernel
theorem d1_110 : decode prog_5_method_1_code 110 = .ok (.iconst 0, 1) := by decide +kernel
theorem d1_111 : decode prog_5_method_1_code 111 = .ok (.newarray .double, 2) := by decide +kernel
theorem d1_113 : decode prog_5_method_1_code 113 = .ok (.putfield 61, 3) := by decide +kernel
theorem d1_116 : decode prog_5_method_1_code 116 = .ok (.aload_n 2, 1) := by decide +kernel
theorem d1_117 : decode prog_5_method_1_code 117 = .ok (.arraylength, 1) := by decide +kernel
theorem d1_118 : decode prog_5_method_1_code 118 = .ok (.aload_n 1, 1) := by decide +kernel
theorem d1_119 : decode prog_5_method_1_code 119 = .ok (.arraylength, 1) := by decide +kernel
theorem d1_120 : decode prog_5_method_1_code 120 = .ok (.if_icmp .ne 10, 3) := by decide +kernel
theorem d1_123 : decode prog_5_method_1_code 123 = .ok (.aload_n 3, 1) := by decide +kernel
theorem d1_124 : decode prog_5_method_1_code 124 = .ok (.arraylength, 1) := by decide +kernel
theorem d1_125 : decode prog_5_method_1_code 125 = .ok (.aload_n 1, 1) := by decide +kernel
theorem d1_126 : decode prog_5_method_1_code 126 = .ok (.arraylength, 1) := by decide +kernel
theorem d1_127 : decode prog_5_method_1_code 127 = .ok (.if_icmp .eq 13, 3) := by decide +kernel
theorem d1_140 : decode prog_5_method_1_code 140 = .ok (.aload_n 0, 1) := by decide +kernel
theorem d1_141 : decode prog_5_method_1_code 141 = .ok (.aload_n 1, 1) := by decide +kernel
theorem d1_142 : decode prog_5_method_1_code 142 = .ok (.arraylength, 1) := by decide +kernel
theorem d1_143 : decode prog_5_method_1_code 143 = .ok (.putfield 71, 3) := by decide +kernel
theorem d1_146 : decode prog_5_method_1_code 146 = .ok (.aload_n 0, 1) := by decide +kernel
theorem d1_147 : decode prog_5_method_1_code 147 = .ok (.aload_n 0, 1) := by decide +kernel
theorem d1_148 : decode prog_5_method_1_code 148 = .ok (.getfield 71, 3) := by decide +kernel
theorem d1_151 : decode prog_5_method_1_code 151 = .ok (.newarray .double, 2) := by decide +kernel
theorem d1_153 : decode prog_5_method_1_code 153 = .ok (.putfield 75, 3) := by decide +kernel
theorem d1_156 : decode prog_5_method_1_code 156 = .ok (.aload_n 0, 1) := by decide +kernel
theorem d1_157 : decode prog_5_method_1_code 157 = .ok (.aload_n 0, 1) := by decide +kernel
theorem d1_158 : decode prog_5_method_1_code 158 = .ok (.getfield 71, 3) := by decide +kernel
theorem d1_161 : decode prog_5_method_1_code 161 = .ok (.newarray .double, 2) := by decide +kernel
theorem d1_163 : decode prog_5_method_1_code 163 = .ok (.putfield 78, 3) := by decide +kernel
theorem d1_166 : decode prog_5_method_1_code 166 = .ok (.aload_n 0, 1) := by decide +kernel
theorem d1_167 : decode prog_5_method_1_code 167 = .ok (.aload_n 0, 1) := by decide +kernel
theorem d1_168 : decode prog_5_method_1_code 168 = .ok (.getfield 71, 3) := by decide +kernel
theorem d1_171 : decode prog_5_method_1_code 171 = .ok (.newarray .double, 2) := by decide +kernel
theorem d1_173 : decode prog_5_method_1_code 173 = .ok (.putfield 81, 3) := by decide +kernel
theorem d1_176 : decode prog_5_method_1_code 176 = .ok (.aload_n 0, 1) := by decide +kernel
theorem d1_177 : decode prog_5_method_1_code 177 = .ok (.aload_n 0, 1) := by decide +kernel
theorem d1_178 : decode prog_5_method_1_code 178 = .ok (.getfield 71, 3) := by decide +kernel
theorem d1_181 : decode prog_5_method_1_code 181 = .ok (.newarray .double, 2) := by decide +kernel
theorem d1_183 : decode prog_5_method_1_code 183 = .ok (.putfield 84, 3) := by decide +kernel
theorem d1_186 : decode prog_5_method_1_code 186 = .ok (.aload_n 0, 1) := by decide +kernel
theorem d1_187 : decode prog_5_method_1_code 187 = .ok (.aload_n 0, 1) := by decide +kernel
theorem d1_188 : decode prog_5_method_1_code 188 = .ok (.getfield 71, 3) := by decide +kernel
theorem d1_191 : decode prog_5_method_1_code 191 = .ok (.newarray .boolean, 2) := by decide +kernel
theorem d1_193 : decode prog_5_method_1_code 193 = .ok (.putfield 87, 3) := by decide +kernel
theorem d1_196 : decode prog_5_method_1_code 196 = .ok (.aload_n 0, 1) := by decide +kernel
theorem d1_197 : decode prog_5_method_1_code 197 = .ok (.aload_n 0, 1) := by decide +kernel
theorem d1_198 : decode prog_5_method_1_code 198 = .ok (.getfield 71, 3) := by decide +kernel
theorem d1_201 : decode prog_5_method_1_code 201 = .ok (.newarray .double, 2) := by decide +kernel
theorem d1_203 : decode prog_5_method_1_code 203 = .ok (.putfield 91, 3) := by decide +kernel
theorem d1_206 : decode prog_5_method_1_code 206 = .ok (.aload_n 0, 1) := by decide +kernel
theorem d1_207 : decode prog_5_method_1_code 207 = .ok (.aload_n 0, 1) := by decide +kernel
theorem d1_208 : decode prog_5_method_1_code 208 = .ok (.getfield 71, 3) := by decide +kernel
theorem d1_211 : decode prog_5_method_1_code 211 = .ok (.anewarray 7, 3) := by decide +kernel
theorem d1_214 : decode prog_5_method_1_code 214 = .ok (.putfield 94, 3) := by decide +kernel
theorem d1_217 : decode prog_5_method_1_code 217 = .ok (.aload_n 0, 1) := by decide +kernel
theorem d1_218 : decode prog_5_method_1_code 218 = .ok (.aload_n 0, 1) := by decide +kernel
theorem d1_219 : decode prog_5_method_1_code 219 = .ok (.getfield 71, 3) := by decide +kernel
theorem d1_222 : decode prog_5_method_1_code 222 = .ok (.anewarray 15, 3) := by decide +kernel
theorem d1_225 : decode prog_5_method_1_code 225 = .ok (.putfield 97, 3) := by decide +kernel
theorem d1_228 : decode prog_5_method_1_code 228 = .ok (.aload_n 0, 1) := by decide +kernel
theorem d1_229 : decode prog_5_method_1_code 229 = .ok (.aload_n 0, 1) := by decide +kernel
theorem d1_230 : decode prog_5_method_1_code 230 = .ok (.getfield 71, 3) := by decide +kernel
theorem d1_233 : decode prog_5_method_1_code 233 = .ok (.newarray .int, 2) := by decide +kernel
theorem d1_235 : decode prog_5_method_1_code 235 = .ok (.putfield 100, 3) := by decide +kernel
theorem d1_238 : decode prog_5_method_1_code 238 = .ok (.aload_n 0, 1) := by decide +kernel
theorem d1_239 : decode prog_5_method_1_code 239 = .ok (.aload_n 0, 1) := by decide +kernel
theorem d1_240 : decode prog_5_method_1_code 240 = .ok (.getfield 71, 3) := by decide +kernel
theorem d1_243 : decode prog_5_method_1_code 243 = .ok (.newarray .double, 2) := by decide +kernel
theorem d1_245 : decode prog_5_method_1_code 245 = .ok (.putfield 103, 3) := by decide +kernel
theorem d1_248 : decode prog_5_method_1_code 248 = .ok (.aload_n 0, 1) := by decide +kernel
theorem d1_249 : decode prog_5_method_1_code 249 = .ok (.aload_n 0, 1) := by decide +kernel
theorem d1_250 : decode prog_5_method_1_code 250 = .ok (.getfield 71, 3) := by decide +kernel
theorem d1_253 : decode prog_5_method_1_code 253 = .ok (.newarray .int, 2) := by decide +kernel
theorem d1_255 : decode prog_5_method_1_code 255 = .ok (.putfield 106, 3) := by decide +kernel
theorem d1_258 : decode prog_5_method_1_code 258 = .ok (.aload_n 0, 1) := by decide +kernel
theorem d1_259 : decode prog_5_method_1_code 259 = .ok (.aload_n 0, 1) := by decide +kernel
theorem d1_260 : decode prog_5_method_1_code 260 = .ok (.getfield 71, 3) := by decide +kernel
theorem d1_263 : decode prog_5_method_1_code 263 = .ok (.newarray .int, 2) := by decide +kernel
theorem d1_265 : decode prog_5_method_1_code 265 = .ok (.putfield 109, 3) := by decide +kernel
theorem d1_268 : decode prog_5_method_1_code 268 = .ok (.aload_n 0, 1) := by decide +kernel
theorem d1_269 : decode prog_5_method_1_code 269 = .ok (.aload_n 0, 1) := by decide +kernel
theorem d1_270 : decode prog_5_method_1_code 270 = .ok (.getfield 71, 3) := by decide +kernel
theorem d1_273 : decode prog_5_method_1_code 273 = .ok (.newarray .double, 2) := by decide +kernel
theorem d1_275 : decode prog_5_method_1_code 275 = .ok (.putfield 112, 3) := by decide +kernel
theorem d1_278 : decode prog_5_method_1_code 278 = .ok (.aload_n 0, 1) := by decide +kernel
theorem d1_279 : decode prog_5_method_1_code 279 = .ok (.aload_n 0, 1) := by decide +kernel
theorem d1_280 : decode prog_5_method_1_code 280 = .ok (.getfield 71, 3) := by decide +kernel
theorem d1_283 : decode prog_5_method_1_code 283 = .ok (.newarray .double, 2) := by decide +kernel
theorem d1_285 : decode prog_5_method_1_code 285 = .ok (.putfield 115, 3) := by decide +kernel
theorem d1_288 : decode prog_5_method_1_code 288 = .ok (.aload_n 0, 1) := by decide +kernel
theorem d1_289 : decode prog_5_method_1_code 289 = .ok (.getfield 109, 3) := by decide +kernel
theorem d1_292 : decode prog_5_method_1_code 292 = .ok (.iconst (-1), 1) := by decide +kernel
theorem d1_293 : decode prog_5_method_1_code 293 = .ok (.invokestatic 118, 3) := by decide +kernel
theorem d1_296 : decode prog_5_method_1_code 296 = .ok (.aload_n 0, 1) := by decide +kernel
theorem d1_297 : decode prog_5_method_1_code 297 = .ok (.getfield 112, 3) := by decide +kernel
theorem d1_300 : decode prog_5_method_1_code 300 = .ok (.dconst 1, 1) := by decide +kernel
theorem d1_301 : decode prog_5_method_1_code 301 = .ok (.invokestatic 124, 3) := by decide +kernel
theorem d1_304 : decode prog_5_method_1_code 304 = .ok (.iconst 0, 1) := by decide +kernel
theorem d1_305 : decode prog_5_method_1_code 305 = .ok (.istore 4, 2) := by decide +kernel
theorem d1_307 : decode prog_5_method_1_code 307 = .ok (.iload 4, 2) := by decide +kernel
theorem d1_309 : decode prog_5_method_1_code 309 = .ok (.aload_n 0, 1) := by decide +kernel
theorem d1_310 : decode prog_5_method_1_code 310 = .ok (.getfield 71, 3) := by decide +kernel
theorem d1_313 : decode prog_5_method_1_code 313 = .ok (.if_icmp .ge 79, 3) := by decide +kernel
theorem d1_316 : decode prog_5_method_1_code 316 = .ok (.aload_n 0, 1) := by decide +kernel
theorem d1_317 : decode prog_5_method_1_code 317 = .ok (.getfield 75, 3) := by decide +kernel
theorem d1_320 : decode prog_5_method_1_code 320 = .ok (.iload 4, 2) := by decide +kernel
theorem d1_322 : decode prog_5_method_1_code 322 = .ok (.aload_n 1, 1) := by decide +kernel
theorem d1_323 : decode prog_5_method_1_code 323 = .ok (.iload 4, 2) := by decide +kernel
theorem d1_325 : decode prog_5_method_1_code 325 = .ok (.daload, 1) := by decide +kernel
theorem d1_326 : decode prog_5_method_1_code 326 = .ok (.dneg, 1) := by decide +kernel
theorem d1_327 : decode prog_5_method_1_code 327 = .ok (.dastore, 1) := by decide +kernel
theorem d1_328 : decode prog_5_method_1_code 328 = .ok (.aload_n 0, 1) := by decide +kernel
theorem d1_329 : decode prog_5_method_1_code 329 = .ok (.getfield 91, 3) := by decide +kernel
theorem d1_332 : decode prog_5_method_1_code 332 = .ok (.iload 4, 2) := by decide +kernel
theorem d1_334 : decode prog_5_method_1_code 334 = .ok (.aload_n 0, 1) := by decide +kernel
theorem d1_335 : decode prog_5_method_1_code 335 = .ok (.getfield 75, 3) := by decide +kernel
theorem d1_338 : decode prog_5_method_1_code 338 = .ok (.iload 4, 2) := by decide +kernel
theorem d1_340 : decode prog_5_method_1_code 340 = .ok (.daload, 1) := by decide +kernel
theorem d1_341 : decode prog_5_method_1_code 341 = .ok (.dastore, 1) := by decide +kernel
theorem d1_342 : decode prog_5_method_1_code 342 = .ok (.aload_n 0, 1) := by decide +kernel
theorem d1_343 : decode prog_5_method_1_code 343 = .ok (.getfield 87, 3) := by decide +kernel
theorem d1_346 : decode prog_5_method_1_code 346 = .ok (.iload 4, 2) := by decide +kernel
theorem d1_348 : decode prog_5_method_1_code 348 = .ok (.aload_n 0, 1) := by decide +kernel
theorem d1_349 : decode prog_5_method_1_code 349 = .ok (.getfield 75, 3) := by decide +kernel
theorem d1_352 : decode prog_5_method_1_code 352 = .ok (.iload 4, 2) := by decide +kernel
theorem d1_354 : decode prog_5_method_1_code 354 = .ok (.daload, 1) := by decide +kernel
theorem d1_355 : decode prog_5_method_1_code 355 = .ok (.dconst 0, 1) := by decide +kernel
theorem d1_356 : decode prog_5_method_1_code 356 = .ok (.dcmp .g, 1) := by decide +kernel
theorem d1_357 : decode prog_5_method_1_code 357 = .ok (.ifCond .ge 7, 3) := by decide +kernel
theorem d1_360 : decode prog_5_method_1_code 360 = .ok (.iconst 1, 1) := by decide +kernel
theorem d1_361 : decode prog_5_method_1_code 361 = .ok (.goto 4, 3) := by decide +kernel
theorem d1_364 : decode prog_5_method_1_code 364 = .ok (.iconst 0, 1) := by decide +kernel
theorem d1_365 : decode prog_5_method_1_code 365 = .ok (.bastore, 1) := by decide +kernel
theorem d1_366 : decode prog_5_method_1_code 366 = .ok (.aload_n 0, 1) := by decide +kernel
theorem d1_367 : decode prog_5_method_1_code 367 = .ok (.getfield 94, 3) := by decide +kernel
theorem d1_370 : decode prog_5_method_1_code 370 = .ok (.iload 4, 2) := by decide +kernel
theorem d1_372 : decode prog_5_method_1_code 372 = .ok (.iconst 4, 1) := by decide +kernel
theorem d1_373 : decode prog_5_method_1_code 373 = .ok (.newarray .int, 2) := by decide +kernel
theorem d1_375 : decode prog_5_method_1_code 375 = .ok (.aastore, 1) := by decide +kernel
theorem d1_376 : decode prog_5_method_1_code 376 = .ok (.aload_n 0, 1) := by decide +kernel
theorem d1_377 : decode prog_5_method_1_code 377 = .ok (.getfield 97, 3) := by decide +kernel
theorem d1_380 : decode prog_5_method_1_code 380 = .ok (.iload 4, 2) := by decide +kernel
theorem d1_382 : decode prog_5_method_1_code 382 = .ok (.iconst 4, 1) := by decide +kernel
theorem d1_383 : decode prog_5_method_1_code 383 = .ok (.newarray .double, 2) := by decide +kernel
theorem d1_385 : decode prog_5_method_1_code 385 = .ok (.aastore, 1) := by decide +kernel
theorem d1_386 : decode prog_5_method_1_code 386 = .ok (.iinc 4 1, 3) := by decide +kernel
theorem d1_389 : decode prog_5_method_1_code 389 = .ok (.goto (-82), 3) := by decide +kernel
theorem d1_392 : decode prog_5_method_1_code 392 = .ok (.aload_n 0, 1) := by decide +kernel
theorem d1_393 : decode prog_5_method_1_code 393 = .ok (.new 127, 3) := by decide +kernel
theorem d1_396 : decode prog_5_method_1_code 396 = .ok (.dup, 1) := by decide +kernel
theorem d1_397 : decode prog_5_method_1_code 397 = .ok (.aload_n 0, 1) := by decide +kernel
theorem d1_398 : decode prog_5_method_1_code 398 = .ok (.getfield 71, 3) := by decide +kernel
theorem d1_401 : decode prog_5_method_1_code 401 = .ok (.aload_n 0, 1) := by decide +kernel
theorem d1_402 : decode prog_5_method_1_code 402 = .ok (.getfield 94, 3) := by decide +kernel
theorem d1_405 : decode prog_5_method_1_code 405 = .ok (.aload_n 0, 1) := by decide +kernel
theorem d1_406 : decode prog_5_method_1_code 406 = .ok (.getfield 97, 3) := by decide +kernel
theorem d1_409 : decode prog_5_method_1_code 409 = .ok (.aload_n 0, 1) := by decide +kernel
theorem d1_410 : decode prog_5_method_1_code 410 = .ok (.getfield 100, 3) := by decide +kernel
theorem d1_413 : decode prog_5_method_1_code 413 = .ok (.invokespecial 129, 3) := by decide +kernel
theorem d1_416 : decode prog_5_method_1_code 416 = .ok (.putfield 132, 3) := by decide +kernel
theorem d1_419 : decode prog_5_method_1_code 419 = .ok (.aload_n 0, 1) := by decide +kernel
theorem d1_420 : decode prog_5_method_1_code 420 = .ok (.aload_n 2, 1) := by decide +kernel
theorem d1_421 : decode prog_5_method_1_code 421 = .ok (.aload_n 3, 1) := by decide +kernel
theorem d1_422 : decode prog_5_method_1_code 422 = .ok (.invokevirtual 136, 3) := by decide +kernel
theorem d1_425 : decode prog_5_method_1_code 425 = .ok (.return_, 1) := by decide +kernel
def Q1 (Z : State) (o : Addr) (p0 : Addr) (p1 : Addr) (p2 : Addr) (u0 : UInt64) (u1 : UInt64) (x0 : UInt64) (x1 : UInt64) (y0 : UInt64) (y1 : UInt64) (z0 : Int32) (z1 : Int32) (oc0 : Ordering) (oc1 : Ordering) (o0 : Ordering) (o1 : Ordering) (F0 : Nat → Value) (F1 : Nat → Value) (F2 : Nat → Value) (h0 : Heap) (n0 : Nat) (v : Option Value) (h : Heap) (L : List Loc) : Prop := v = none ∧ Fr n0 L ∧ h0.size ≤ h.size ∧ Exa Z h o "com/example/slotwright/slotwright/BoundedSimplex" ∧ Fld Z h o "com/example/slotwright/slotwright/BoundedSimplex" "columns" "I" (.int 2) ∧ ∃ ca va : Addr, Fld Z h o "com/example/slotwright/slotwright/BoundedSimplex" "cost" "[D" (.ref ca) ∧ Fld Z h o "com/example/slotwright/slotwright/BoundedSimplex" "value" "[D" (.ref va) ∧ (∃ F : Nat → Value, own_Ar Z h ca .double 2 F ∧ F 0 = .double (FP.dneg u0) ∧ F 1 = .double (FP.dneg u1)) ∧ (∃ F : Nat → Value, own_Ar Z h va .double 2 F ∧ F 0 = .double (own_sel z0 x0 y0) ∧ F 1 = .double (own_sel z1 x1 y1))
theorem ef_1 (m : MethodId) (x0 : Addr) (x1 : Addr) (x2 : Addr) (x3 : Addr) : entryFrame m #[(.ref x0), (.ref x1), (.ref x2), (.ref x3)] 5 = mkF m 0 #[.val (.ref x0), .val (.ref x1), .val (.ref x2), .val (.ref x3), .unset] [] := by first | (simp [entryFrame, mkF, argsToLocals, Value.category]; done) | rfl
set_option maxRecDepth 65536 in
set_option maxHeartbeats 40000000 in
theorem rm1 (l : Launch) (Z : State) (a0 : Array Value) (hw : ∀ d ∈ tables_1, d.before a0 Z = true) (ws : List Jvm.Cond) (o : Addr) (p0 : Addr) (p1 : Addr) (p2 : Addr) (u0 : UInt64) (u1 : UInt64) (x0 : UInt64) (x1 : UInt64) (y0 : UInt64) (y1 : UInt64) (z0 : Int32) (z1 : Int32) (oc0 : Ordering) (oc1 : Ordering) (o0 : Ordering) (o1 : Ordering) (F0 : Nat → Value) (F1 : Nat → Value) (F2 : Nat → Value) (h0 : Heap) (n0 : Nat) (Z0 : n0 ≤ h0.size) (Eo : Exa Z h0 o "com/example/slotwright/slotwright/BoundedSimplex") (Po : own_Fs Z a0 h0 o "com/example/slotwright/slotwright/BoundedSimplex") (Fr_ : Fld Z h0 o "com/example/slotwright/slotwright/BoundedSimplex" "rows" "I" (.int 0)) (go : n0 ≤ o) (A_p0 : own_Ar Z h0 p0 .double 2 F0) (n_p0 : p0 ≠ o) (A_p1 : own_Ar Z h0 p1 .double 2 F1) (n_p1 : p1 ≠ o) (A_p2 : own_Ar Z h0 p2 .double 2 F2) (n_p2 : p2 ≠ o) (h0_0 : F0 0 = .double u0) (h1_0 : F1 0 = .double x0) (h2_0 : F2 0 = .double y0) (hoc0 : FP.dcmp (FP.dneg u0) FP.dconst0 = some oc0) (hz0 : (oc0 = .lt ∧ z0 = 1) ∨ (oc0 ≠ .lt ∧ z0 = 0)) (h01_0 : z0 = 0 ∨ z0 = 1) (fx0 : Jvm.FP.Core.DFin x0) (fy0 : Jvm.FP.Core.DFin y0) (hc0 : FP.dcmp x0 y0 = some o0) (hg0 : o0 ≠ .gt) (h0_1 : F0 1 = .double u1) (h1_1 : F1 1 = .double x1) (h2_1 : F2 1 = .double y1) (hoc1 : FP.dcmp (FP.dneg u1) FP.dconst0 = some oc1) (hz1 : (oc1 = .lt ∧ z1 = 1) ∨ (oc1 ≠ .lt ∧ z1 = 0)) (h01_1 : z1 = 0 ∨ z1 = 1) (fx1 : Jvm.FP.Core.DFin x1) (fy1 : Jvm.FP.Core.DFin y1) (hc1 : FP.dcmp x1 y1 = some o1) (hg1 : o1 ≠ .gt) :
    own_Met l Z (⟨"com/example/slotwright/slotwright/BoundedSimplex", "<init>", "([D[D[D)V"⟩ : MethodName) prog_5_method_1_code 5 none ({ frames := 3, cells := 110, slots := 200, locals := 73 } : Room) ws #[(.ref o), (.ref p0), (.ref p1), (.ref p2)] h0 (Q1 Z o p0 p1 p2 u0 u1 x0 x1 y0 y1 z0 z1 oc0 oc1 o0 o1 F0 F1 F2 h0 n0) := by
  refine own_enter (plainFor_of_name (by first | (simp [plainName, overriddenIn]; done) | decide +kernel)) ?_
  intro p e s m below meth c s₁ hx hby hml hown hnm hlk hret hZ X0 e0
  have N0 := Fr.nil n0
  refine own_go (fun _ q => castTop (ef_1 m o p0 p1 p2) q) ?_
  show own_Go _ _ _ _ _ _ _ (s₁.setTop (mkF m 0 #[.val (.ref o), .val (.ref p0), .val (.ref p1), .val (.ref p2), .unset] []))
  refine own_go (fun _ q => XS.aloadN X0.here hx rfl (hb hby d1_0) rfl rfl q) ?_
  show own_Go _ _ _ _ _ _ _ (s₁.setTop (mkF m 1 #[.val (.ref o), .val (.ref p0), .val (.ref p1), .val (.ref p2), .unset] [(.ref o)]))
  obtain ⟨T1, X1, e1, st1⟩ := initO X0 hx hZ hown (hw _ (List.mem_of_getElem? (i := 8) rfl)) (hw _ (List.mem_of_getElem? (i := 9) rfl)) (hw _ (List.mem_of_getElem? (i := 10) rfl)) e0 (g := (mkF m 1 #[.val (.ref o), .val (.ref p0), .val (.ref p1), .val (.ref p2), .unset] [(.ref o)])) rfl (by rw [hml]; rfl) rfl (hb hby d1_1) (by decide) (W := 0) (by show 2 * 0 + _ ≤ _; exact Nat.le_of_eq rfl) (by decide)
  refine own_go st1 ?_
  show own_Go _ _ _ _ _ _ _ (T1.setTop (mkF m 4 #[.val (.ref o), .val (.ref p0), .val (.ref p1), .val (.ref p2), .unset] []))
  refine own_go (fun _ q => XS.aloadN X1.here hx rfl (hb hby d1_4) rfl rfl q) ?_
  show own_Go _ _ _ _ _ _ _ (T1.setTop (mkF m 5 #[.val (.ref o), .val (.ref p0), .val (.ref p1), .val (.ref p2), .unset] [(.ref o)]))
  refine own_go (fun _ q => XS.iconst X1.here hx rfl (hb hby d1_5) q) ?_
  show own_Go _ _ _ _ _ _ _ (T1.setTop (mkF m 6 #[.val (.ref o), .val (.ref p0), .val (.ref p1), .val (.ref p2), .unset] [(.int (0 : Int32)), (.ref o)]))
  obtain ⟨T2, h2, k2, X2, e2, E2, Aw2, Ex2, Ov2, st2⟩ := newRA X1 hx hZ hown (C := "[I") (ty := .int) (by decide) (hw _ (List.mem_of_getElem? (i := 11) rfl)) (hw _ (List.mem_of_getElem? (i := 12) rfl)) e1 (g := (mkF m 6 #[.val (.ref o), .val (.ref p0), .val (.ref p1), .val (.ref p2), .unset] [(.int (0 : Int32)), (.ref o)])) rfl (hb hby d1_6) rfl (by decide) (cap := 0) (by decide) (by decide) (by decide) (by decide) (ad := "[[I") (by decide)
  obtain ⟨b2, g2⟩ : ∃ z, z = h0.size := ⟨_, rfl⟩
  rw [← g2] at Aw2 st2 Ex2
  have G2 : n0 ≤ b2 := Nat.le_trans Z0 (Nat.le_of_eq g2.symm)
  have Z2 : n0 ≤ h2.size := Nat.le_trans Z0 E2.1
  refine own_go st2 ?_
  show own_Go _ _ _ _ _ _ _ (T2.setTop (mkF m 9 #[.val (.ref o), .val (.ref p0), .val (.ref p1), .val (.ref p2), .unset] [(.ref b2), (.ref o)]))
  have f4 := (Po.ext E2)
  obtain ⟨pv3, pf3⟩ := f4 "rowColumns" "[[I" (.array (.array .int)) (Or.inl (hw _ (List.mem_of_getElem? (i := 14) rfl))) (by decide)
  have f5 := (Eo.ext E2)
  obtain ⟨T3, h3, X3, e3, W3, st3⟩ := putF X2 hx hZ hown (host := "") (Or.inl (hw _ (List.mem_of_getElem? (i := 13) rfl))) Via.refl e2 pf3 f5 (Or.inl (hw _ (List.mem_of_getElem? (i := 14) rfl))) (hw _ (List.mem_of_getElem? (i := 3) rfl)) (ty := (.array (.array .int))) (by decide) rfl rfl (g := (mkF m 9 #[.val (.ref o), .val (.ref p0), .val (.ref p1), .val (.ref p2), .unset] [(.ref b2), (.ref o)])) rfl rfl (hb hby d1_9)
  have N3 := Fr.snoc X3 N0 go
  have Fw3 := pf3.same W3
  have Z3 : n0 ≤ h3.size := by rw [W3.size]; exact Z2
  refine own_go st3 ?_
  show own_Go _ _ _ _ _ _ _ (T3.setTop (mkF m 12 #[.val (.ref o), .val (.ref p0), .val (.ref p1), .val (.ref p2), .unset] []))
  refine own_go (fun _ q => XS.aloadN X3.here hx rfl (hb hby d1_12) rfl rfl q) ?_
  show own_Go _ _ _ _ _ _ _ (T3.setTop (mkF m 13 #[.val (.ref o), .val (.ref p0), .val (.ref p1), .val (.ref p2), .unset] [(.ref o)]))
  refine own_go (fun _ q => XS.iconst X3.here hx rfl (hb hby d1_13) q) ?_
  show own_Go _ _ _ _ _ _ _ (T3.setTop (mkF m 14 #[.val (.ref o), .val (.ref p0), .val (.ref p1), .val (.ref p2), .unset] [(.int (0 : Int32)), (.ref o)]))
  obtain ⟨T6, h6, k6, X6, e6, E6, Aw6, Ex6, Ov6, st6⟩ := newRA X3 hx hZ hown (C := "[D") (ty := .double) (by decide) (hw _ (List.mem_of_getElem? (i := 15) rfl)) (hw _ (List.mem_of_getElem? (i := 16) rfl)) e3 (g := (mkF m 14 #[.val (.ref o), .val (.ref p0), .val (.ref p1), .val (.ref p2), .unset] [(.int (0 : Int32)), (.ref o)])) rfl (hb hby d1_14) rfl (by decide) (cap := 0) (by decide) (by decide) (by decide) (by decide) (ad := "[[D") (by decide)
  obtain ⟨b6, g6⟩ : ∃ z, z = h3.size := ⟨_, rfl⟩
  rw [← g6] at Aw6 st6 Ex6
  have G6 : n0 ≤ b6 := Nat.le_trans Z3 (Nat.le_of_eq g6.symm)
  have Z6 : n0 ≤ h6.size := Nat.le_trans Z3 E6.1
  refine own_go st6 ?_
  show own_Go _ _ _ _ _ _ _ (T6.setTop (mkF m 17 #[.val (.ref o), .val (.ref p0), .val (.ref p1), .val (.ref p2), .unset] [(.ref b6), (.ref o)]))
  have f8 := ((f4.wr W3).ext E6)
  obtain ⟨pv7, pf7⟩ := f8 "rowEntries" "[[D" (.array (.array .double)) (Or.inl (hw _ (List.mem_of_getElem? (i := 18) rfl))) (by decide)
  have f9 := ((f5.wr W3).ext E6)
  obtain ⟨T7, h7, X7, e7, W7, st7⟩ := putF X6 hx hZ hown (host := "") (Or.inl (hw _ (List.mem_of_getElem? (i := 17) rfl))) Via.refl e6 pf7 f9 (Or.inl (hw _ (List.mem_of_getElem? (i := 18) rfl))) (hw _ (List.mem_of_getElem? (i := 3) rfl)) (ty := (.array (.array .double))) (by decide) rfl rfl (g := (mkF m 17 #[.val (.ref o), .val (.ref p0), .val (.ref p1), .val (.ref p2), .unset] [(.ref b6), (.ref o)])) rfl rfl (hb hby d1_17)
  have N7 := Fr.snoc X7 N3 go
  have Fw7 := pf7.same W7
  have Z7 : n0 ≤ h7.size := by rw [W7.size]; exact Z6
  refine own_go st7 ?_
  show own_Go _ _ _ _ _ _ _ (T7.setTop (mkF m 20 #[.val (.ref o), .val (.ref p0), .val (.ref p1), .val (.ref p2), .unset] []))
  refine own_go (fun _ q => XS.aloadN X7.here hx rfl (hb hby d1_20) rfl rfl q) ?_
  show own_Go _ _ _ _ _ _ _ (T7.setTop (mkF m 21 #[.val (.ref o), .val (.ref p0), .val (.ref p1), .val (.ref p2), .unset] [(.ref o)]))
  refine own_go (fun _ q => XS.iconst X7.here hx rfl (hb hby d1_21) q) ?_
  show own_Go _ _ _ _ _ _ _ (T7.setTop (mkF m 22 #[.val (.ref o), .val (.ref p0), .val (.ref p1), .val (.ref p2), .unset] [(.int (0 : Int32)), (.ref o)]))
  obtain ⟨T10, h10, k10, X10, e10, E10, Aw10, st10⟩ := newP X7 hx hZ (hw _ (List.mem_of_getElem? (i := 1) rfl)) e7 (g := (mkF m 22 #[.val (.ref o), .val (.ref p0), .val (.ref p1), .val (.ref p2), .unset] [(.int (0 : Int32)), (.ref o)])) rfl (hb hby d1_22) rfl (by decide) (cap := 0) (by decide) (by decide) (by decide) (by decide)
  obtain ⟨b10, g10⟩ : ∃ z, z = h7.size := ⟨_, rfl⟩
  rw [← g10] at Aw10 st10
  have G10 : n0 ≤ b10 := Nat.le_trans Z7 (Nat.le_of_eq g10.symm)
  have Z10 : n0 ≤ h10.size := Nat.le_trans Z7 E10.1
  refine own_go st10 ?_
  show own_Go _ _ _ _ _ _ _ (T10.setTop (mkF m 24 #[.val (.ref o), .val (.ref p0), .val (.ref p1), .val (.ref p2), .unset] [(.ref b10), (.ref o)]))
  have f12 := ((f8.wr W7).ext E10)
  obtain ⟨pv11, pf11⟩ := f12 "rhs" "[D" (.array .double) (Or.inl (hw _ (List.mem_of_getElem? (i := 20) rfl))) (by decide)
  have f13 := ((f9.wr W7).ext E10)
  obtain ⟨T11, h11, X11, e11, W11, st11⟩ := putF X10 hx hZ hown (host := "") (Or.inl (hw _ (List.mem_of_getElem? (i := 19) rfl))) Via.refl e10 pf11 f13 (Or.inl (hw _ (List.mem_of_getElem? (i := 20) rfl))) (hw _ (List.mem_of_getElem? (i := 3) rfl)) (ty := (.array .double)) (by decide) rfl rfl (g := (mkF m 24 #[.val (.ref o), .val (.ref p0), .val (.ref p1), .val (.ref p2), .unset] [(.ref b10), (.ref o)])) rfl rfl (hb hby d1_24)
  have N11 := Fr.snoc X11 N7 go
  have Fw11 := pf11.same W11
  have Z11 : n0 ≤ h11.size := by rw [W11.size]; exact Z10
  refine own_go st11 ?_
  show own_Go _ _ _ _ _ _ _ (T11.setTop (mkF m 27 #[.val (.ref o), .val (.ref p0), .val (.ref p1), .val (.ref p2), .unset] []))
  refine own_go (fun _ q => XS.aloadN X11.here hx rfl (hb hby d1_27) rfl rfl q) ?_
  show own_Go _ _ _ _ _ _ _ (T11.setTop (mkF m 28 #[.val (.ref o), .val (.ref p0), .val (.ref p1), .val (.ref p2), .unset] [(.ref o)]))
  refine own_go (fun _ q => XS.iconst X11.here hx rfl (hb hby d1_28) q) ?_
  show own_Go _ _ _ _ _ _ _ (T11.setTop (mkF m 29 #[.val (.ref o), .val (.ref p0), .val (.ref p1), .val (.ref p2), .unset] [(.int (0 : Int32)), (.ref o)]))
  obtain ⟨T14, h14, k14, X14, e14, E14, Aw14, st14⟩ := newP X11 hx hZ (hw _ (List.mem_of_getElem? (i := 1) rfl)) e11 (g := (mkF m 29 #[.val (.ref o), .val (.ref p0), .val (.ref p1), .val (.ref p2), .unset] [(.int (0 : Int32)), (.ref o)])) rfl (hb hby d1_29) rfl (by decide) (cap := 0) (by decide) (by decide) (by decide) (by decide)
  obtain ⟨b14, g14⟩ : ∃ z, z = h11.size := ⟨_, rfl⟩
  rw [← g14] at Aw14 st14
  have G14 : n0 ≤ b14 := Nat.le_trans Z11 (Nat.le_of_eq g14.symm)
  have Z14 : n0 ≤ h14.size := Nat.le_trans Z11 E14.1
  refine own_go st14 ?_
  show own_Go _ _ _ _ _ _ _ (T14.setTop (mkF m 31 #[.val (.ref o), .val (.ref p0), .val (.ref p1), .val (.ref p2), .unset] [(.ref b14), (.ref o)]))
  have f16 := ((f12.wr W11).ext E14)
  obtain ⟨pv15, pf15⟩ := f16 "slack" "[D" (.array .double) (Or.inl (hw _ (List.mem_of_getElem? (i := 22) rfl))) (by decide)
  have f17 := ((f13.wr W11).ext E14)
  obtain ⟨T15, h15, X15, e15, W15, st15⟩ := putF X14 hx hZ hown (host := "") (Or.inl (hw _ (List.mem_of_getElem? (i := 21) rfl))) Via.refl e14 pf15 f17 (Or.inl (hw _ (List.mem_of_getElem? (i := 22) rfl))) (hw _ (List.mem_of_getElem? (i := 3) rfl)) (ty := (.array .double)) (by decide) rfl rfl (g := (mkF m 31 #[.val (.ref o), .val (.ref p0), .val (.ref p1), .val (.ref p2), .unset] [(.ref b14), (.ref o)])) rfl rfl (hb hby d1_31)
  have N15 := Fr.snoc X15 N11 go
  have Fw15 := pf15.same W15
  have Z15 : n0 ≤ h15.size := by rw [W15.size]; exact Z14
  refine own_go st15 ?_
  show own_Go _ _ _ _ _ _ _ (T15.setTop (mkF m 34 #[.val (.ref o), .val (.ref p0), .val (.ref p1), .val (.ref p2), .unset] []))
  refine own_go (fun _ q => XS.aloadN X15.here hx rfl (hb hby d1_34) rfl rfl q) ?_
  show own_Go _ _ _ _ _ _ _ (T15.setTop (mkF m 35 #[.val (.ref o), .val (.ref p0), .val (.ref p1), .val (.ref p2), .unset] [(.ref o)]))
  refine own_go (fun _ q => XS.iconst X15.here hx rfl (hb hby d1_35) q) ?_
  show own_Go _ _ _ _ _ _ _ (T15.setTop (mkF m 36 #[.val (.ref o), .val (.ref p0), .val (.ref p1), .val (.ref p2), .unset] [(.int (0 : Int32)), (.ref o)]))
  obtain ⟨T18, h18, k18, X18, e18, E18, Aw18, st18⟩ := newP X15 hx hZ (hw _ (List.mem_of_getElem? (i := 1) rfl)) e15 (g := (mkF m 36 #[.val (.ref o), .val (.ref p0), .val (.ref p1), .val (.ref p2), .unset] [(.int (0 : Int32)), (.ref o)])) rfl (hb hby d1_36) rfl (by decide) (cap := 0) (by decide) (by decide) (by decide) (by decide)
  obtain ⟨b18, g18⟩ : ∃ z, z = h15.size := ⟨_, rfl⟩
  rw [← g18] at Aw18 st18
  have G18 : n0 ≤ b18 := Nat.le_trans Z15 (Nat.le_of_eq g18.symm)
  have Z18 : n0 ≤ h18.size := Nat.le_trans Z15 E18.1
  refine own_go st18 ?_
  show own_Go _ _ _ _ _ _ _ (T18.setTop (mkF m 38 #[.val (.ref o), .val (.ref p0), .val (.ref p1), .val (.ref p2), .unset] [(.ref b18), (.ref o)]))
  have f20 := ((f16.wr W15).ext E18)
  obtain ⟨pv19, pf19⟩ := f20 "slackReduced" "[D" (.array .double) (Or.inl (hw _ (List.mem_of_getElem? (i := 24) rfl))) (by decide)
  have f21 := ((f17.wr W15).ext E18)
  obtain ⟨T19, h19, X19, e19, W19, st19⟩ := putF X18 hx hZ hown (host := "") (Or.inl (hw _ (List.mem_of_getElem? (i := 23) rfl))) Via.refl e18 pf19 f21 (Or.inl (hw _ (List.mem_of_getElem? (i := 24) rfl))) (hw _ (List.mem_of_getElem? (i := 3) rfl)) (ty := (.array .double)) (by decide) rfl rfl (g := (mkF m 38 #[.val (.ref o), .val (.ref p0), .val (.ref p1), .val (.ref p2), .unset] [(.ref b18), (.ref o)])) rfl rfl (hb hby d1_38)
  have N19 := Fr.snoc X19 N15 go
  have Fw19 := pf19.same W19
  have Z19 : n0 ≤ h19.size := by rw [W19.size]; exact Z18
  refine own_go st19 ?_
  show own_Go _ _ _ _ _ _ _ (T19.setTop (mkF m 41 #[.val (.ref o), .val (.ref p0), .val (.ref p1), .val (.ref p2), .unset] []))
  refine own_go (fun _ q => XS.aloadN X19.here hx rfl (hb hby d1_41) rfl rfl q) ?_
  show own_Go _ _ _ _ _ _ _ (T19.setTop (mkF m 42 #[.val (.ref o), .val (.ref p0), .val (.ref p1), .val (.ref p2), .unset] [(.ref o)]))
  refine own_go (fun _ q => XS.iconst X19.here hx rfl (hb hby d1_42) q) ?_
  show own_Go _ _ _ _ _ _ _ (T19.setTop (mkF m 43 #[.val (.ref o), .val (.ref p0), .val (.ref p1), .val (.ref p2), .unset] [(.int (0 : Int32)), (.ref o)]))
  obtain ⟨T22, h22, k22, X22, e22, E22, Aw22, st22⟩ := newP X19 hx hZ (hw _ (List.mem_of_getElem? (i := 25) rfl)) e19 (g := (mkF m 43 #[.val (.ref o), .val (.ref p0), .val (.ref p1), .val (.ref p2), .unset] [(.int (0 : Int32)), (.ref o)])) rfl (hb hby d1_43) rfl (by decide) (cap := 0) (by decide) (by decide) (by decide) (by decide)
  obtain ⟨b22, g22⟩ : ∃ z, z = h19.size := ⟨_, rfl⟩
  rw [← g22] at Aw22 st22
  have G22 : n0 ≤ b22 := Nat.le_trans Z19 (Nat.le_of_eq g22.symm)
  have Z22 : n0 ≤ h22.size := Nat.le_trans Z19 E22.1
  refine own_go st22 ?_
  show own_Go _ _ _ _ _ _ _ (T22.setTop (mkF m 45 #[.val (.ref o), .val (.ref p0), .val (.ref p1), .val (.ref p2), .unset] [(.ref b22), (.ref o)]))
  have f24 := ((f20.wr W19).ext E22)
  obtain ⟨pv23, pf23⟩ := f24 "basis" "[I" (.array .int) (Or.inl (hw _ (List.mem_of_getElem? (i := 27) rfl))) (by decide)
  have f25 := ((f21.wr W19).ext E22)
  obtain ⟨T23, h23, X23, e23, W23, st23⟩ := putF X22 hx hZ hown (host := "") (Or.inl (hw _ (List.mem_of_getElem? (i := 26) rfl))) Via.refl e22 pf23 f25 (Or.inl (hw _ (List.mem_of_getElem? (i := 27) rfl))) (hw _ (List.mem_of_getElem? (i := 3) rfl)) (ty := (.array .int)) (by decide) rfl rfl (g := (mkF m 45 #[.val (.ref o), .val (.ref p0), .val (.ref p1), .val (.ref p2), .unset] [(.ref b22), (.ref o)])) rfl rfl (hb hby d1_45)
  have N23 := Fr.snoc X23 N19 go
  have Fw23 := pf23.same W23
  have Z23 : n0 ≤ h23.size := by rw [W23.size]; exact Z22
  refine own_go st23 ?_
  show own_Go _ _ _ _ _ _ _ (T23.setTop (mkF m 48 #[.val (.ref o), .val (.ref p0), .val (.ref p1), .val (.ref p2), .unset] []))
  refine own_go (fun _ q => XS.aloadN X23.here hx rfl (hb hby d1_48) rfl rfl q) ?_
  show own_Go _ _ _ _ _ _ _ (T23.setTop (mkF m 49 #[.val (.ref o), .val (.ref p0), .val (.ref p1), .val (.ref p2), .unset] [(.ref o)]))
  refine own_go (fun _ q => XS.iconst X23.here hx rfl (hb hby d1_49) q) ?_
  show own_Go _ _ _ _ _ _ _ (T23.setTop (mkF m 50 #[.val (.ref o), .val (.ref p0), .val (.ref p1), .val (.ref p2), .unset] [(.int (1 : Int32)), (.ref o)]))
  have f27 := (f24.wr W23)
  obtain ⟨pv26, pf26⟩ := f27 "stale" "Z" .boolean (Or.inl (hw _ (List.mem_of_getElem? (i := 29) rfl))) (by decide)
  have f28 := (f25.wr W23)
  obtain ⟨T26, h26, X26, e26, W26, st26⟩ := putFN X23 hx hZ hown (hw _ (List.mem_of_getElem? (i := 28) rfl)) Via.refl e23 pf26 f28 (Or.inl (hw _ (List.mem_of_getElem? (i := 29) rfl))) (hw _ (List.mem_of_getElem? (i := 3) rfl)) (ty := .boolean) (v' := (.int (1 : Int32))) (by decide) rfl rfl (g := (mkF m 50 #[.val (.ref o), .val (.ref p0), .val (.ref p1), .val (.ref p2), .unset] [(.int (1 : Int32)), (.ref o)])) rfl rfl (hb hby d1_50)
  have N26 := Fr.snoc X26 N23 go
  have Fw26 := pf26.same W26
  have Z26 : n0 ≤ h26.size := by rw [W26.size]; exact Z23
  refine own_go st26 ?_
  show own_Go _ _ _ _ _ _ _ (T26.setTop (mkF m 53 #[.val (.ref o), .val (.ref p0), .val (.ref p1), .val (.ref p2), .unset] []))
  refine own_go (fun _ q => XS.aloadN X26.here hx rfl (hb hby d1_53) rfl rfl q) ?_
  show own_Go _ _ _ _ _ _ _ (T26.setTop (mkF m 54 #[.val (.ref o), .val (.ref p0), .val (.ref p1), .val (.ref p2), .unset] [(.ref o)]))
  refine own_go (fun _ q => XS.iconst X26.here hx rfl (hb hby d1_54) q) ?_
  show own_Go _ _ _ _ _ _ _ (T26.setTop (mkF m 55 #[.val (.ref o), .val (.ref p0), .val (.ref p1), .val (.ref p2), .unset] [(.int (0 : Int32)), (.ref o)]))
  obtain ⟨T29, h29, k29, X29, e29, E29, Aw29, st29⟩ := newP X26 hx hZ (hw _ (List.mem_of_getElem? (i := 1) rfl)) e26 (g := (mkF m 55 #[.val (.ref o), .val (.ref p0), .val (.ref p1), .val (.ref p2), .unset] [(.int (0 : Int32)), (.ref o)])) rfl (hb hby d1_55) rfl (by decide) (cap := 0) (by decide) (by decide) (by decide) (by decide)
  obtain ⟨b29, g29⟩ : ∃ z, z = h26.size := ⟨_, rfl⟩
  rw [← g29] at Aw29 st29
  have G29 : n0 ≤ b29 := Nat.le_trans Z26 (Nat.le_of_eq g29.symm)
  have Z29 : n0 ≤ h29.size := Nat.le_trans Z26 E29.1
  refine own_go st29 ?_
  show own_Go _ _ _ _ _ _ _ (T29.setTop (mkF m 57 #[.val (.ref o), .val (.ref p0), .val (.ref p1), .val (.ref p2), .unset] [(.ref b29), (.ref o)]))
  have f31 := ((f27.wr W26).ext E29)
  obtain ⟨pv30, pf30⟩ := f31 "inverseRow" "[D" (.array .double) (Or.inl (hw _ (List.mem_of_getElem? (i := 31) rfl))) (by decide)
  have f32 := ((f28.wr W26).ext E29)
  obtain ⟨T30, h30, X30, e30, W30, st30⟩ := putF X29 hx hZ hown (host := "") (Or.inl (hw _ (List.mem_of_getElem? (i := 30) rfl))) Via.refl e29 pf30 f32 (Or.inl (hw _ (List.mem_of_getElem? (i := 31) rfl))) (hw _ (List.mem_of_getElem? (i := 3) rfl)) (ty := (.array .double)) (by decide) rfl rfl (g := (mkF m 57 #[.val (.ref o), .val (.ref p0), .val (.ref p1), .val (.ref p2), .unset] [(.ref b29), (.ref o)])) rfl rfl (hb hby d1_57)
  have N30 := Fr.snoc X30 N26 go
  have Fw30 := pf30.same W30
  have Z30 : n0 ≤ h30.size := by rw [W30.size]; exact Z29
  refine own_go st30 ?_
  show own_Go _ _ _ _ _ _ _ (T30.setTop (mkF m 60 #[.val (.ref o), .val (.ref p0), .val (.ref p1), .val (.ref p2), .unset] []))
  refine own_go (fun _ q => XS.aloadN X30.here hx rfl (hb hby d1_60) rfl rfl q) ?_
  show own_Go _ _ _ _ _ _ _ (T30.setTop (mkF m 61 #[.val (.ref o), .val (.ref p0), .val (.ref p1), .val (.ref p2), .unset] [(.ref o)]))
  refine own_go (fun _ q => XS.iconst X30.here hx rfl (hb hby d1_61) q) ?_
  show own_Go _ _ _ _ _ _ _ (T30.setTop (mkF m 62 #[.val (.ref o), .val (.ref p0), .val (.ref p1), .val (.ref p2), .unset] [(.int (0 : Int32)), (.ref o)]))
  obtain ⟨T33, h33, k33, X33, e33, E33, Aw33, st33⟩ := newP X30 hx hZ (hw _ (List.mem_of_getElem? (i := 1) rfl)) e30 (g := (mkF m 62 #[.val (.ref o), .val (.ref p0), .val (.ref p1), .val (.ref p2), .unset] [(.int (0 : Int32)), (.ref o)])) rfl (hb hby d1_62) rfl (by decide) (cap := 0) (by decide) (by decide) (by decide) (by decide)
  obtain ⟨b33, g33⟩ : ∃ z, z = h30.size := ⟨_, rfl⟩
  rw [← g33] at Aw33 st33
  have G33 : n0 ≤ b33 := Nat.le_trans Z30 (Nat.le_of_eq g33.symm)
  have Z33 : n0 ≤ h33.size := Nat.le_trans Z30 E33.1
  refine own_go st33 ?_
  show own_Go _ _ _ _ _ _ _ (T33.setTop (mkF m 64 #[.val (.ref o), .val (.ref p0), .val (.ref p1), .val (.ref p2), .unset] [(.ref b33), (.ref o)]))
  have f35 := ((f31.wr W30).ext E33)
  obtain ⟨pv34, pf34⟩ := f35 "byRow" "[D" (.array .double) (Or.inl (hw _ (List.mem_of_getElem? (i := 33) rfl))) (by decide)
  have f36 := ((f32.wr W30).ext E33)
  obtain ⟨T34, h34, X34, e34, W34, st34⟩ := putF X33 hx hZ hown (host := "") (Or.inl (hw _ (List.mem_of_getElem? (i := 32) rfl))) Via.refl e33 pf34 f36 (Or.inl (hw _ (List.mem_of_getElem? (i := 33) rfl))) (hw _ (List.mem_of_getElem? (i := 3) rfl)) (ty := (.array .double)) (by decide) rfl rfl (g := (mkF m 64 #[.val (.ref o), .val (.ref p0), .val (.ref p1), .val (.ref p2), .unset] [(.ref b33), (.ref o)])) rfl rfl (hb hby d1_64)
  have N34 := Fr.snoc X34 N30 go
  have Fw34 := pf34.same W34
  have Z34 : n0 ≤ h34.size := by rw [W34.size]; exact Z33
  refine own_go st34 ?_
  show own_Go _ _ _ _ _ _ _ (T34.setTop (mkF m 67 #[.val (.ref o), .val (.ref p0), .val (.ref p1), .val (.ref p2), .unset] []))
  refine own_go (fun _ q => XS.aloadN X34.here hx rfl (hb hby d1_67) rfl rfl q) ?_
  show own_Go _ _ _ _ _ _ _ (T34.setTop (mkF m 68 #[.val (.ref o), .val (.ref p0), .val (.ref p1), .val (.ref p2), .unset] [(.ref o)]))
  refine own_go (fun _ q => XS.iconst X34.here hx rfl (hb hby d1_68) q) ?_
  show own_Go _ _ _ _ _ _ _ (T34.setTop (mkF m 69 #[.val (.ref o), .val (.ref p0), .val (.ref p1), .val (.ref p2), .unset] [(.int (0 : Int32)), (.ref o)]))
  obtain ⟨T37, h37, k37, X37, e37, E37, Aw37, st37⟩ := newP X34 hx hZ (hw _ (List.mem_of_getElem? (i := 1) rfl)) e34 (g := (mkF m 69 #[.val (.ref o), .val (.ref p0), .val (.ref p1), .val (.ref p2), .unset] [(.int (0 : Int32)), (.ref o)])) rfl (hb hby d1_69) rfl (by decide) (cap := 0) (by decide) (by decide) (by decide) (by decide)
  obtain ⟨b37, g37⟩ : ∃ z, z = h34.size := ⟨_, rfl⟩
  rw [← g37] at Aw37 st37
  have G37 : n0 ≤ b37 := Nat.le_trans Z34 (Nat.le_of_eq g37.symm)
  have Z37 : n0 ≤ h37.size := Nat.le_trans Z34 E37.1
  refine own_go st37 ?_
  show own_Go _ _ _ _ _ _ _ (T37.setTop (mkF m 71 #[.val (.ref o), .val (.ref p0), .val (.ref p1), .val (.ref p2), .unset] [(.ref b37), (.ref o)]))
  have f39 := ((f35.wr W34).ext E37)
  obtain ⟨pv38, pf38⟩ := f39 "change" "[D" (.array .double) (Or.inl (hw _ (List.mem_of_getElem? (i := 35) rfl))) (by decide)
  have f40 := ((f36.wr W34).ext E37)
  obtain ⟨T38, h38, X38, e38, W38, st38⟩ := putF X37 hx hZ hown (host := "") (Or.inl (hw _ (List.mem_of_getElem? (i := 34) rfl))) Via.refl e37 pf38 f40 (Or.inl (hw _ (List.mem_of_getElem? (i := 35) rfl))) (hw _ (List.mem_of_getElem? (i := 3) rfl)) (ty := (.array .double)) (by decide) rfl rfl (g := (mkF m 71 #[.val (.ref o), .val (.ref p0), .val (.ref p1), .val (.ref p2), .unset] [(.ref b37), (.ref o)])) rfl rfl (hb hby d1_71)
  have N38 := Fr.snoc X38 N34 go
  have Fw38 := pf38.same W38
  have Z38 : n0 ≤ h38.size := by rw [W38.size]; exact Z37
  refine own_go st38 ?_
  show own_Go _ _ _ _ _ _ _ (T38.setTop (mkF m 74 #[.val (.ref o), .val (.ref p0), .val (.ref p1), .val (.ref p2), .unset] []))
  refine own_go (fun _ q => XS.aloadN X38.here hx rfl (hb hby d1_74) rfl rfl q) ?_
  show own_Go _ _ _ _ _ _ _ (T38.setTop (mkF m 75 #[.val (.ref o), .val (.ref p0), .val (.ref p1), .val (.ref p2), .unset] [(.ref o)]))
  refine own_go (fun _ q => XS.iconst X38.here hx rfl (hb hby d1_75) q) ?_
  show own_Go _ _ _ _ _ _ _ (T38.setTop (mkF m 76 #[.val (.ref o), .val (.ref p0), .val (.ref p1), .val (.ref p2), .unset] [(.int (0 : Int32)), (.ref o)]))
  obtain ⟨T41, h41, k41, X41, e41, E41, Aw41, st41⟩ := newP X38 hx hZ (hw _ (List.mem_of_getElem? (i := 1) rfl)) e38 (g := (mkF m 76 #[.val (.ref o), .val (.ref p0), .val (.ref p1), .val (.ref p2), .unset] [(.int (0 : Int32)), (.ref o)])) rfl (hb hby d1_76) rfl (by decide) (cap := 0) (by decide) (by decide) (by decide) (by decide)
  obtain ⟨b41, g41⟩ : ∃ z, z = h38.size := ⟨_, rfl⟩
  rw [← g41] at Aw41 st41
  have G41 : n0 ≤ b41 := Nat.le_trans Z38 (Nat.le_of_eq g41.symm)
  have Z41 : n0 ≤ h41.size := Nat.le_trans Z38 E41.1
  refine own_go st41 ?_
  show own_Go _ _ _ _ _ _ _ (T41.setTop (mkF m 78 #[.val (.ref o), .val (.ref p0), .val (.ref p1), .val (.ref p2), .unset] [(.ref b41), (.ref o)]))
  have f43 := ((f39.wr W38).ext E41)
  obtain ⟨pv42, pf42⟩ := f43 "edgeChange" "[D" (.array .double) (Or.inl (hw _ (List.mem_of_getElem? (i := 37) rfl))) (by decide)
  have f44 := ((f40.wr W38).ext E41)
  obtain ⟨T42, h42, X42, e42, W42, st42⟩ := putF X41 hx hZ hown (host := "") (Or.inl (hw _ (List.mem_of_getElem? (i := 36) rfl))) Via.refl e41 pf42 f44 (Or.inl (hw _ (List.mem_of_getElem? (i := 37) rfl))) (hw _ (List.mem_of_getElem? (i := 3) rfl)) (ty := (.array .double)) (by decide) rfl rfl (g := (mkF m 78 #[.val (.ref o), .val (.ref p0), .val (.ref p1), .val (.ref p2), .unset] [(.ref b41), (.ref o)])) rfl rfl (hb hby d1_78)
  have N42 := Fr.snoc X42 N38 go
  have Fw42 := pf42.same W42
  have Z42 : n0 ≤ h42.size := by rw [W42.size]; exact Z41
  refine own_go st42 ?_
  show own_Go _ _ _ _ _ _ _ (T42.setTop (mkF m 81 #[.val (.ref o), .val (.ref p0), .val (.ref p1), .val (.ref p2), .unset] []))
  refine own_go (fun _ q => XS.aloadN X42.here hx rfl (hb hby d1_81) rfl rfl q) ?_
  show own_Go _ _ _ _ _ _ _ (T42.setTop (mkF m 82 #[.val (.ref o), .val (.ref p0), .val (.ref p1), .val (.ref p2), .unset] [(.ref o)]))
  refine own_go (fun _ q => XS.iconst X42.here hx rfl (hb hby d1_82) q) ?_
  show own_Go _ _ _ _ _ _ _ (T42.setTop (mkF m 83 #[.val (.ref o), .val (.ref p0), .val (.ref p1), .val (.ref p2), .unset] [(.int (0 : Int32)), (.ref o)]))
  obtain ⟨T45, h45, k45, X45, e45, E45, Aw45, st45⟩ := newP X42 hx hZ (hw _ (List.mem_of_getElem? (i := 1) rfl)) e42 (g := (mkF m 83 #[.val (.ref o), .val (.ref p0), .val (.ref p1), .val (.ref p2), .unset] [(.int (0 : Int32)), (.ref o)])) rfl (hb hby d1_83) rfl (by decide) (cap := 0) (by decide) (by decide) (by decide) (by decide)
  obtain ⟨b45, g45⟩ : ∃ z, z = h42.size := ⟨_, rfl⟩
  rw [← g45] at Aw45 st45
  have G45 : n0 ≤ b45 := Nat.le_trans Z42 (Nat.le_of_eq g45.symm)
  have Z45 : n0 ≤ h45.size := Nat.le_trans Z42 E45.1
  refine own_go st45 ?_
  show own_Go _ _ _ _ _ _ _ (T45.setTop (mkF m 85 #[.val (.ref o), .val (.ref p0), .val (.ref p1), .val (.ref p2), .unset] [(.ref b45), (.ref o)]))
  have f47 := ((f43.wr W42).ext E45)
  obtain ⟨pv46, pf46⟩ := f47 "costs" "[D" (.array .double) (Or.inl (hw _ (List.mem_of_getElem? (i := 39) rfl))) (by decide)
  have f48 := ((f44.wr W42).ext E45)
  obtain ⟨T46, h46, X46, e46, W46, st46⟩ := putF X45 hx hZ hown (host := "") (Or.inl (hw _ (List.mem_of_getElem? (i := 38) rfl))) Via.refl e45 pf46 f48 (Or.inl (hw _ (List.mem_of_getElem? (i := 39) rfl))) (hw _ (List.mem_of_getElem? (i := 3) rfl)) (ty := (.array .double)) (by decide) rfl rfl (g := (mkF m 85 #[.val (.ref o), .val (.ref p0), .val (.ref p1), .val (.ref p2), .unset] [(.ref b45), (.ref o)])) rfl rfl (hb hby d1_85)
  have N46 := Fr.snoc X46 N42 go
  have Fw46 := pf46.same W46
  have Z46 : n0 ≤ h46.size := by rw [W46.size]; exact Z45
  refine own_go st46 ?_
  show own_Go _ _ _ _ _ _ _ (T46.setTop (mkF m 88 #[.val (.ref o), .val (.ref p0), .val (.ref p1), .val (.ref p2), .unset] []))
  refine own_go (fun _ q => XS.aloadN X46.here hx rfl (hb hby d1_88) rfl rfl q) ?_
  show own_Go _ _ _ _ _ _ _ (T46.setTop (mkF m 89 #[.val (.ref o), .val (.ref p0), .val (.ref p1), .val (.ref p2), .unset] [(.ref o)]))
  refine own_go (fun _ q => XS.iconst X46.here hx rfl (hb hby d1_89) q) ?_
  show own_Go _ _ _ _ _ _ _ (T46.setTop (mkF m 90 #[.val (.ref o), .val (.ref p0), .val (.ref p1), .val (.ref p2), .unset] [(.int (0 : Int32)), (.ref o)]))
  obtain ⟨T49, h49, k49, X49, e49, E49, Aw49, st49⟩ := newP X46 hx hZ (hw _ (List.mem_of_getElem? (i := 25) rfl)) e46 (g := (mkF m 90 #[.val (.ref o), .val (.ref p0), .val (.ref p1), .val (.ref p2), .unset] [(.int (0 : Int32)), (.ref o)])) rfl (hb hby d1_90) rfl (by decide) (cap := 0) (by decide) (by decide) (by decide) (by decide)
  obtain ⟨b49, g49⟩ : ∃ z, z = h46.size := ⟨_, rfl⟩
  rw [← g49] at Aw49 st49
  have G49 : n0 ≤ b49 := Nat.le_trans Z46 (Nat.le_of_eq g49.symm)
  have Z49 : n0 ≤ h49.size := Nat.le_trans Z46 E49.1
  refine own_go st49 ?_
  show own_Go _ _ _ _ _ _ _ (T49.setTop (mkF m 92 #[.val (.ref o), .val (.ref p0), .val (.ref p1), .val (.ref p2), .unset] [(.ref b49), (.ref o)]))
  have f51 := ((f47.wr W46).ext E49)
  obtain ⟨pv50, pf50⟩ := f51 "candidates" "[I" (.array .int) (Or.inl (hw _ (List.mem_of_getElem? (i := 41) rfl))) (by decide)
  have f52 := ((f48.wr W46).ext E49)
  obtain ⟨T50, h50, X50, e50, W50, st50⟩ := putF X49 hx hZ hown (host := "") (Or.inl (hw _ (List.mem_of_getElem? (i := 40) rfl))) Via.refl e49 pf50 f52 (Or.inl (hw _ (List.mem_of_getElem? (i := 41) rfl))) (hw _ (List.mem_of_getElem? (i := 3) rfl)) (ty := (.array .int)) (by decide) rfl rfl (g := (mkF m 92 #[.val (.ref o), .val (.ref p0), .val (.ref p1), .val (.ref p2), .unset] [(.ref b49), (.ref o)])) rfl rfl (hb hby d1_92)
  have N50 := Fr.snoc X50 N46 go
  have Fw50 := pf50.same W50
  have Z50 : n0 ≤ h50.size := by rw [W50.size]; exact Z49
  refine own_go st50 ?_
  show own_Go _ _ _ _ _ _ _ (T50.setTop (mkF m 95 #[.val (.ref o), .val (.ref p0), .val (.ref p1), .val (.ref p2), .unset] []))
  refine own_go (fun _ q => XS.aloadN X50.here hx rfl (hb hby d1_95) rfl rfl q) ?_
  show own_Go _ _ _ _ _ _ _ (T50.setTop (mkF m 96 #[.val (.ref o), .val (.ref p0), .val (.ref p1), .val (.ref p2), .unset] [(.ref o)]))
  refine own_go (fun _ q => XS.iconst X50.here hx rfl (hb hby d1_96) q) ?_
  show own_Go _ _ _ _ _ _ _ (T50.setTop (mkF m 97 #[.val (.ref o), .val (.ref p0), .val (.ref p1), .val (.ref p2), .unset] [(.int (0 : Int32)), (.ref o)]))
  obtain ⟨T53, h53, k53, X53, e53, E53, Aw53, st53⟩ := newP X50 hx hZ (hw _ (List.mem_of_getElem? (i := 25) rfl)) e50 (g := (mkF m 97 #[.val (.ref o), .val (.ref p0), .val (.ref p1), .val (.ref p2), .unset] [(.int (0 : Int32)), (.ref o)])) rfl (hb hby d1_97) rfl (by decide) (cap := 0) (by decide) (by decide) (by decide) (by decide)
  obtain ⟨b53, g53⟩ : ∃ z, z = h50.size := ⟨_, rfl⟩
  rw [← g53] at Aw53 st53
  have G53 : n0 ≤ b53 := Nat.le_trans Z50 (Nat.le_of_eq g53.symm)
  have Z53 : n0 ≤ h53.size := Nat.le_trans Z50 E53.1
  refine own_go st53 ?_
  show own_Go _ _ _ _ _ _ _ (T53.setTop (mkF m 99 #[.val (.ref o), .val (.ref p0), .val (.ref p1), .val (.ref p2), .unset] [(.ref b53), (.ref o)]))
  have f55 := ((f51.wr W50).ext E53)
  obtain ⟨pv54, pf54⟩ := f55 "candidateVariable" "[I" (.array .int) (Or.inl (hw _ (List.mem_of_getElem? (i := 43) rfl))) (by decide)
  have f56 := ((f52.wr W50).ext E53)
  obtain ⟨T54, h54, X54, e54, W54, st54⟩ := putF X53 hx hZ hown (host := "") (Or.inl (hw _ (List.mem_of_getElem? (i := 42) rfl))) Via.refl e53 pf54 f56 (Or.inl (hw _ (List.mem_of_getElem? (i := 43) rfl))) (hw _ (List.mem_of_getElem? (i := 3) rfl)) (ty := (.array .int)) (by decide) rfl rfl (g := (mkF m 99 #[.val (.ref o), .val (.ref p0), .val (.ref p1), .val (.ref p2), .unset] [(.ref b53), (.ref o)])) rfl rfl (hb hby d1_99)
  have N54 := Fr.snoc X54 N50 go
  have Fw54 := pf54.same W54
  have Z54 : n0 ≤ h54.size := by rw [W54.size]; exact Z53
  refine own_go st54 ?_
  show own_Go _ _ _ _ _ _ _ (T54.setTop (mkF m 102 #[.val (.ref o), .val (.ref p0), .val (.ref p1), .val (.ref p2), .unset] []))
  refine own_go (fun _ q => XS.aloadN X54.here hx rfl (hb hby d1_102) rfl rfl q) ?_
  show own_Go _ _ _ _ _ _ _ (T54.setTop (mkF m 103 #[.val (.ref o), .val (.ref p0), .val (.ref p1), .val (.ref p2), .unset] [(.ref o)]))
  refine own_go (fun _ q => XS.iconst X54.here hx rfl (hb hby d1_103) q) ?_
  show own_Go _ _ _ _ _ _ _ (T54.setTop (mkF m 104 #[.val (.ref o), .val (.ref p0), .val (.ref p1), .val (.ref p2), .unset] [(.int (0 : Int32)), (.ref o)]))
  obtain ⟨T57, h57, k57, X57, e57, E57, Aw57, st57⟩ := newP X54 hx hZ (hw _ (List.mem_of_getElem? (i := 1) rfl)) e54 (g := (mkF m 104 #[.val (.ref o), .val (.ref p0), .val (.ref p1), .val (.ref p2), .unset] [(.int (0 : Int32)), (.ref o)])) rfl (hb hby d1_104) rfl (by decide) (cap := 0) (by decide) (by decide) (by decide) (by decide)
  obtain ⟨b57, g57⟩ : ∃ z, z = h54.size := ⟨_, rfl⟩
  rw [← g57] at Aw57 st57
  have G57 : n0 ≤ b57 := Nat.le_trans Z54 (Nat.le_of_eq g57.symm)
  have Z57 : n0 ≤ h57.size := Nat.le_trans Z54 E57.1
  refine own_go st57 ?_
  show own_Go _ _ _ _ _ _ _ (T57.setTop (mkF m 106 #[.val (.ref o), .val (.ref p0), .val (.ref p1), .val (.ref p2), .unset] [(.ref b57), (.ref o)]))
  have f59 := ((f55.wr W54).ext E57)
  obtain ⟨pv58, pf58⟩ := f59 "ratios" "[D" (.array .double) (Or.inl (hw _ (List.mem_of_getElem? (i := 45) rfl))) (by decide)
  have f60 := ((f56.wr W54).ext E57)
  obtain ⟨T58, h58, X58, e58, W58, st58⟩ := putF X57 hx hZ hown (host := "") (Or.inl (hw _ (List.mem_of_getElem? (i := 44) rfl))) Via.refl e57 pf58 f60 (Or.inl (hw _ (List.mem_of_getElem? (i := 45) rfl))) (hw _ (List.mem_of_getElem? (i := 3) rfl)) (ty := (.array .double)) (by decide) rfl rfl (g := (mkF m 106 #[.val (.ref o), .val (.ref p0), .val (.ref p1), .val (.ref p2), .unset] [(.ref b57), (.ref o)])) rfl rfl (hb hby d1_106)
  have N58 := Fr.snoc X58 N54 go
  have Fw58 := pf58.same W58
  have Z58 : n0 ≤ h58.size := by rw [W58.size]; exact Z57
  refine own_go st58 ?_
  show own_Go _ _ _ _ _ _ _ (T58.setTop (mkF m 109 #[.val (.ref o), .val (.ref p0), .val (.ref p1), .val (.ref p2), .unset] []))
  refine own_go (fun _ q => XS.aloadN X58.here hx rfl (hb hby d1_109) rfl rfl q) ?_
  show own_Go _ _ _ _ _ _ _ (T58.setTop (mkF m 110 #[.val (.ref o), .val (.ref p0), .val (.ref p1), .val (.ref p2), .unset] [(.ref o)]))
  refine own_go (fun _ q => XS.iconst X58.here hx rfl (hb hby d1_110) q) ?_
  show own_Go _ _ _ _ _ _ _ (T58.setTop (mkF m 111 #[.val (.ref o), .val (.ref p0), .val (.ref p1), .val (.ref p2), .unset] [(.int (0 : Int32)), (.ref o)]))
  obtain ⟨T61, h61, k61, X61, e61, E61, Aw61, st61⟩ := newP X58 hx hZ (hw _ (List.mem_of_getElem? (i := 1) rfl)) e58 (g := (mkF m 111 #[.val (.ref o), .val (.ref p0), .val (.ref p1), .val (.ref p2), .unset] [(.int (0 : Int32)), (.ref o)])) rfl (hb hby d1_111) rfl (by decide) (cap := 0) (by decide) (by decide) (by decide) (by decide)
  obtain ⟨b61, g61⟩ : ∃ z, z = h58.size := ⟨_, rfl⟩
  rw [← g61] at Aw61 st61
  have G61 : n0 ≤ b61 := Nat.le_trans Z58 (Nat.le_of_eq g61.symm)
  have Z61 : n0 ≤ h61.size := Nat.le_trans Z58 E61.1
  refine own_go st61 ?_
  show own_Go _ _ _ _ _ _ _ (T61.setTop (mkF m 113 #[.val (.ref o), .val (.ref p0), .val (.ref p1), .val (.ref p2), .unset] [(.ref b61), (.ref o)]))
  have f63 := ((f59.wr W58).ext E61)
  obtain ⟨pv62, pf62⟩ := f63 "magnitudes" "[D" (.array .double) (Or.inl (hw _ (List.mem_of_getElem? (i := 47) rfl))) (by decide)
  have f64 := ((f60.wr W58).ext E61)
  obtain ⟨T62, h62, X62, e62, W62, st62⟩ := putF X61 hx hZ hown (host := "") (Or.inl (hw _ (List.mem_of_getElem? (i := 46) rfl))) Via.refl e61 pf62 f64 (Or.inl (hw _ (List.mem_of_getElem? (i := 47) rfl))) (hw _ (List.mem_of_getElem? (i := 3) rfl)) (ty := (.array .double)) (by decide) rfl rfl (g := (mkF m 113 #[.val (.ref o), .val (.ref p0), .val (.ref p1), .val (.ref p2), .unset] [(.ref b61), (.ref o)])) rfl rfl (hb hby d1_113)
  have N62 := Fr.snoc X62 N58 go
  have Fw62 := pf62.same W62
  have Z62 : n0 ≤ h62.size := by rw [W62.size]; exact Z61
  refine own_go st62 ?_
  show own_Go _ _ _ _ _ _ _ (T62.setTop (mkF m 116 #[.val (.ref o), .val (.ref p0), .val (.ref p1), .val (.ref p2), .unset] []))
  refine own_go (fun _ q => XS.aloadN X62.here hx rfl (hb hby d1_116) rfl rfl q) ?_
  show own_Go _ _ _ _ _ _ _ (T62.setTop (mkF m 117 #[.val (.ref o), .val (.ref p0), .val (.ref p1), .val (.ref p2), .unset] [(.ref p1)]))
  have f65 := (((((((((((((((((((((((((((((((A_p1.ext E2).other W3 n_p1).ext E6).other W7 n_p1).ext E10).other W11 n_p1).ext E14).other W15 n_p1).ext E18).other W19 n_p1).ext E22).other W23 n_p1).other W26 n_p1).ext E29).other W30 n_p1).ext E33).other W34 n_p1).ext E37).other W38 n_p1).ext E41).other W42 n_p1).ext E45).other W46 n_p1).ext E49).other W50 n_p1).ext E53).other W54 n_p1).ext E57).other W58 n_p1).ext E61).other W62 n_p1)
  refine own_length (z := (2 : Int32)) X62 hx hZ e62 f65 rfl (hb hby d1_117) rfl ?_
  show own_Go _ _ _ _ _ _ _ (T62.setTop (mkF m 118 #[.val (.ref o), .val (.ref p0), .val (.ref p1), .val (.ref p2), .unset] [(.int (2 : Int32))]))
  refine own_go (fun _ q => XS.aloadN X62.here hx rfl (hb hby d1_118) rfl rfl q) ?_
  show own_Go _ _ _ _ _ _ _ (T62.setTop (mkF m 119 #[.val (.ref o), .val (.ref p0), .val (.ref p1), .val (.ref p2), .unset] [(.ref p0), (.int (2 : Int32))]))
  have f66 := (((((((((((((((((((((((((((((((A_p0.ext E2).other W3 n_p0).ext E6).other W7 n_p0).ext E10).other W11 n_p0).ext E14).other W15 n_p0).ext E18).other W19 n_p0).ext E22).other W23 n_p0).other W26 n_p0).ext E29).other W30 n_p0).ext E33).other W34 n_p0).ext E37).other W38 n_p0).ext E41).other W42 n_p0).ext E45).other W46 n_p0).ext E49).other W50 n_p0).ext E53).other W54 n_p0).ext E57).other W58 n_p0).ext E61).other W62 n_p0)
  refine own_length (z := (2 : Int32)) X62 hx hZ e62 f66 rfl (hb hby d1_119) rfl ?_
  show own_Go _ _ _ _ _ _ _ (T62.setTop (mkF m 120 #[.val (.ref o), .val (.ref p0), .val (.ref p1), .val (.ref p2), .unset] [(.int (2 : Int32)), (.int (2 : Int32))]))
  refine own_go (fun _ q => XS.icmpNo X62.here hx rfl (hb hby d1_120) rfl (teq (by decide : (2 : Int32) = (2 : Int32))).2 q) ?_
  show own_Go _ _ _ _ _ _ _ (T62.setTop (mkF m 123 #[.val (.ref o), .val (.ref p0), .val (.ref p1), .val (.ref p2), .unset] []))
  refine own_go (fun _ q => XS.aloadN X62.here hx rfl (hb hby d1_123) rfl rfl q) ?_
  show own_Go _ _ _ _ _ _ _ (T62.setTop (mkF m 124 #[.val (.ref o), .val (.ref p0), .val (.ref p1), .val (.ref p2), .unset] [(.ref p2)]))
  have f67 := (((((((((((((((((((((((((((((((A_p2.ext E2).other W3 n_p2).ext E6).other W7 n_p2).ext E10).other W11 n_p2).ext E14).other W15 n_p2).ext E18).other W19 n_p2).ext E22).other W23 n_p2).other W26 n_p2).ext E29).other W30 n_p2).ext E33).other W34 n_p2).ext E37).other W38 n_p2).ext E41).other W42 n_p2).ext E45).other W46 n_p2).ext E49).other W50 n_p2).ext E53).other W54 n_p2).ext E57).other W58 n_p2).ext E61).other W62 n_p2)
  refine own_length (z := (2 : Int32)) X62 hx hZ e62 f67 rfl (hb hby d1_124) rfl ?_
  show own_Go _ _ _ _ _ _ _ (T62.setTop (mkF m 125 #[.val (.ref o), .val (.ref p0), .val (.ref p1), .val (.ref p2), .unset] [(.int (2 : Int32))]))
  refine own_go (fun _ q => XS.aloadN X62.here hx rfl (hb hby d1_125) rfl rfl q) ?_
  show own_Go _ _ _ _ _ _ _ (T62.setTop (mkF m 126 #[.val (.ref o), .val (.ref p0), .val (.ref p1), .val (.ref p2), .unset] [(.ref p0), (.int (2 : Int32))]))
  refine own_length (z := (2 : Int32)) X62 hx hZ e62 f66 rfl (hb hby d1_126) rfl ?_
  show own_Go _ _ _ _ _ _ _ (T62.setTop (mkF m 127 #[.val (.ref o), .val (.ref p0), .val (.ref p1), .val (.ref p2), .unset] [(.int (2 : Int32)), (.int (2 : Int32))]))
  refine own_go (fun _ q => XS.icmpYes X62.here hx rfl (pc0 := 127) (pc' := 140) rfl (hb hby d1_127) rfl (teq (by decide : (2 : Int32) = (2 : Int32))).1 (by decide) (by decide) q) ?_
  show own_Go _ _ _ _ _ _ _ (T62.setTop (mkF m 140 #[.val (.ref o), .val (.ref p0), .val (.ref p1), .val (.ref p2), .unset] []))
  refine own_go (fun _ q => XS.aloadN X62.here hx rfl (hb hby d1_140) rfl rfl q) ?_
  show own_Go _ _ _ _ _ _ _ (T62.setTop (mkF m 141 #[.val (.ref o), .val (.ref p0), .val (.ref p1), .val (.ref p2), .unset] [(.ref o)]))
  refine own_go (fun _ q => XS.aloadN X62.here hx rfl (hb hby d1_141) rfl rfl q) ?_
  show own_Go _ _ _ _ _ _ _ (T62.setTop (mkF m 142 #[.val (.ref o), .val (.ref p0), .val (.ref p1), .val (.ref p2), .unset] [(.ref p0), (.ref o)]))
  refine own_length (z := (2 : Int32)) X62 hx hZ e62 f66 rfl (hb hby d1_142) rfl ?_
  show own_Go _ _ _ _ _ _ _ (T62.setTop (mkF m 143 #[.val (.ref o), .val (.ref p0), .val (.ref p1), .val (.ref p2), .unset] [(.int (2 : Int32)), (.ref o)]))
  have f69 := (f63.wr W62)
  obtain ⟨pv68, pf68⟩ := f69 "columns" "I" .int (Or.inr (hw _ (List.mem_of_getElem? (i := 49) rfl))) (by decide)
  have f70 := (f64.wr W62)
  obtain ⟨T68, h68, X68, e68, W68, st68⟩ := putF X62 hx hZ hown (host := "") (Or.inl (hw _ (List.mem_of_getElem? (i := 48) rfl))) Via.refl e62 pf68 f70 (Or.inr ⟨(hw _ (List.mem_of_getElem? (i := 49) rfl)), rfl, hnm⟩) (hw _ (List.mem_of_getElem? (i := 3) rfl)) (ty := .int) (by decide) rfl rfl (g := (mkF m 143 #[.val (.ref o), .val (.ref p0), .val (.ref p1), .val (.ref p2), .unset] [(.int (2 : Int32)), (.ref o)])) rfl rfl (hb hby d1_143)
  have N68 := Fr.snoc X68 N62 go
  have Fw68 := pf68.same W68
  have Z68 : n0 ≤ h68.size := by rw [W68.size]; exact Z62
  refine own_go st68 ?_
  show own_Go _ _ _ _ _ _ _ (T68.setTop (mkF m 146 #[.val (.ref o), .val (.ref p0), .val (.ref p1), .val (.ref p2), .unset] []))
  refine own_go (fun _ q => XS.aloadN X68.here hx rfl (hb hby d1_146) rfl rfl q) ?_
  show own_Go _ _ _ _ _ _ _ (T68.setTop (mkF m 147 #[.val (.ref o), .val (.ref p0), .val (.ref p1), .val (.ref p2), .unset] [(.ref o)]))
  refine own_go (fun _ q => XS.aloadN X68.here hx rfl (hb hby d1_147) rfl rfl q) ?_
  show own_Go _ _ _ _ _ _ _ (T68.setTop (mkF m 148 #[.val (.ref o), .val (.ref p0), .val (.ref p1), .val (.ref p2), .unset] [(.ref o), (.ref o)]))
  obtain ⟨T71, X71, e71, st71⟩ := getF X68 hx hZ hown (host := "") (Or.inl (hw _ (List.mem_of_getElem? (i := 48) rfl))) Via.refl e68 Fw68 (g := (mkF m 148 #[.val (.ref o), .val (.ref p0), .val (.ref p1), .val (.ref p2), .unset] [(.ref o), (.ref o)])) rfl rfl (hb hby d1_148)
  refine own_go st71 ?_
  show own_Go _ _ _ _ _ _ _ (T71.setTop (mkF m 151 #[.val (.ref o), .val (.ref p0), .val (.ref p1), .val (.ref p2), .unset] [(.int (2 : Int32)), (.ref o)]))
  obtain ⟨T72, h72, k72, X72, e72, E72, Aw72, st72⟩ := newP X71 hx hZ (hw _ (List.mem_of_getElem? (i := 1) rfl)) e71 (g := (mkF m 151 #[.val (.ref o), .val (.ref p0), .val (.ref p1), .val (.ref p2), .unset] [(.int (2 : Int32)), (.ref o)])) rfl (hb hby d1_151) rfl (by decide) (cap := 2) (by decide) (by decide) (by decide) (by decide)
  obtain ⟨b72, g72⟩ : ∃ z, z = h68.size := ⟨_, rfl⟩
  rw [← g72] at Aw72 st72
  have f73 := (f70.wr W68)
  have nq74 : o ≠ b72 := Nat.ne_of_lt (Nat.lt_of_lt_of_eq (f73).lt g72.symm)
  have f75 := (f66.other W68 n_p0)
  have nq76 : p0 ≠ b72 := Nat.ne_of_lt (Nat.lt_of_lt_of_eq (f75).lt g72.symm)
  have f77 := (f65.other W68 n_p1)
  have nq78 : p1 ≠ b72 := Nat.ne_of_lt (Nat.lt_of_lt_of_eq (f77).lt g72.symm)
  have f79 := (f67.other W68 n_p2)
  have nq80 : p2 ≠ b72 := Nat.ne_of_lt (Nat.lt_of_lt_of_eq (f79).lt g72.symm)
  have A72 := own_Ar.new (nn := 2) Aw72 (by decide) rfl
  have G72 : n0 ≤ b72 := Nat.le_trans Z68 (Nat.le_of_eq g72.symm)
  have Z72 : n0 ≤ h72.size := Nat.le_trans Z68 E72.1
  refine own_go st72 ?_
  show own_Go _ _ _ _ _ _ _ (T72.setTop (mkF m 153 #[.val (.ref o), .val (.ref p0), .val (.ref p1), .val (.ref p2), .unset] [(.ref b72), (.ref o)]))
  have f82 := ((f69.wr W68).ext E72)
  obtain ⟨pv81, pf81⟩ := f82 "cost" "[D" (.array .double) (Or.inr (hw _ (List.mem_of_getElem? (i := 51) rfl))) (by decide)
  have f83 := (f73.ext E72)
  obtain ⟨T81, h81, X81, e81, W81, st81⟩ := putF X72 hx hZ hown (host := "") (Or.inl (hw _ (List.mem_of_getElem? (i := 50) rfl))) Via.refl e72 pf81 f83 (Or.inr ⟨(hw _ (List.mem_of_getElem? (i := 51) rfl)), rfl, hnm⟩) (hw _ (List.mem_of_getElem? (i := 3) rfl)) (ty := (.array .double)) (by decide) rfl rfl (g := (mkF m 153 #[.val (.ref o), .val (.ref p0), .val (.ref p1), .val (.ref p2), .unset] [(.ref b72), (.ref o)])) rfl rfl (hb hby d1_153)
  have N81 := Fr.snoc X81 N68 go
  have Fw81 := pf81.same W81
  have Z81 : n0 ≤ h81.size := by rw [W81.size]; exact Z72
  refine own_go st81 ?_
  show own_Go _ _ _ _ _ _ _ (T81.setTop (mkF m 156 #[.val (.ref o), .val (.ref p0), .val (.ref p1), .val (.ref p2), .unset] []))
  refine own_go (fun _ q => XS.aloadN X81.here hx rfl (hb hby d1_156) rfl rfl q) ?_
  show own_Go _ _ _ _ _ _ _ (T81.setTop (mkF m 157 #[.val (.ref o), .val (.ref p0), .val (.ref p1), .val (.ref p2), .unset] [(.ref o)]))
  refine own_go (fun _ q => XS.aloadN X81.here hx rfl (hb hby d1_157) rfl rfl q) ?_
  show own_Go _ _ _ _ _ _ _ (T81.setTop (mkF m 158 #[.val (.ref o), .val (.ref p0), .val (.ref p1), .val (.ref p2), .unset] [(.ref o), (.ref o)]))
  have f85 := ((Fw68.ext E72).other W81 (Or.inr (slot_ne (Or.inr (hw _ (List.mem_of_getElem? (i := 49) rfl))) (Or.inr (hw _ (List.mem_of_getElem? (i := 51) rfl))) (by decide) (t := .int) (t' := (.array .double)) (by decide) (by decide))))
  obtain ⟨T84, X84, e84, st84⟩ := getF X81 hx hZ hown (host := "") (Or.inl (hw _ (List.mem_of_getElem? (i := 48) rfl))) Via.refl e81 f85 (g := (mkF m 158 #[.val (.ref o), .val (.ref p0), .val (.ref p1), .val (.ref p2), .unset] [(.ref o), (.ref o)])) rfl rfl (hb hby d1_158)
  refine own_go st84 ?_
  show own_Go _ _ _ _ _ _ _ (T84.setTop (mkF m 161 #[.val (.ref o), .val (.ref p0), .val (.ref p1), .val (.ref p2), .unset] [(.int (2 : Int32)), (.ref o)]))
  obtain ⟨T86, h86, k86, X86, e86, E86, Aw86, st86⟩ := newP X84 hx hZ (hw _ (List.mem_of_getElem? (i := 1) rfl)) e84 (g := (mkF m 161 #[.val (.ref o), .val (.ref p0), .val (.ref p1), .val (.ref p2), .unset] [(.int (2 : Int32)), (.ref o)])) rfl (hb hby d1_161) rfl (by decide) (cap := 2) (by decide) (by decide) (by decide) (by decide)
  obtain ⟨b86, g86⟩ : ∃ z, z = h81.size := ⟨_, rfl⟩
  rw [← g86] at Aw86 st86
  have f87 := (A72.other W81 (Ne.symm nq74))
  have nq88 : b72 ≠ b86 := Nat.ne_of_lt (Nat.lt_of_lt_of_eq (f87).lt g86.symm)
  have f89 := (f83.wr W81)
  have nq90 : o ≠ b86 := Nat.ne_of_lt (Nat.lt_of_lt_of_eq (f89).lt g86.symm)
  have f91 := ((f75.ext E72).other W81 n_p0)
  have nq92 : p0 ≠ b86 := Nat.ne_of_lt (Nat.lt_of_lt_of_eq (f91).lt g86.symm)
  have f93 := ((f77.ext E72).other W81 n_p1)
  have nq94 : p1 ≠ b86 := Nat.ne_of_lt (Nat.lt_of_lt_of_eq (f93).lt g86.symm)
  have f95 := ((f79.ext E72).other W81 n_p2)
  have nq96 : p2 ≠ b86 := Nat.ne_of_lt (Nat.lt_of_lt_of_eq (f95).lt g86.symm)
  have A86 := own_Ar.new (nn := 2) Aw86 (by decide) rfl
  have G86 : n0 ≤ b86 := Nat.le_trans Z81 (Nat.le_of_eq g86.symm)
  have Z86 : n0 ≤ h86.size := Nat.le_trans Z81 E86.1
  refine own_go st86 ?_
  show own_Go _ _ _ _ _ _ _ (T86.setTop (mkF m 163 #[.val (.ref o), .val (.ref p0), .val (.ref p1), .val (.ref p2), .unset] [(.ref b86), (.ref o)]))
  have f98 := ((f82.wr W81).ext E86)
  obtain ⟨pv97, pf97⟩ := f98 "lower" "[D" (.array .double) (Or.inr (hw _ (List.mem_of_getElem? (i := 53) rfl))) (by decide)
  have f99 := (f89.ext E86)
  obtain ⟨T97, h97, X97, e97, W97, st97⟩ := putF X86 hx hZ hown (host := "") (Or.inl (hw _ (List.mem_of_getElem? (i := 52) rfl))) Via.refl e86 pf97 f99 (Or.inr ⟨(hw _ (List.mem_of_getElem? (i := 53) rfl)), rfl, hnm⟩) (hw _ (List.mem_of_getElem? (i := 3) rfl)) (ty := (.array .double)) (by decide) rfl rfl (g := (mkF m 163 #[.val (.ref o), .val (.ref p0), .val (.ref p1), .val (.ref p2), .unset] [(.ref b86), (.ref o)])) rfl rfl (hb hby d1_163)
  have N97 := Fr.snoc X97 N81 go
  have Fw97 := pf97.same W97
  have Z97 : n0 ≤ h97.size := by rw [W97.size]; exact Z86
  refine own_go st97 ?_
  show own_Go _ _ _ _ _ _ _ (T97.setTop (mkF m 166 #[.val (.ref o), .val (.ref p0), .val (.ref p1), .val (.ref p2), .unset] []))
  refine own_go (fun _ q => XS.aloadN X97.here hx rfl (hb hby d1_166) rfl rfl q) ?_
  show own_Go _ _ _ _ _ _ _ (T97.setTop (mkF m 167 #[.val (.ref o), .val (.ref p0), .val (.ref p1), .val (.ref p2), .unset] [(.ref o)]))
  refine own_go (fun _ q => XS.aloadN X97.here hx rfl (hb hby d1_167) rfl rfl q) ?_
  show own_Go _ _ _ _ _ _ _ (T97.setTop (mkF m 168 #[.val (.ref o), .val (.ref p0), .val (.ref p1), .val (.ref p2), .unset] [(.ref o), (.ref o)]))
  have f101 := ((f85.ext E86).other W97 (Or.inr (slot_ne (Or.inr (hw _ (List.mem_of_getElem? (i := 49) rfl))) (Or.inr (hw _ (List.mem_of_getElem? (i := 53) rfl))) (by decide) (t := .int) (t' := (.array .double)) (by decide) (by decide))))
  obtain ⟨T100, X100, e100, st100⟩ := getF X97 hx hZ hown (host := "") (Or.inl (hw _ (List.mem_of_getElem? (i := 48) rfl))) Via.refl e97 f101 (g := (mkF m 168 #[.val (.ref o), .val (.ref p0), .val (.ref p1), .val (.ref p2), .unset] [(.ref o), (.ref o)])) rfl rfl (hb hby d1_168)
  refine own_go st100 ?_
  show own_Go _ _ _ _ _ _ _ (T100.setTop (mkF m 171 #[.val (.ref o), .val (.ref p0), .val (.ref p1), .val (.ref p2), .unset] [(.int (2 : Int32)), (.ref o)]))
  obtain ⟨T102, h102, k102, X102, e102, E102, Aw102, st102⟩ := newP X100 hx hZ (hw _ (List.mem_of_getElem? (i := 1) rfl)) e100 (g := (mkF m 171 #[.val (.ref o), .val (.ref p0), .val (.ref p1), .val (.ref p2), .unset] [(.int (2 : Int32)), (.ref o)])) rfl (hb hby d1_171) rfl (by decide) (cap := 2) (by decide) (by decide) (by decide) (by decide)
  obtain ⟨b102, g102⟩ : ∃ z, z = h97.size := ⟨_, rfl⟩
  rw [← g102] at Aw102 st102
  have f103 := ((f87.ext E86).other W97 (Ne.symm nq74))
  have nq104 : b72 ≠ b102 := Nat.ne_of_lt (Nat.lt_of_lt_of_eq (f103).lt g102.symm)
  have f105 := (A86.other W97 (Ne.symm nq90))
  have nq106 : b86 ≠ b102 := Nat.ne_of_lt (Nat.lt_of_lt_of_eq (f105).lt g102.symm)
  have f107 := (f99.wr W97)
  have nq108 : o ≠ b102 := Nat.ne_of_lt (Nat.lt_of_lt_of_eq (f107).lt g102.symm)
  have f109 := ((f91.ext E86).other W97 n_p0)
  have nq110 : p0 ≠ b102 := Nat.ne_of_lt (Nat.lt_of_lt_of_eq (f109).lt g102.symm)
  have f111 := ((f93.ext E86).other W97 n_p1)
  have nq112 : p1 ≠ b102 := Nat.ne_of_lt (Nat.lt_of_lt_of_eq (f111).lt g102.symm)
  have f113 := ((f95.ext E86).other W97 n_p2)
  have nq114 : p2 ≠ b102 := Nat.ne_of_lt (Nat.lt_of_lt_of_eq (f113).lt g102.symm)
  have A102 := own_Ar.new (nn := 2) Aw102 (by decide) rfl
  have G102 : n0 ≤ b102 := Nat.le_trans Z97 (Nat.le_of_eq g102.symm)
  have Z102 : n0 ≤ h102.size := Nat.le_trans Z97 E102.1
  refine own_go st102 ?_
  show own_Go _ _ _ _ _ _ _ (T102.setTop (mkF m 173 #[.val (.ref o), .val (.ref p0), .val (.ref p1), .val (.ref p2), .unset] [(.ref b102), (.ref o)]))
  have f116 := ((f98.wr W97).ext E102)
  obtain ⟨pv115, pf115⟩ := f116 "upper" "[D" (.array .double) (Or.inr (hw _ (List.mem_of_getElem? (i := 55) rfl))) (by decide)
  have f117 := (f107.ext E102)
  obtain ⟨T115, h115, X115, e115, W115, st115⟩ := putF X102 hx hZ hown (host := "") (Or.inl (hw _ (List.mem_of_getElem? (i := 54) rfl))) Via.refl e102 pf115 f117 (Or.inr ⟨(hw _ (List.mem_of_getElem? (i := 55) rfl)), rfl, hnm⟩) (hw _ (List.mem_of_getElem? (i := 3) rfl)) (ty := (.array .double)) (by decide) rfl rfl (g := (mkF m 173 #[.val (.ref o), .val (.ref p0), .val (.ref p1), .val (.ref p2), .unset] [(.ref b102), (.ref o)])) rfl rfl (hb hby d1_173)
  have N115 := Fr.snoc X115 N97 go
  have Fw115 := pf115.same W115
  have Z115 : n0 ≤ h115.size := by rw [W115.size]; exact Z102
  refine own_go st115 ?_
  show own_Go _ _ _ _ _ _ _ (T115.setTop (mkF m 176 #[.val (.ref o), .val (.ref p0), .val (.ref p1), .val (.ref p2), .unset] []))
  refine own_go (fun _ q => XS.aloadN X115.here hx rfl (hb hby d1_176) rfl rfl q) ?_
  show own_Go _ _ _ _ _ _ _ (T115.setTop (mkF m 177 #[.val (.ref o), .val (.ref p0), .val (.ref p1), .val (.ref p2), .unset] [(.ref o)]))
  refine own_go (fun _ q => XS.aloadN X115.here hx rfl (hb hby d1_177) rfl rfl q) ?_
  show own_Go _ _ _ _ _ _ _ (T115.setTop (mkF m 178 #[.val (.ref o), .val (.ref p0), .val (.ref p1), .val (.ref p2), .unset] [(.ref o), (.ref o)]))
  have f119 := ((f101.ext E102).other W115 (Or.inr (slot_ne (Or.inr (hw _ (List.mem_of_getElem? (i := 49) rfl))) (Or.inr (hw _ (List.mem_of_getElem? (i := 55) rfl))) (by decide) (t := .int) (t' := (.array .double)) (by decide) (by decide))))
  obtain ⟨T118, X118, e118, st118⟩ := getF X115 hx hZ hown (host := "") (Or.inl (hw _ (List.mem_of_getElem? (i := 48) rfl))) Via.refl e115 f119 (g := (mkF m 178 #[.val (.ref o), .val (.ref p0), .val (.ref p1), .val (.ref p2), .unset] [(.ref o), (.ref o)])) rfl rfl (hb hby d1_178)
  refine own_go st118 ?_
  show own_Go _ _ _ _ _ _ _ (T118.setTop (mkF m 181 #[.val (.ref o), .val (.ref p0), .val (.ref p1), .val (.ref p2), .unset] [(.int (2 : Int32)), (.ref o)]))
  obtain ⟨T120, h120, k120, X120, e120, E120, Aw120, st120⟩ := newP X118 hx hZ (hw _ (List.mem_of_getElem? (i := 1) rfl)) e118 (g := (mkF m 181 #[.val (.ref o), .val (.ref p0), .val (.ref p1), .val (.ref p2), .unset] [(.int (2 : Int32)), (.ref o)])) rfl (hb hby d1_181) rfl (by decide) (cap := 2) (by decide) (by decide) (by decide) (by decide)
  obtain ⟨b120, g120⟩ : ∃ z, z = h115.size := ⟨_, rfl⟩
  rw [← g120] at Aw120 st120
  have f121 := (A102.other W115 (Ne.symm nq108))
  have nq122 : b102 ≠ b120 := Nat.ne_of_lt (Nat.lt_of_lt_of_eq (f121).lt g120.symm)
  have f123 := ((f103.ext E102).other W115 (Ne.symm nq74))
  have nq124 : b72 ≠ b120 := Nat.ne_of_lt (Nat.lt_of_lt_of_eq (f123).lt g120.symm)
  have f125 := ((f105.ext E102).other W115 (Ne.symm nq90))
  have nq126 : b86 ≠ b120 := Nat.ne_of_lt (Nat.lt_of_lt_of_eq (f125).lt g120.symm)
  have f127 := (f117.wr W115)
  have nq128 : o ≠ b120 := Nat.ne_of_lt (Nat.lt_of_lt_of_eq (f127).lt g120.symm)
  have f129 := ((f109.ext E102).other W115 n_p0)
  have nq130 : p0 ≠ b120 := Nat.ne_of_lt (Nat.lt_of_lt_of_eq (f129).lt g120.symm)
  have f131 := ((f111.ext E102).other W115 n_p1)
  have nq132 : p1 ≠ b120 := Nat.ne_of_lt (Nat.lt_of_lt_of_eq (f131).lt g120.symm)
  have f133 := ((f113.ext E102).other W115 n_p2)
  have nq134 : p2 ≠ b120 := Nat.ne_of_lt (Nat.lt_of_lt_of_eq (f133).lt g120.symm)
  have A120 := own_Ar.new (nn := 2) Aw120 (by decide) rfl
  have G120 : n0 ≤ b120 := Nat.le_trans Z115 (Nat.le_of_eq g120.symm)
  have Z120 : n0 ≤ h120.size := Nat.le_trans Z115 E120.1
  refine own_go st120 ?_
  show own_Go _ _ _ _ _ _ _ (T120.setTop (mkF m 183 #[.val (.ref o), .val (.ref p0), .val (.ref p1), .val (.ref p2), .unset] [(.ref b120), (.ref o)]))
  have f136 := ((f116.wr W115).ext E120)
  obtain ⟨pv135, pf135⟩ := f136 "value" "[D" (.array .double) (Or.inr (hw _ (List.mem_of_getElem? (i := 57) rfl))) (by decide)
  have f137 := (f127.ext E120)
  obtain ⟨T135, h135, X135, e135, W135, st135⟩ := putF X120 hx hZ hown (host := "") (Or.inl (hw _ (List.mem_of_getElem? (i := 56) rfl))) Via.refl e120 pf135 f137 (Or.inr ⟨(hw _ (List.mem_of_getElem? (i := 57) rfl)), rfl, hnm⟩) (hw _ (List.mem_of_getElem? (i := 3) rfl)) (ty := (.array .double)) (by decide) rfl rfl (g := (mkF m 183 #[.val (.ref o), .val (.ref p0), .val (.ref p1), .val (.ref p2), .unset] [(.ref b120), (.ref o)])) rfl rfl (hb hby d1_183)
  have N135 := Fr.snoc X135 N115 go
  have Fw135 := pf135.same W135
  have Z135 : n0 ≤ h135.size := by rw [W135.size]; exact Z120
  refine own_go st135 ?_
  show own_Go _ _ _ _ _ _ _ (T135.setTop (mkF m 186 #[.val (.ref o), .val (.ref p0), .val (.ref p1), .val (.ref p2), .unset] []))
  refine own_go (fun _ q => XS.aloadN X135.here hx rfl (hb hby d1_186) rfl rfl q) ?_
  show own_Go _ _ _ _ _ _ _ (T135.setTop (mkF m 187 #[.val (.ref o), .val (.ref p0), .val (.ref p1), .val (.ref p2), .unset] [(.ref o)]))
  refine own_go (fun _ q => XS.aloadN X135.here hx rfl (hb hby d1_187) rfl rfl q) ?_
  show own_Go _ _ _ _ _ _ _ (T135.setTop (mkF m 188 #[.val (.ref o), .val (.ref p0), .val (.ref p1), .val (.ref p2), .unset] [(.ref o), (.ref o)]))
  have f139 := ((f119.ext E120).other W135 (Or.inr (slot_ne (Or.inr (hw _ (List.mem_of_getElem? (i := 49) rfl))) (Or.inr (hw _ (List.mem_of_getElem? (i := 57) rfl))) (by decide) (t := .int) (t' := (.array .double)) (by decide) (by decide))))
  obtain ⟨T138, X138, e138, st138⟩ := getF X135 hx hZ hown (host := "") (Or.inl (hw _ (List.mem_of_getElem? (i := 48) rfl))) Via.refl e135 f139 (g := (mkF m 188 #[.val (.ref o), .val (.ref p0), .val (.ref p1), .val (.ref p2), .unset] [(.ref o), (.ref o)])) rfl rfl (hb hby d1_188)
  refine own_go st138 ?_
  show own_Go _ _ _ _ _ _ _ (T138.setTop (mkF m 191 #[.val (.ref o), .val (.ref p0), .val (.ref p1), .val (.ref p2), .unset] [(.int (2 : Int32)), (.ref o)]))
  obtain ⟨T140, h140, k140, X140, e140, E140, Aw140, st140⟩ := newP X138 hx hZ (hw _ (List.mem_of_getElem? (i := 58) rfl)) e138 (g := (mkF m 191 #[.val (.ref o), .val (.ref p0), .val (.ref p1), .val (.ref p2), .unset] [(.int (2 : Int32)), (.ref o)])) rfl (hb hby d1_191) rfl (by decide) (cap := 2) (by decide) (by decide) (by decide) (by decide)
  obtain ⟨b140, g140⟩ : ∃ z, z = h135.size := ⟨_, rfl⟩
  rw [← g140] at Aw140 st140
  have f141 := ((f121.ext E120).other W135 (Ne.symm nq108))
  have nq142 : b102 ≠ b140 := Nat.ne_of_lt (Nat.lt_of_lt_of_eq (f141).lt g140.symm)
  have f143 := (A120.other W135 (Ne.symm nq128))
  have nq144 : b120 ≠ b140 := Nat.ne_of_lt (Nat.lt_of_lt_of_eq (f143).lt g140.symm)
  have f145 := ((f123.ext E120).other W135 (Ne.symm nq74))
  have nq146 : b72 ≠ b140 := Nat.ne_of_lt (Nat.lt_of_lt_of_eq (f145).lt g140.symm)
  have f147 := ((f125.ext E120).other W135 (Ne.symm nq90))
  have nq148 : b86 ≠ b140 := Nat.ne_of_lt (Nat.lt_of_lt_of_eq (f147).lt g140.symm)
  have f149 := (f137.wr W135)
  have nq150 : o ≠ b140 := Nat.ne_of_lt (Nat.lt_of_lt_of_eq (f149).lt g140.symm)
  have f151 := ((f129.ext E120).other W135 n_p0)
  have nq152 : p0 ≠ b140 := Nat.ne_of_lt (Nat.lt_of_lt_of_eq (f151).lt g140.symm)
  have f153 := ((f131.ext E120).other W135 n_p1)
  have nq154 : p1 ≠ b140 := Nat.ne_of_lt (Nat.lt_of_lt_of_eq (f153).lt g140.symm)
  have f155 := ((f133.ext E120).other W135 n_p2)
  have nq156 : p2 ≠ b140 := Nat.ne_of_lt (Nat.lt_of_lt_of_eq (f155).lt g140.symm)
  have A140 := own_Ar.new (nn := 2) Aw140 (by decide) rfl
  have G140 : n0 ≤ b140 := Nat.le_trans Z135 (Nat.le_of_eq g140.symm)
  have Z140 : n0 ≤ h140.size := Nat.le_trans Z135 E140.1
  refine own_go st140 ?_
  show own_Go _ _ _ _ _ _ _ (T140.setTop (mkF m 193 #[.val (.ref o), .val (.ref p0), .val (.ref p1), .val (.ref p2), .unset] [(.ref b140), (.ref o)]))
  have f158 := ((f136.wr W135).ext E140)
  obtain ⟨pv157, pf157⟩ := f158 "atUpper" "[Z" (.array .boolean) (Or.inr (hw _ (List.mem_of_getElem? (i := 60) rfl))) (by decide)
  have f159 := (f149.ext E140)
  obtain ⟨T157, h157, X157, e157, W157, st157⟩ := putF X140 hx hZ hown (host := "") (Or.inl (hw _ (List.mem_of_getElem? (i := 59) rfl))) Via.refl e140 pf157 f159 (Or.inr ⟨(hw _ (List.mem_of_getElem? (i := 60) rfl)), rfl, hnm⟩) (hw _ (List.mem_of_getElem? (i := 3) rfl)) (ty := (.array .boolean)) (by decide) rfl rfl (g := (mkF m 193 #[.val (.ref o), .val (.ref p0), .val (.ref p1), .val (.ref p2), .unset] [(.ref b140), (.ref o)])) rfl rfl (hb hby d1_193)
  have N157 := Fr.snoc X157 N135 go
  have Fw157 := pf157.same W157
  have Z157 : n0 ≤ h157.size := by rw [W157.size]; exact Z140
  refine own_go st157 ?_
  show own_Go _ _ _ _ _ _ _ (T157.setTop (mkF m 196 #[.val (.ref o), .val (.ref p0), .val (.ref p1), .val (.ref p2), .unset] []))
  refine own_go (fun _ q => XS.aloadN X157.here hx rfl (hb hby d1_196) rfl rfl q) ?_
  show own_Go _ _ _ _ _ _ _ (T157.setTop (mkF m 197 #[.val (.ref o), .val (.ref p0), .val (.ref p1), .val (.ref p2), .unset] [(.ref o)]))
  refine own_go (fun _ q => XS.aloadN X157.here hx rfl (hb hby d1_197) rfl rfl q) ?_
  show own_Go _ _ _ _ _ _ _ (T157.setTop (mkF m 198 #[.val (.ref o), .val (.ref p0), .val (.ref p1), .val (.ref p2), .unset] [(.ref o), (.ref o)]))
  have f161 := ((f139.ext E140).other W157 (Or.inr (slot_ne (Or.inr (hw _ (List.mem_of_getElem? (i := 49) rfl))) (Or.inr (hw _ (List.mem_of_getElem? (i := 60) rfl))) (by decide) (t := .int) (t' := (.array .boolean)) (by decide) (by decide))))
  obtain ⟨T160, X160, e160, st160⟩ := getF X157 hx hZ hown (host := "") (Or.inl (hw _ (List.mem_of_getElem? (i := 48) rfl))) Via.refl e157 f161 (g := (mkF m 198 #[.val (.ref o), .val (.ref p0), .val (.ref p1), .val (.ref p2), .unset] [(.ref o), (.ref o)])) rfl rfl (hb hby d1_198)
  refine own_go st160 ?_
  show own_Go _ _ _ _ _ _ _ (T160.setTop (mkF m 201 #[.val (.ref o), .val (.ref p0), .val (.ref p1), .val (.ref p2), .unset] [(.int (2 : Int32)), (.ref o)]))
  obtain ⟨T162, h162, k162, X162, e162, E162, Aw162, st162⟩ := newP X160 hx hZ (hw _ (List.mem_of_getElem? (i := 1) rfl)) e160 (g := (mkF m 201 #[.val (.ref o), .val (.ref p0), .val (.ref p1), .val (.ref p2), .unset] [(.int (2 : Int32)), (.ref o)])) rfl (hb hby d1_201) rfl (by decide) (cap := 2) (by decide) (by decide) (by decide) (by decide)
  obtain ⟨b162, g162⟩ : ∃ z, z = h157.size := ⟨_, rfl⟩
  rw [← g162] at Aw162 st162
  have f163 := ((f141.ext E140).other W157 (Ne.symm nq108))
  have nq164 : b102 ≠ b162 := Nat.ne_of_lt (Nat.lt_of_lt_of_eq (f163).lt g162.symm)
  have f165 := ((f143.ext E140).other W157 (Ne.symm nq128))
  have nq166 : b120 ≠ b162 := Nat.ne_of_lt (Nat.lt_of_lt_of_eq (f165).lt g162.symm)
  have f167 := (A140.other W157 (Ne.symm nq150))
  have nq168 : b140 ≠ b162 := Nat.ne_of_lt (Nat.lt_of_lt_of_eq (f167).lt g162.symm)
  have f169 := ((f145.ext E140).other W157 (Ne.symm nq74))
  have nq170 : b72 ≠ b162 := Nat.ne_of_lt (Nat.lt_of_lt_of_eq (f169).lt g162.symm)
  have f171 := ((f147.ext E140).other W157 (Ne.symm nq90))
  have nq172 : b86 ≠ b162 := Nat.ne_of_lt (Nat.lt_of_lt_of_eq (f171).lt g162.symm)
  have f173 := (f159.wr W157)
  have nq174 : o ≠ b162 := Nat.ne_of_lt (Nat.lt_of_lt_of_eq (f173).lt g162.symm)
  have f175 := ((f151.ext E140).other W157 n_p0)
  have nq176 : p0 ≠ b162 := Nat.ne_of_lt (Nat.lt_of_lt_of_eq (f175).lt g162.symm)
  have f177 := ((f153.ext E140).other W157 n_p1)
  have nq178 : p1 ≠ b162 := Nat.ne_of_lt (Nat.lt_of_lt_of_eq (f177).lt g162.symm)
  have f179 := ((f155.ext E140).other W157 n_p2)
  have nq180 : p2 ≠ b162 := Nat.ne_of_lt (Nat.lt_of_lt_of_eq (f179).lt g162.symm)
  have A162 := own_Ar.new (nn := 2) Aw162 (by decide) rfl
  have G162 : n0 ≤ b162 := Nat.le_trans Z157 (Nat.le_of_eq g162.symm)
  have Z162 : n0 ≤ h162.size := Nat.le_trans Z157 E162.1
  refine own_go st162 ?_
  show own_Go _ _ _ _ _ _ _ (T162.setTop (mkF m 203 #[.val (.ref o), .val (.ref p0), .val (.ref p1), .val (.ref p2), .unset] [(.ref b162), (.ref o)]))
  have f182 := ((f158.wr W157).ext E162)
  obtain ⟨pv181, pf181⟩ := f182 "reduced" "[D" (.array .double) (Or.inr (hw _ (List.mem_of_getElem? (i := 62) rfl))) (by decide)
  have f183 := (f173.ext E162)
  obtain ⟨T181, h181, X181, e181, W181, st181⟩ := putF X162 hx hZ hown (host := "") (Or.inl (hw _ (List.mem_of_getElem? (i := 61) rfl))) Via.refl e162 pf181 f183 (Or.inr ⟨(hw _ (List.mem_of_getElem? (i := 62) rfl)), rfl, hnm⟩) (hw _ (List.mem_of_getElem? (i := 3) rfl)) (ty := (.array .double)) (by decide) rfl rfl (g := (mkF m 203 #[.val (.ref o), .val (.ref p0), .val (.ref p1), .val (.ref p2), .unset] [(.ref b162), (.ref o)])) rfl rfl (hb hby d1_203)
  have N181 := Fr.snoc X181 N157 go
  have Fw181 := pf181.same W181
  have Z181 : n0 ≤ h181.size := by rw [W181.size]; exact Z162
  refine own_go st181 ?_
  show own_Go _ _ _ _ _ _ _ (T181.setTop (mkF m 206 #[.val (.ref o), .val (.ref p0), .val (.ref p1), .val (.ref p2), .unset] []))
  refine own_go (fun _ q => XS.aloadN X181.here hx rfl (hb hby d1_206) rfl rfl q) ?_
  show own_Go _ _ _ _ _ _ _ (T181.setTop (mkF m 207 #[.val (.ref o), .val (.ref p0), .val (.ref p1), .val (.ref p2), .unset] [(.ref o)]))
  refine own_go (fun _ q => XS.aloadN X181.here hx rfl (hb hby d1_207) rfl rfl q) ?_
  show own_Go _ _ _ _ _ _ _ (T181.setTop (mkF m 208 #[.val (.ref o), .val (.ref p0), .val (.ref p1), .val (.ref p2), .unset] [(.ref o), (.ref o)]))
  have f185 := ((f161.ext E162).other W181 (Or.inr (slot_ne (Or.inr (hw _ (List.mem_of_getElem? (i := 49) rfl))) (Or.inr (hw _ (List.mem_of_getElem? (i := 62) rfl))) (by decide) (t := .int) (t' := (.array .double)) (by decide) (by decide))))
  obtain ⟨T184, X184, e184, st184⟩ := getF X181 hx hZ hown (host := "") (Or.inl (hw _ (List.mem_of_getElem? (i := 48) rfl))) Via.refl e181 f185 (g := (mkF m 208 #[.val (.ref o), .val (.ref p0), .val (.ref p1), .val (.ref p2), .unset] [(.ref o), (.ref o)])) rfl rfl (hb hby d1_208)
  refine own_go st184 ?_
  show own_Go _ _ _ _ _ _ _ (T184.setTop (mkF m 211 #[.val (.ref o), .val (.ref p0), .val (.ref p1), .val (.ref p2), .unset] [(.int (2 : Int32)), (.ref o)]))
  obtain ⟨T186, h186, k186, X186, e186, E186, Aw186, Ex186, Ov186, st186⟩ := newRA X184 hx hZ hown (C := "[I") (ty := .int) (by decide) (hw _ (List.mem_of_getElem? (i := 11) rfl)) (hw _ (List.mem_of_getElem? (i := 12) rfl)) e184 (g := (mkF m 211 #[.val (.ref o), .val (.ref p0), .val (.ref p1), .val (.ref p2), .unset] [(.int (2 : Int32)), (.ref o)])) rfl (hb hby d1_211) rfl (by decide) (cap := 2) (by decide) (by decide) (by decide) (by decide) (ad := "[[I") (by decide)
  obtain ⟨b186, g186⟩ : ∃ z, z = h181.size := ⟨_, rfl⟩
  rw [← g186] at Aw186 st186 Ex186
  have f187 := ((f163.ext E162).other W181 (Ne.symm nq108))
  have nq188 : b102 ≠ b186 := Nat.ne_of_lt (Nat.lt_of_lt_of_eq (f187).lt g186.symm)
  have f189 := ((f165.ext E162).other W181 (Ne.symm nq128))
  have nq190 : b120 ≠ b186 := Nat.ne_of_lt (Nat.lt_of_lt_of_eq (f189).lt g186.symm)
  have f191 := ((f167.ext E162).other W181 (Ne.symm nq150))
  have nq192 : b140 ≠ b186 := Nat.ne_of_lt (Nat.lt_of_lt_of_eq (f191).lt g186.symm)
  have f193 := (A162.other W181 (Ne.symm nq174))
  have nq194 : b162 ≠ b186 := Nat.ne_of_lt (Nat.lt_of_lt_of_eq (f193).lt g186.symm)
  have f195 := ((f169.ext E162).other W181 (Ne.symm nq74))
  have nq196 : b72 ≠ b186 := Nat.ne_of_lt (Nat.lt_of_lt_of_eq (f195).lt g186.symm)
  have f197 := ((f171.ext E162).other W181 (Ne.symm nq90))
  have nq198 : b86 ≠ b186 := Nat.ne_of_lt (Nat.lt_of_lt_of_eq (f197).lt g186.symm)
  have f199 := (f183.wr W181)
  have nq200 : o ≠ b186 := Nat.ne_of_lt (Nat.lt_of_lt_of_eq (f199).lt g186.symm)
  have f201 := ((f175.ext E162).other W181 n_p0)
  have nq202 : p0 ≠ b186 := Nat.ne_of_lt (Nat.lt_of_lt_of_eq (f201).lt g186.symm)
  have f203 := ((f177.ext E162).other W181 n_p1)
  have nq204 : p1 ≠ b186 := Nat.ne_of_lt (Nat.lt_of_lt_of_eq (f203).lt g186.symm)
  have f205 := ((f179.ext E162).other W181 n_p2)
  have nq206 : p2 ≠ b186 := Nat.ne_of_lt (Nat.lt_of_lt_of_eq (f205).lt g186.symm)
  have A186 := own_Ar.new (nn := 2) Aw186 (by decide) rfl
  have St186 : own_St Z h186 b186 "[I" := ⟨_, _, Aw186.1, Ov186⟩
  have G186 : n0 ≤ b186 := Nat.le_trans Z181 (Nat.le_of_eq g186.symm)
  have Z186 : n0 ≤ h186.size := Nat.le_trans Z181 E186.1
  refine own_go st186 ?_
  show own_Go _ _ _ _ _ _ _ (T186.setTop (mkF m 214 #[.val (.ref o), .val (.ref p0), .val (.ref p1), .val (.ref p2), .unset] [(.ref b186), (.ref o)]))
  have f208 := ((f182.wr W181).ext E186)
  obtain ⟨pv207, pf207⟩ := f208 "columnRows" "[[I" (.array (.array .int)) (Or.inr (hw _ (List.mem_of_getElem? (i := 64) rfl))) (by decide)
  have f209 := (f199.ext E186)
  obtain ⟨T207, h207, X207, e207, W207, st207⟩ := putF X186 hx hZ hown (host := "") (Or.inl (hw _ (List.mem_of_getElem? (i := 63) rfl))) Via.refl e186 pf207 f209 (Or.inr ⟨(hw _ (List.mem_of_getElem? (i := 64) rfl)), rfl, hnm⟩) (hw _ (List.mem_of_getElem? (i := 3) rfl)) (ty := (.array (.array .int))) (by decide) rfl rfl (g := (mkF m 214 #[.val (.ref o), .val (.ref p0), .val (.ref p1), .val (.ref p2), .unset] [(.ref b186), (.ref o)])) rfl rfl (hb hby d1_214)
  have N207 := Fr.snoc X207 N181 go
  have Fw207 := pf207.same W207
  have Z207 : n0 ≤ h207.size := by rw [W207.size]; exact Z186
  refine own_go st207 ?_
  show own_Go _ _ _ _ _ _ _ (T207.setTop (mkF m 217 #[.val (.ref o), .val (.ref p0), .val (.ref p1), .val (.ref p2), .unset] []))
  refine own_go (fun _ q => XS.aloadN X207.here hx rfl (hb hby d1_217) rfl rfl q) ?_
  show own_Go _ _ _ _ _ _ _ (T207.setTop (mkF m 218 #[.val (.ref o), .val (.ref p0), .val (.ref p1), .val (.ref p2), .unset] [(.ref o)]))
  refine own_go (fun _ q => XS.aloadN X207.here hx rfl (hb hby d1_218) rfl rfl q) ?_
  show own_Go _ _ _ _ _ _ _ (T207.setTop (mkF m 219 #[.val (.ref o), .val (.ref p0), .val (.ref p1), .val (.ref p2), .unset] [(.ref o), (.ref o)]))
  have f211 := ((f185.ext E186).other W207 (Or.inr (slot_ne (Or.inr (hw _ (List.mem_of_getElem? (i := 49) rfl))) (Or.inr (hw _ (List.mem_of_getElem? (i := 64) rfl))) (by decide) (t := .int) (t' := (.array (.array .int))) (by decide) (by decide))))
  obtain ⟨T210, X210, e210, st210⟩ := getF X207 hx hZ hown (host := "") (Or.inl (hw _ (List.mem_of_getElem? (i := 48) rfl))) Via.refl e207 f211 (g := (mkF m 219 #[.val (.ref o), .val (.ref p0), .val (.ref p1), .val (.ref p2), .unset] [(.ref o), (.ref o)])) rfl rfl (hb hby d1_219)
  refine own_go st210 ?_
  show own_Go _ _ _ _ _ _ _ (T210.setTop (mkF m 222 #[.val (.ref o), .val (.ref p0), .val (.ref p1), .val (.ref p2), .unset] [(.int (2 : Int32)), (.ref o)]))
  obtain ⟨T212, h212, k212, X212, e212, E212, Aw212, Ex212, Ov212, st212⟩ := newRA X210 hx hZ hown (C := "[D") (ty := .double) (by decide) (hw _ (List.mem_of_getElem? (i := 15) rfl)) (hw _ (List.mem_of_getElem? (i := 16) rfl)) e210 (g := (mkF m 222 #[.val (.ref o), .val (.ref p0), .val (.ref p1), .val (.ref p2), .unset] [(.int (2 : Int32)), (.ref o)])) rfl (hb hby d1_222) rfl (by decide) (cap := 2) (by decide) (by decide) (by decide) (by decide) (ad := "[[D") (by decide)
  obtain ⟨b212, g212⟩ : ∃ z, z = h207.size := ⟨_, rfl⟩
  rw [← g212] at Aw212 st212 Ex212
  have f213 := ((f187.ext E186).other W207 (Ne.symm nq108))
  have nq214 : b102 ≠ b212 := Nat.ne_of_lt (Nat.lt_of_lt_of_eq (f213).lt g212.symm)
  have f215 := ((f189.ext E186).other W207 (Ne.symm nq128))
  have nq216 : b120 ≠ b212 := Nat.ne_of_lt (Nat.lt_of_lt_of_eq (f215).lt g212.symm)
  have f217 := ((f191.ext E186).other W207 (Ne.symm nq150))
  have nq218 : b140 ≠ b212 := Nat.ne_of_lt (Nat.lt_of_lt_of_eq (f217).lt g212.symm)
  have f219 := ((f193.ext E186).other W207 (Ne.symm nq174))
  have nq220 : b162 ≠ b212 := Nat.ne_of_lt (Nat.lt_of_lt_of_eq (f219).lt g212.symm)
  have f221 := (A186.other W207 (Ne.symm nq200))
  have nq222 : b186 ≠ b212 := Nat.ne_of_lt (Nat.lt_of_lt_of_eq (f221).lt g212.symm)
  have f223 := ((f195.ext E186).other W207 (Ne.symm nq74))
  have nq224 : b72 ≠ b212 := Nat.ne_of_lt (Nat.lt_of_lt_of_eq (f223).lt g212.symm)
  have f225 := ((f197.ext E186).other W207 (Ne.symm nq90))
  have nq226 : b86 ≠ b212 := Nat.ne_of_lt (Nat.lt_of_lt_of_eq (f225).lt g212.symm)
  have f227 := (f209.wr W207)
  have nq228 : o ≠ b212 := Nat.ne_of_lt (Nat.lt_of_lt_of_eq (f227).lt g212.symm)
  have f229 := ((f201.ext E186).other W207 n_p0)
  have nq230 : p0 ≠ b212 := Nat.ne_of_lt (Nat.lt_of_lt_of_eq (f229).lt g212.symm)
  have f231 := ((f203.ext E186).other W207 n_p1)
  have nq232 : p1 ≠ b212 := Nat.ne_of_lt (Nat.lt_of_lt_of_eq (f231).lt g212.symm)
  have f233 := ((f205.ext E186).other W207 n_p2)
  have nq234 : p2 ≠ b212 := Nat.ne_of_lt (Nat.lt_of_lt_of_eq (f233).lt g212.symm)
  have A212 := own_Ar.new (nn := 2) Aw212 (by decide) rfl
  have St212 : own_St Z h212 b212 "[D" := ⟨_, _, Aw212.1, Ov212⟩
  have G212 : n0 ≤ b212 := Nat.le_trans Z207 (Nat.le_of_eq g212.symm)
  have Z212 : n0 ≤ h212.size := Nat.le_trans Z207 E212.1
  refine own_go st212 ?_
  show own_Go _ _ _ _ _ _ _ (T212.setTop (mkF m 225 #[.val (.ref o), .val (.ref p0), .val (.ref p1), .val (.ref p2), .unset] [(.ref b212), (.ref o)]))
  have f236 := ((f208.wr W207).ext E212)
  obtain ⟨pv235, pf235⟩ := f236 "columnEntries" "[[D" (.array (.array .double)) (Or.inr (hw _ (List.mem_of_getElem? (i := 66) rfl))) (by decide)
  have f237 := (f227.ext E212)
  obtain ⟨T235, h235, X235, e235, W235, st235⟩ := putF X212 hx hZ hown (host := "") (Or.inl (hw _ (List.mem_of_getElem? (i := 65) rfl))) Via.refl e212 pf235 f237 (Or.inr ⟨(hw _ (List.mem_of_getElem? (i := 66) rfl)), rfl, hnm⟩) (hw _ (List.mem_of_getElem? (i := 3) rfl)) (ty := (.array (.array .double))) (by decide) rfl rfl (g := (mkF m 225 #[.val (.ref o), .val (.ref p0), .val (.ref p1), .val (.ref p2), .unset] [(.ref b212), (.ref o)])) rfl rfl (hb hby d1_225)
  have N235 := Fr.snoc X235 N207 go
  have Fw235 := pf235.same W235
  have Z235 : n0 ≤ h235.size := by rw [W235.size]; exact Z212
  refine own_go st235 ?_
  show own_Go _ _ _ _ _ _ _ (T235.setTop (mkF m 228 #[.val (.ref o), .val (.ref p0), .val (.ref p1), .val (.ref p2), .unset] []))
  refine own_go (fun _ q => XS.aloadN X235.here hx rfl (hb hby d1_228) rfl rfl q) ?_
  show own_Go _ _ _ _ _ _ _ (T235.setTop (mkF m 229 #[.val (.ref o), .val (.ref p0), .val (.ref p1), .val (.ref p2), .unset] [(.ref o)]))
  refine own_go (fun _ q => XS.aloadN X235.here hx rfl (hb hby d1_229) rfl rfl q) ?_
  show own_Go _ _ _ _ _ _ _ (T235.setTop (mkF m 230 #[.val (.ref o), .val (.ref p0), .val (.ref p1), .val (.ref p2), .unset] [(.ref o), (.ref o)]))
  have f239 := ((f211.ext E212).other W235 (Or.inr (slot_ne (Or.inr (hw _ (List.mem_of_getElem? (i := 49) rfl))) (Or.inr (hw _ (List.mem_of_getElem? (i := 66) rfl))) (by decide) (t := .int) (t' := (.array (.array .double))) (by decide) (by decide))))
  obtain ⟨T238, X238, e238, st238⟩ := getF X235 hx hZ hown (host := "") (Or.inl (hw _ (List.mem_of_getElem? (i := 48) rfl))) Via.refl e235 f239 (g := (mkF m 230 #[.val (.ref o), .val (.ref p0), .val (.ref p1), .val (.ref p2), .unset] [(.ref o), (.ref o)])) rfl rfl (hb hby d1_230)
  refine own_go st238 ?_
  show own_Go _ _ _ _ _ _ _ (T238.setTop (mkF m 233 #[.val (.ref o), .val (.ref p0), .val (.ref p1), .val (.ref p2), .unset] [(.int (2 : Int32)), (.ref o)]))
  obtain ⟨T240, h240, k240, X240, e240, E240, Aw240, st240⟩ := newP X238 hx hZ (hw _ (List.mem_of_getElem? (i := 25) rfl)) e238 (g := (mkF m 233 #[.val (.ref o), .val (.ref p0), .val (.ref p1), .val (.ref p2), .unset] [(.int (2 : Int32)), (.ref o)])) rfl (hb hby d1_233) rfl (by decide) (cap := 2) (by decide) (by decide) (by decide) (by decide)
  obtain ⟨b240, g240⟩ : ∃ z, z = h235.size := ⟨_, rfl⟩
  rw [← g240] at Aw240 st240
  have G240 : n0 ≤ b240 := Nat.le_trans Z235 (Nat.le_of_eq g240.symm)
  have Z240 : n0 ≤ h240.size := Nat.le_trans Z235 E240.1
  refine own_go st240 ?_
  show own_Go _ _ _ _ _ _ _ (T240.setTop (mkF m 235 #[.val (.ref o), .val (.ref p0), .val (.ref p1), .val (.ref p2), .unset] [(.ref b240), (.ref o)]))
  have f242 := ((f236.wr W235).ext E240)
  obtain ⟨pv241, pf241⟩ := f242 "columnLength" "[I" (.array .int) (Or.inr (hw _ (List.mem_of_getElem? (i := 68) rfl))) (by decide)
  have f243 := ((f237.wr W235).ext E240)
  obtain ⟨T241, h241, X241, e241, W241, st241⟩ := putF X240 hx hZ hown (host := "") (Or.inl (hw _ (List.mem_of_getElem? (i := 67) rfl))) Via.refl e240 pf241 f243 (Or.inr ⟨(hw _ (List.mem_of_getElem? (i := 68) rfl)), rfl, hnm⟩) (hw _ (List.mem_of_getElem? (i := 3) rfl)) (ty := (.array .int)) (by decide) rfl rfl (g := (mkF m 235 #[.val (.ref o), .val (.ref p0), .val (.ref p1), .val (.ref p2), .unset] [(.ref b240), (.ref o)])) rfl rfl (hb hby d1_235)
  have N241 := Fr.snoc X241 N235 go
  have Fw241 := pf241.same W241
  have Z241 : n0 ≤ h241.size := by rw [W241.size]; exact Z240
  refine own_go st241 ?_
  show own_Go _ _ _ _ _ _ _ (T241.setTop (mkF m 238 #[.val (.ref o), .val (.ref p0), .val (.ref p1), .val (.ref p2), .unset] []))
  refine own_go (fun _ q => XS.aloadN X241.here hx rfl (hb hby d1_238) rfl rfl q) ?_
  show own_Go _ _ _ _ _ _ _ (T241.setTop (mkF m 239 #[.val (.ref o), .val (.ref p0), .val (.ref p1), .val (.ref p2), .unset] [(.ref o)]))
  refine own_go (fun _ q => XS.aloadN X241.here hx rfl (hb hby d1_239) rfl rfl q) ?_
  show own_Go _ _ _ _ _ _ _ (T241.setTop (mkF m 240 #[.val (.ref o), .val (.ref p0), .val (.ref p1), .val (.ref p2), .unset] [(.ref o), (.ref o)]))
  have f245 := ((f239.ext E240).other W241 (Or.inr (slot_ne (Or.inr (hw _ (List.mem_of_getElem? (i := 49) rfl))) (Or.inr (hw _ (List.mem_of_getElem? (i := 68) rfl))) (by decide) (t := .int) (t' := (.array .int)) (by decide) (by decide))))
  obtain ⟨T244, X244, e244, st244⟩ := getF X241 hx hZ hown (host := "") (Or.inl (hw _ (List.mem_of_getElem? (i := 48) rfl))) Via.refl e241 f245 (g := (mkF m 240 #[.val (.ref o), .val (.ref p0), .val (.ref p1), .val (.ref p2), .unset] [(.ref o), (.ref o)])) rfl rfl (hb hby d1_240)
  refine own_go st244 ?_
  show own_Go _ _ _ _ _ _ _ (T244.setTop (mkF m 243 #[.val (.ref o), .val (.ref p0), .val (.ref p1), .val (.ref p2), .unset] [(.int (2 : Int32)), (.ref o)]))
  obtain ⟨T246, h246, k246, X246, e246, E246, Aw246, st246⟩ := newP X244 hx hZ (hw _ (List.mem_of_getElem? (i := 1) rfl)) e244 (g := (mkF m 243 #[.val (.ref o), .val (.ref p0), .val (.ref p1), .val (.ref p2), .unset] [(.int (2 : Int32)), (.ref o)])) rfl (hb hby d1_243) rfl (by decide) (cap := 2) (by decide) (by decide) (by decide) (by decide)
  obtain ⟨b246, g246⟩ : ∃ z, z = h241.size := ⟨_, rfl⟩
  rw [← g246] at Aw246 st246
  have G246 : n0 ≤ b246 := Nat.le_trans Z241 (Nat.le_of_eq g246.symm)
  have Z246 : n0 ≤ h246.size := Nat.le_trans Z241 E246.1
  refine own_go st246 ?_
  show own_Go _ _ _ _ _ _ _ (T246.setTop (mkF m 245 #[.val (.ref o), .val (.ref p0), .val (.ref p1), .val (.ref p2), .unset] [(.ref b246), (.ref o)]))
  have f248 := ((f242.wr W241).ext E246)
  obtain ⟨pv247, pf247⟩ := f248 "pivotRow" "[D" (.array .double) (Or.inr (hw _ (List.mem_of_getElem? (i := 70) rfl))) (by decide)
  have f249 := ((f243.wr W241).ext E246)
  obtain ⟨T247, h247, X247, e247, W247, st247⟩ := putF X246 hx hZ hown (host := "") (Or.inl (hw _ (List.mem_of_getElem? (i := 69) rfl))) Via.refl e246 pf247 f249 (Or.inr ⟨(hw _ (List.mem_of_getElem? (i := 70) rfl)), rfl, hnm⟩) (hw _ (List.mem_of_getElem? (i := 3) rfl)) (ty := (.array .double)) (by decide) rfl rfl (g := (mkF m 245 #[.val (.ref o), .val (.ref p0), .val (.ref p1), .val (.ref p2), .unset] [(.ref b246), (.ref o)])) rfl rfl (hb hby d1_245)
  have N247 := Fr.snoc X247 N241 go
  have Fw247 := pf247.same W247
  have Z247 : n0 ≤ h247.size := by rw [W247.size]; exact Z246
  refine own_go st247 ?_
  show own_Go _ _ _ _ _ _ _ (T247.setTop (mkF m 248 #[.val (.ref o), .val (.ref p0), .val (.ref p1), .val (.ref p2), .unset] []))
  refine own_go (fun _ q => XS.aloadN X247.here hx rfl (hb hby d1_248) rfl rfl q) ?_
  show own_Go _ _ _ _ _ _ _ (T247.setTop (mkF m 249 #[.val (.ref o), .val (.ref p0), .val (.ref p1), .val (.ref p2), .unset] [(.ref o)]))
  refine own_go (fun _ q => XS.aloadN X247.here hx rfl (hb hby d1_249) rfl rfl q) ?_
  show own_Go _ _ _ _ _ _ _ (T247.setTop (mkF m 250 #[.val (.ref o), .val (.ref p0), .val (.ref p1), .val (.ref p2), .unset] [(.ref o), (.ref o)]))
  have f251 := ((f245.ext E246).other W247 (Or.inr (slot_ne (Or.inr (hw _ (List.mem_of_getElem? (i := 49) rfl))) (Or.inr (hw _ (List.mem_of_getElem? (i := 70) rfl))) (by decide) (t := .int) (t' := (.array .double)) (by decide) (by decide))))
  obtain ⟨T250, X250, e250, st250⟩ := getF X247 hx hZ hown (host := "") (Or.inl (hw _ (List.mem_of_getElem? (i := 48) rfl))) Via.refl e247 f251 (g := (mkF m 250 #[.val (.ref o), .val (.ref p0), .val (.ref p1), .val (.ref p2), .unset] [(.ref o), (.ref o)])) rfl rfl (hb hby d1_250)
  refine own_go st250 ?_
  show own_Go _ _ _ _ _ _ _ (T250.setTop (mkF m 253 #[.val (.ref o), .val (.ref p0), .val (.ref p1), .val (.ref p2), .unset] [(.int (2 : Int32)), (.ref o)]))
  obtain ⟨T252, h252, k252, X252, e252, E252, Aw252, st252⟩ := newP X250 hx hZ (hw _ (List.mem_of_getElem? (i := 25) rfl)) e250 (g := (mkF m 253 #[.val (.ref o), .val (.ref p0), .val (.ref p1), .val (.ref p2), .unset] [(.int (2 : Int32)), (.ref o)])) rfl (hb hby d1_253) rfl (by decide) (cap := 2) (by decide) (by decide) (by decide) (by decide)
  obtain ⟨b252, g252⟩ : ∃ z, z = h247.size := ⟨_, rfl⟩
  rw [← g252] at Aw252 st252
  have G252 : n0 ≤ b252 := Nat.le_trans Z247 (Nat.le_of_eq g252.symm)
  have Z252 : n0 ≤ h252.size := Nat.le_trans Z247 E252.1
  refine own_go st252 ?_
  show own_Go _ _ _ _ _ _ _ (T252.setTop (mkF m 255 #[.val (.ref o), .val (.ref p0), .val (.ref p1), .val (.ref p2), .unset] [(.ref b252), (.ref o)]))
  have f254 := ((f248.wr W247).ext E252)
  obtain ⟨pv253, pf253⟩ := f254 "flipped" "[I" (.array .int) (Or.inr (hw _ (List.mem_of_getElem? (i := 72) rfl))) (by decide)
  have f255 := ((f249.wr W247).ext E252)
  obtain ⟨T253, h253, X253, e253, W253, st253⟩ := putF X252 hx hZ hown (host := "") (Or.inl (hw _ (List.mem_of_getElem? (i := 71) rfl))) Via.refl e252 pf253 f255 (Or.inr ⟨(hw _ (List.mem_of_getElem? (i := 72) rfl)), rfl, hnm⟩) (hw _ (List.mem_of_getElem? (i := 3) rfl)) (ty := (.array .int)) (by decide) rfl rfl (g := (mkF m 255 #[.val (.ref o), .val (.ref p0), .val (.ref p1), .val (.ref p2), .unset] [(.ref b252), (.ref o)])) rfl rfl (hb hby d1_255)
  have N253 := Fr.snoc X253 N247 go
  have Fw253 := pf253.same W253
  have Z253 : n0 ≤ h253.size := by rw [W253.size]; exact Z252
  refine own_go st253 ?_
  show own_Go _ _ _ _ _ _ _ (T253.setTop (mkF m 258 #[.val (.ref o), .val (.ref p0), .val (.ref p1), .val (.ref p2), .unset] []))
  refine own_go (fun _ q => XS.aloadN X253.here hx rfl (hb hby d1_258) rfl rfl q) ?_
  show own_Go _ _ _ _ _ _ _ (T253.setTop (mkF m 259 #[.val (.ref o), .val (.ref p0), .val (.ref p1), .val (.ref p2), .unset] [(.ref o)]))
  refine own_go (fun _ q => XS.aloadN X253.here hx rfl (hb hby d1_259) rfl rfl q) ?_
  show own_Go _ _ _ _ _ _ _ (T253.setTop (mkF m 260 #[.val (.ref o), .val (.ref p0), .val (.ref p1), .val (.ref p2), .unset] [(.ref o), (.ref o)]))
  have f257 := ((f251.ext E252).other W253 (Or.inr (slot_ne (Or.inr (hw _ (List.mem_of_getElem? (i := 49) rfl))) (Or.inr (hw _ (List.mem_of_getElem? (i := 72) rfl))) (by decide) (t := .int) (t' := (.array .int)) (by decide) (by decide))))
  obtain ⟨T256, X256, e256, st256⟩ := getF X253 hx hZ hown (host := "") (Or.inl (hw _ (List.mem_of_getElem? (i := 48) rfl))) Via.refl e253 f257 (g := (mkF m 260 #[.val (.ref o), .val (.ref p0), .val (.ref p1), .val (.ref p2), .unset] [(.ref o), (.ref o)])) rfl rfl (hb hby d1_260)
  refine own_go st256 ?_
  show own_Go _ _ _ _ _ _ _ (T256.setTop (mkF m 263 #[.val (.ref o), .val (.ref p0), .val (.ref p1), .val (.ref p2), .unset] [(.int (2 : Int32)), (.ref o)]))
  obtain ⟨T258, h258, k258, X258, e258, E258, Aw258, st258⟩ := newP X256 hx hZ (hw _ (List.mem_of_getElem? (i := 25) rfl)) e256 (g := (mkF m 263 #[.val (.ref o), .val (.ref p0), .val (.ref p1), .val (.ref p2), .unset] [(.int (2 : Int32)), (.ref o)])) rfl (hb hby d1_263) rfl (by decide) (cap := 2) (by decide) (by decide) (by decide) (by decide)
  obtain ⟨b258, g258⟩ : ∃ z, z = h253.size := ⟨_, rfl⟩
  rw [← g258] at Aw258 st258
  have f259 := ((((((((f213.ext E212).other W235 (Ne.symm nq108)).ext E240).other W241 (Ne.symm nq108)).ext E246).other W247 (Ne.symm nq108)).ext E252).other W253 (Ne.symm nq108))
  have nq260 : b102 ≠ b258 := Nat.ne_of_lt (Nat.lt_of_lt_of_eq (f259).lt g258.symm)
  have f261 := ((((((((f215.ext E212).other W235 (Ne.symm nq128)).ext E240).other W241 (Ne.symm nq128)).ext E246).other W247 (Ne.symm nq128)).ext E252).other W253 (Ne.symm nq128))
  have nq262 : b120 ≠ b258 := Nat.ne_of_lt (Nat.lt_of_lt_of_eq (f261).lt g258.symm)
  have f263 := ((((((((f217.ext E212).other W235 (Ne.symm nq150)).ext E240).other W241 (Ne.symm nq150)).ext E246).other W247 (Ne.symm nq150)).ext E252).other W253 (Ne.symm nq150))
  have nq264 : b140 ≠ b258 := Nat.ne_of_lt (Nat.lt_of_lt_of_eq (f263).lt g258.symm)
  have f265 := ((((((((f219.ext E212).other W235 (Ne.symm nq174)).ext E240).other W241 (Ne.symm nq174)).ext E246).other W247 (Ne.symm nq174)).ext E252).other W253 (Ne.symm nq174))
  have nq266 : b162 ≠ b258 := Nat.ne_of_lt (Nat.lt_of_lt_of_eq (f265).lt g258.symm)
  have f267 := ((((((((f221.ext E212).other W235 (Ne.symm nq200)).ext E240).other W241 (Ne.symm nq200)).ext E246).other W247 (Ne.symm nq200)).ext E252).other W253 (Ne.symm nq200))
  have nq268 : b186 ≠ b258 := Nat.ne_of_lt (Nat.lt_of_lt_of_eq (f267).lt g258.symm)
  have f269 := (((((((A212.other W235 (Ne.symm nq228)).ext E240).other W241 (Ne.symm nq228)).ext E246).other W247 (Ne.symm nq228)).ext E252).other W253 (Ne.symm nq228))
  have nq270 : b212 ≠ b258 := Nat.ne_of_lt (Nat.lt_of_lt_of_eq (f269).lt g258.symm)
  have f271 := ((((((((f223.ext E212).other W235 (Ne.symm nq74)).ext E240).other W241 (Ne.symm nq74)).ext E246).other W247 (Ne.symm nq74)).ext E252).other W253 (Ne.symm nq74))
  have nq272 : b72 ≠ b258 := Nat.ne_of_lt (Nat.lt_of_lt_of_eq (f271).lt g258.symm)
  have f273 := ((((((((f225.ext E212).other W235 (Ne.symm nq90)).ext E240).other W241 (Ne.symm nq90)).ext E246).other W247 (Ne.symm nq90)).ext E252).other W253 (Ne.symm nq90))
  have nq274 : b86 ≠ b258 := Nat.ne_of_lt (Nat.lt_of_lt_of_eq (f273).lt g258.symm)
  have f275 := (f255.wr W253)
  have nq276 : o ≠ b258 := Nat.ne_of_lt (Nat.lt_of_lt_of_eq (f275).lt g258.symm)
  have f277 := ((((((((f229.ext E212).other W235 n_p0).ext E240).other W241 n_p0).ext E246).other W247 n_p0).ext E252).other W253 n_p0)
  have nq278 : p0 ≠ b258 := Nat.ne_of_lt (Nat.lt_of_lt_of_eq (f277).lt g258.symm)
  have f279 := ((((((((f231.ext E212).other W235 n_p1).ext E240).other W241 n_p1).ext E246).other W247 n_p1).ext E252).other W253 n_p1)
  have nq280 : p1 ≠ b258 := Nat.ne_of_lt (Nat.lt_of_lt_of_eq (f279).lt g258.symm)
  have f281 := ((((((((f233.ext E212).other W235 n_p2).ext E240).other W241 n_p2).ext E246).other W247 n_p2).ext E252).other W253 n_p2)
  have nq282 : p2 ≠ b258 := Nat.ne_of_lt (Nat.lt_of_lt_of_eq (f281).lt g258.symm)
  have A258 := own_Ar.new (nn := 2) Aw258 (by decide) rfl
  have G258 : n0 ≤ b258 := Nat.le_trans Z253 (Nat.le_of_eq g258.symm)
  have Z258 : n0 ≤ h258.size := Nat.le_trans Z253 E258.1
  refine own_go st258 ?_
  show own_Go _ _ _ _ _ _ _ (T258.setTop (mkF m 265 #[.val (.ref o), .val (.ref p0), .val (.ref p1), .val (.ref p2), .unset] [(.ref b258), (.ref o)]))
  have f284 := ((f254.wr W253).ext E258)
  obtain ⟨pv283, pf283⟩ := f284 "position" "[I" (.array .int) (Or.inl (hw _ (List.mem_of_getElem? (i := 74) rfl))) (by decide)
  have f285 := (f275.ext E258)
  obtain ⟨T283, h283, X283, e283, W283, st283⟩ := putF X258 hx hZ hown (host := "") (Or.inl (hw _ (List.mem_of_getElem? (i := 73) rfl))) Via.refl e258 pf283 f285 (Or.inl (hw _ (List.mem_of_getElem? (i := 74) rfl))) (hw _ (List.mem_of_getElem? (i := 3) rfl)) (ty := (.array .int)) (by decide) rfl rfl (g := (mkF m 265 #[.val (.ref o), .val (.ref p0), .val (.ref p1), .val (.ref p2), .unset] [(.ref b258), (.ref o)])) rfl rfl (hb hby d1_265)
  have N283 := Fr.snoc X283 N253 go
  have Fw283 := pf283.same W283
  have Z283 : n0 ≤ h283.size := by rw [W283.size]; exact Z258
  refine own_go st283 ?_
  show own_Go _ _ _ _ _ _ _ (T283.setTop (mkF m 268 #[.val (.ref o), .val (.ref p0), .val (.ref p1), .val (.ref p2), .unset] []))
  refine own_go (fun _ q => XS.aloadN X283.here hx rfl (hb hby d1_268) rfl rfl q) ?_
  show own_Go _ _ _ _ _ _ _ (T283.setTop (mkF m 269 #[.val (.ref o), .val (.ref p0), .val (.ref p1), .val (.ref p2), .unset] [(.ref o)]))
  refine own_go (fun _ q => XS.aloadN X283.here hx rfl (hb hby d1_269) rfl rfl q) ?_
  show own_Go _ _ _ _ _ _ _ (T283.setTop (mkF m 270 #[.val (.ref o), .val (.ref p0), .val (.ref p1), .val (.ref p2), .unset] [(.ref o), (.ref o)]))
  have f287 := ((f257.ext E258).other W283 (Or.inr (slot_ne (Or.inr (hw _ (List.mem_of_getElem? (i := 49) rfl))) (Or.inl (hw _ (List.mem_of_getElem? (i := 74) rfl))) (by decide) (t := .int) (t' := (.array .int)) (by decide) (by decide))))
  obtain ⟨T286, X286, e286, st286⟩ := getF X283 hx hZ hown (host := "") (Or.inl (hw _ (List.mem_of_getElem? (i := 48) rfl))) Via.refl e283 f287 (g := (mkF m 270 #[.val (.ref o), .val (.ref p0), .val (.ref p1), .val (.ref p2), .unset] [(.ref o), (.ref o)])) rfl rfl (hb hby d1_270)
  refine own_go st286 ?_
  show own_Go _ _ _ _ _ _ _ (T286.setTop (mkF m 273 #[.val (.ref o), .val (.ref p0), .val (.ref p1), .val (.ref p2), .unset] [(.int (2 : Int32)), (.ref o)]))
  obtain ⟨T288, h288, k288, X288, e288, E288, Aw288, st288⟩ := newP X286 hx hZ (hw _ (List.mem_of_getElem? (i := 1) rfl)) e286 (g := (mkF m 273 #[.val (.ref o), .val (.ref p0), .val (.ref p1), .val (.ref p2), .unset] [(.int (2 : Int32)), (.ref o)])) rfl (hb hby d1_273) rfl (by decide) (cap := 2) (by decide) (by decide) (by decide) (by decide)
  obtain ⟨b288, g288⟩ : ∃ z, z = h283.size := ⟨_, rfl⟩
  rw [← g288] at Aw288 st288
  have f289 := ((f259.ext E258).other W283 (Ne.symm nq108))
  have nq290 : b102 ≠ b288 := Nat.ne_of_lt (Nat.lt_of_lt_of_eq (f289).lt g288.symm)
  have f291 := ((f261.ext E258).other W283 (Ne.symm nq128))
  have nq292 : b120 ≠ b288 := Nat.ne_of_lt (Nat.lt_of_lt_of_eq (f291).lt g288.symm)
  have f293 := ((f263.ext E258).other W283 (Ne.symm nq150))
  have nq294 : b140 ≠ b288 := Nat.ne_of_lt (Nat.lt_of_lt_of_eq (f293).lt g288.symm)
  have f295 := ((f265.ext E258).other W283 (Ne.symm nq174))
  have nq296 : b162 ≠ b288 := Nat.ne_of_lt (Nat.lt_of_lt_of_eq (f295).lt g288.symm)
  have f297 := ((f267.ext E258).other W283 (Ne.symm nq200))
  have nq298 : b186 ≠ b288 := Nat.ne_of_lt (Nat.lt_of_lt_of_eq (f297).lt g288.symm)
  have f299 := ((f269.ext E258).other W283 (Ne.symm nq228))
  have nq300 : b212 ≠ b288 := Nat.ne_of_lt (Nat.lt_of_lt_of_eq (f299).lt g288.symm)
  have f301 := (A258.other W283 (Ne.symm nq276))
  have nq302 : b258 ≠ b288 := Nat.ne_of_lt (Nat.lt_of_lt_of_eq (f301).lt g288.symm)
  have f303 := ((f271.ext E258).other W283 (Ne.symm nq74))
  have nq304 : b72 ≠ b288 := Nat.ne_of_lt (Nat.lt_of_lt_of_eq (f303).lt g288.symm)
  have f305 := ((f273.ext E258).other W283 (Ne.symm nq90))
  have nq306 : b86 ≠ b288 := Nat.ne_of_lt (Nat.lt_of_lt_of_eq (f305).lt g288.symm)
  have f307 := (f285.wr W283)
  have nq308 : o ≠ b288 := Nat.ne_of_lt (Nat.lt_of_lt_of_eq (f307).lt g288.symm)
  have f309 := ((f277.ext E258).other W283 n_p0)
  have nq310 : p0 ≠ b288 := Nat.ne_of_lt (Nat.lt_of_lt_of_eq (f309).lt g288.symm)
  have f311 := ((f279.ext E258).other W283 n_p1)
  have nq312 : p1 ≠ b288 := Nat.ne_of_lt (Nat.lt_of_lt_of_eq (f311).lt g288.symm)
  have f313 := ((f281.ext E258).other W283 n_p2)
  have nq314 : p2 ≠ b288 := Nat.ne_of_lt (Nat.lt_of_lt_of_eq (f313).lt g288.symm)
  have A288 := own_Ar.new (nn := 2) Aw288 (by decide) rfl
  have G288 : n0 ≤ b288 := Nat.le_trans Z283 (Nat.le_of_eq g288.symm)
  have Z288 : n0 ≤ h288.size := Nat.le_trans Z283 E288.1
  refine own_go st288 ?_
  show own_Go _ _ _ _ _ _ _ (T288.setTop (mkF m 275 #[.val (.ref o), .val (.ref p0), .val (.ref p1), .val (.ref p2), .unset] [(.ref b288), (.ref o)]))
  have f316 := ((f284.wr W283).ext E288)
  obtain ⟨pv315, pf315⟩ := f316 "edges" "[D" (.array .double) (Or.inl (hw _ (List.mem_of_getElem? (i := 76) rfl))) (by decide)
  have f317 := (f307.ext E288)
  obtain ⟨T315, h315, X315, e315, W315, st315⟩ := putF X288 hx hZ hown (host := "") (Or.inl (hw _ (List.mem_of_getElem? (i := 75) rfl))) Via.refl e288 pf315 f317 (Or.inl (hw _ (List.mem_of_getElem? (i := 76) rfl))) (hw _ (List.mem_of_getElem? (i := 3) rfl)) (ty := (.array .double)) (by decide) rfl rfl (g := (mkF m 275 #[.val (.ref o), .val (.ref p0), .val (.ref p1), .val (.ref p2), .unset] [(.ref b288), (.ref o)])) rfl rfl (hb hby d1_275)
  have N315 := Fr.snoc X315 N283 go
  have Fw315 := pf315.same W315
  have Z315 : n0 ≤ h315.size := by rw [W315.size]; exact Z288
  refine own_go st315 ?_
  show own_Go _ _ _ _ _ _ _ (T315.setTop (mkF m 278 #[.val (.ref o), .val (.ref p0), .val (.ref p1), .val (.ref p2), .unset] []))
  refine own_go (fun _ q => XS.aloadN X315.here hx rfl (hb hby d1_278) rfl rfl q) ?_
  show own_Go _ _ _ _ _ _ _ (T315.setTop (mkF m 279 #[.val (.ref o), .val (.ref p0), .val (.ref p1), .val (.ref p2), .unset] [(.ref o)]))
  refine own_go (fun _ q => XS.aloadN X315.here hx rfl (hb hby d1_279) rfl rfl q) ?_
  show own_Go _ _ _ _ _ _ _ (T315.setTop (mkF m 280 #[.val (.ref o), .val (.ref p0), .val (.ref p1), .val (.ref p2), .unset] [(.ref o), (.ref o)]))
  have f319 := ((f287.ext E288).other W315 (Or.inr (slot_ne (Or.inr (hw _ (List.mem_of_getElem? (i := 49) rfl))) (Or.inl (hw _ (List.mem_of_getElem? (i := 76) rfl))) (by decide) (t := .int) (t' := (.array .double)) (by decide) (by decide))))
  obtain ⟨T318, X318, e318, st318⟩ := getF X315 hx hZ hown (host := "") (Or.inl (hw _ (List.mem_of_getElem? (i := 48) rfl))) Via.refl e315 f319 (g := (mkF m 280 #[.val (.ref o), .val (.ref p0), .val (.ref p1), .val (.ref p2), .unset] [(.ref o), (.ref o)])) rfl rfl (hb hby d1_280)
  refine own_go st318 ?_
  show own_Go _ _ _ _ _ _ _ (T318.setTop (mkF m 283 #[.val (.ref o), .val (.ref p0), .val (.ref p1), .val (.ref p2), .unset] [(.int (2 : Int32)), (.ref o)]))
  obtain ⟨T320, h320, k320, X320, e320, E320, Aw320, st320⟩ := newP X318 hx hZ (hw _ (List.mem_of_getElem? (i := 1) rfl)) e318 (g := (mkF m 283 #[.val (.ref o), .val (.ref p0), .val (.ref p1), .val (.ref p2), .unset] [(.int (2 : Int32)), (.ref o)])) rfl (hb hby d1_283) rfl (by decide) (cap := 2) (by decide) (by decide) (by decide) (by decide)
  obtain ⟨b320, g320⟩ : ∃ z, z = h315.size := ⟨_, rfl⟩
  rw [← g320] at Aw320 st320
  have G320 : n0 ≤ b320 := Nat.le_trans Z315 (Nat.le_of_eq g320.symm)
  have Z320 : n0 ≤ h320.size := Nat.le_trans Z315 E320.1
  refine own_go st320 ?_
  show own_Go _ _ _ _ _ _ _ (T320.setTop (mkF m 285 #[.val (.ref o), .val (.ref p0), .val (.ref p1), .val (.ref p2), .unset] [(.ref b320), (.ref o)]))
  have f322 := ((f316.wr W315).ext E320)
  obtain ⟨pv321, pf321⟩ := f322 "weights" "[D" (.array .double) (Or.inl (hw _ (List.mem_of_getElem? (i := 78) rfl))) (by decide)
  have f323 := ((f317.wr W315).ext E320)
  obtain ⟨T321, h321, X321, e321, W321, st321⟩ := putF X320 hx hZ hown (host := "") (Or.inl (hw _ (List.mem_of_getElem? (i := 77) rfl))) Via.refl e320 pf321 f323 (Or.inl (hw _ (List.mem_of_getElem? (i := 78) rfl))) (hw _ (List.mem_of_getElem? (i := 3) rfl)) (ty := (.array .double)) (by decide) rfl rfl (g := (mkF m 285 #[.val (.ref o), .val (.ref p0), .val (.ref p1), .val (.ref p2), .unset] [(.ref b320), (.ref o)])) rfl rfl (hb hby d1_285)
  have N321 := Fr.snoc X321 N315 go
  have Fw321 := pf321.same W321
  have Z321 : n0 ≤ h321.size := by rw [W321.size]; exact Z320
  refine own_go st321 ?_
  show own_Go _ _ _ _ _ _ _ (T321.setTop (mkF m 288 #[.val (.ref o), .val (.ref p0), .val (.ref p1), .val (.ref p2), .unset] []))
  refine own_go (fun _ q => XS.aloadN X321.here hx rfl (hb hby d1_288) rfl rfl q) ?_
  show own_Go _ _ _ _ _ _ _ (T321.setTop (mkF m 289 #[.val (.ref o), .val (.ref p0), .val (.ref p1), .val (.ref p2), .unset] [(.ref o)]))
  have f325 := ((((Fw283.ext E288).other W315 (Or.inr (slot_ne (Or.inl (hw _ (List.mem_of_getElem? (i := 74) rfl))) (Or.inl (hw _ (List.mem_of_getElem? (i := 76) rfl))) (by decide) (t := (.array .int)) (t' := (.array .double)) (by decide) (by decide)))).ext E320).other W321 (Or.inr (slot_ne (Or.inl (hw _ (List.mem_of_getElem? (i := 74) rfl))) (Or.inl (hw _ (List.mem_of_getElem? (i := 78) rfl))) (by decide) (t := (.array .int)) (t' := (.array .double)) (by decide) (by decide))))
  obtain ⟨T324, X324, e324, st324⟩ := getF X321 hx hZ hown (host := "") (Or.inl (hw _ (List.mem_of_getElem? (i := 73) rfl))) Via.refl e321 f325 (g := (mkF m 289 #[.val (.ref o), .val (.ref p0), .val (.ref p1), .val (.ref p2), .unset] [(.ref o)])) rfl rfl (hb hby d1_289)
  refine own_go st324 ?_
  show own_Go _ _ _ _ _ _ _ (T324.setTop (mkF m 292 #[.val (.ref o), .val (.ref p0), .val (.ref p1), .val (.ref p2), .unset] [(.ref b258)]))
  refine own_go (fun _ q => XS.iconst X324.here hx rfl (hb hby d1_292) q) ?_
  show own_Go _ _ _ _ _ _ _ (T324.setTop (mkF m 293 #[.val (.ref o), .val (.ref p0), .val (.ref p1), .val (.ref p2), .unset] [(.int (-1 : Int32)), (.ref b258)]))
  have f326 := ((((f301.ext E288).other W315 (Ne.symm nq276)).ext E320).other W321 (Ne.symm nq276))
  refine own_static X324 hx hZ hown (hw _ (List.mem_of_getElem? (i := 79) rfl)) (hw _ (List.mem_of_getElem? (i := 80) rfl)) (hw _ (List.mem_of_getElem? (i := 81) rfl)) (hw _ (List.mem_of_getElem? (i := 82) rfl)) (by decide) e324 (argsL := [(.ref b258), (.int (-1 : Int32))]) (rest := []) (rm3 l Z a0 hw [] b258 (-1) _ h321 n0 Z321 f326 G258) 0 (by decide) (by decide) (by decide) (by decide) (by rw [hml]; rfl) pd_1 rfl rfl (Nat.le_of_eq rfl) (hb hby d1_293) rfl ?_
  intro v327 T327 L327 X327 hQ327
  obtain ⟨rfl, N327q, K327, A327f⟩ := hQ327
  have N327 := Fr.app N321 N327q
  show own_Go _ _ _ _ _ _ _ (T327.setTop (mkF m 296 #[.val (.ref o), .val (.ref p0), .val (.ref p1), .val (.ref p2), .unset] []))
  have Z327 : n0 ≤ T327.heap.size := Nat.le_trans Z321 K327.1
  refine own_go (fun _ q => XS.aloadN X327.here hx rfl (hb hby d1_296) rfl rfl q) ?_
  show own_Go _ _ _ _ _ _ _ (T327.setTop (mkF m 297 #[.val (.ref o), .val (.ref p0), .val (.ref p1), .val (.ref p2), .unset] [(.ref o)]))
  have f329 := (((Fw315.ext E320).other W321 (Or.inr (slot_ne (Or.inl (hw _ (List.mem_of_getElem? (i := 76) rfl))) (Or.inl (hw _ (List.mem_of_getElem? (i := 78) rfl))) (by decide) (t := (.array .double)) (t' := (.array .double)) (by decide) (by decide)))).keep K327 (ninS nq276 nin0))
  obtain ⟨T328, X328, e328, st328⟩ := getF X327 hx hZ hown (host := "") (Or.inl (hw _ (List.mem_of_getElem? (i := 75) rfl))) Via.refl rfl f329 (g := (mkF m 297 #[.val (.ref o), .val (.ref p0), .val (.ref p1), .val (.ref p2), .unset] [(.ref o)])) rfl rfl (hb hby d1_297)
  refine own_go st328 ?_
  show own_Go _ _ _ _ _ _ _ (T328.setTop (mkF m 300 #[.val (.ref o), .val (.ref p0), .val (.ref p1), .val (.ref p2), .unset] [(.ref b288)]))
  refine own_go (own_dconst1 X328 hx (g := (mkF m 300 #[.val (.ref o), .val (.ref p0), .val (.ref p1), .val (.ref p2), .unset] [(.ref b288)])) rfl (hb hby d1_300)) ?_
  show own_Go _ _ _ _ _ _ _ (T328.setTop (mkF m 301 #[.val (.ref o), .val (.ref p0), .val (.ref p1), .val (.ref p2), .unset] [(.double FP.dconst1), (.ref b288)]))
  have f330 := ((((A288.other W315 (Ne.symm nq308)).ext E320).other W321 (Ne.symm nq308)).keep K327 (ninS (Ne.symm nq302) nin0))
  refine own_static X328 hx hZ hown (hw _ (List.mem_of_getElem? (i := 83) rfl)) (hw _ (List.mem_of_getElem? (i := 84) rfl)) (hw _ (List.mem_of_getElem? (i := 81) rfl)) (hw _ (List.mem_of_getElem? (i := 85) rfl)) (by decide) e328 (argsL := [(.ref b288), (.double FP.dconst1)]) (rest := []) (rm4 l Z a0 hw [] b288 FP.dconst1 _ T327.heap n0 Z327 f330 G288) 0 (by decide) (by decide) (by decide) (by decide) (by rw [hml]; rfl) pd_2 rfl rfl (Nat.le_of_eq rfl) (hb hby d1_301) rfl ?_
  intro v331 T331 L331 X331 hQ331
  obtain ⟨rfl, N331q, K331, A331f⟩ := hQ331
  have N331 := Fr.app N327 N331q
  show own_Go _ _ _ _ _ _ _ (T331.setTop (mkF m 304 #[.val (.ref o), .val (.ref p0), .val (.ref p1), .val (.ref p2), .unset] []))
  have Z331 : n0 ≤ T331.heap.size := Nat.le_trans Z327 K331.1
  refine own_go (fun _ q => XS.iconst X331.here hx rfl (hb hby d1_304) q) ?_
  show own_Go _ _ _ _ _ _ _ (T331.setTop (mkF m 305 #[.val (.ref o), .val (.ref p0), .val (.ref p1), .val (.ref p2), .unset] [(.int (0 : Int32))]))
  refine own_go (fun _ q => XS.istore X331.here hx rfl (hb hby d1_305) rfl (l' := #[.val (.ref o), .val (.ref p0), .val (.ref p1), .val (.ref p2), .val (.int (0 : Int32))]) rfl q) ?_
  show own_Go _ _ _ _ _ _ _ (T331.setTop (mkF m 307 #[.val (.ref o), .val (.ref p0), .val (.ref p1), .val (.ref p2), .val (.int (0 : Int32))] []))
  refine own_go (fun _ q => XS.iload X331.here hx rfl (hb hby d1_307) rfl q) ?_
  show own_Go _ _ _ _ _ _ _ (T331.setTop (mkF m 309 #[.val (.ref o), .val (.ref p0), .val (.ref p1), .val (.ref p2), .val (.int (0 : Int32))] [(.int (0 : Int32))]))
  refine own_go (fun _ q => XS.aloadN X331.here hx rfl (hb hby d1_309) rfl rfl q) ?_
  show own_Go _ _ _ _ _ _ _ (T331.setTop (mkF m 310 #[.val (.ref o), .val (.ref p0), .val (.ref p1), .val (.ref p2), .val (.int (0 : Int32))] [(.ref o), (.int (0 : Int32))]))
  have f333 := ((((f319.ext E320).other W321 (Or.inr (slot_ne (Or.inr (hw _ (List.mem_of_getElem? (i := 49) rfl))) (Or.inl (hw _ (List.mem_of_getElem? (i := 78) rfl))) (by decide) (t := .int) (t' := (.array .double)) (by decide) (by decide)))).keep K327 (ninS nq276 nin0)).keep K331 (ninS nq308 nin0))
  obtain ⟨T332, X332, e332, st332⟩ := getF X331 hx hZ hown (host := "") (Or.inl (hw _ (List.mem_of_getElem? (i := 48) rfl))) Via.refl rfl f333 (g := (mkF m 310 #[.val (.ref o), .val (.ref p0), .val (.ref p1), .val (.ref p2), .val (.int (0 : Int32))] [(.ref o), (.int (0 : Int32))])) rfl rfl (hb hby d1_310)
  refine own_go st332 ?_
  show own_Go _ _ _ _ _ _ _ (T332.setTop (mkF m 313 #[.val (.ref o), .val (.ref p0), .val (.ref p1), .val (.ref p2), .val (.int (0 : Int32))] [(.int (2 : Int32)), (.int (0 : Int32))]))
  refine own_go (fun _ q => XS.icmpNo X332.here hx rfl (hb hby d1_313) rfl (tlt (by decide : (0 : Int32) < (2 : Int32))).2.1 q) ?_
  show own_Go _ _ _ _ _ _ _ (T332.setTop (mkF m 316 #[.val (.ref o), .val (.ref p0), .val (.ref p1), .val (.ref p2), .val (.int (0 : Int32))] []))
  refine own_go (fun _ q => XS.aloadN X332.here hx rfl (hb hby d1_316) rfl rfl q) ?_
  show own_Go _ _ _ _ _ _ _ (T332.setTop (mkF m 317 #[.val (.ref o), .val (.ref p0), .val (.ref p1), .val (.ref p2), .val (.int (0 : Int32))] [(.ref o)]))
  have f335 := ((((((((((((((((((((((((((((Fw81.ext E86).other W97 (Or.inr (slot_ne (Or.inr (hw _ (List.mem_of_getElem? (i := 51) rfl))) (Or.inr (hw _ (List.mem_of_getElem? (i := 53) rfl))) (by decide) (t := (.array .double)) (t' := (.array .double)) (by decide) (by decide)))).ext E102).other W115 (Or.inr (slot_ne (Or.inr (hw _ (List.mem_of_getElem? (i := 51) rfl))) (Or.inr (hw _ (List.mem_of_getElem? (i := 55) rfl))) (by decide) (t := (.array .double)) (t' := (.array .double)) (by decide) (by decide)))).ext E120).other W135 (Or.inr (slot_ne (Or.inr (hw _ (List.mem_of_getElem? (i := 51) rfl))) (Or.inr (hw _ (List.mem_of_getElem? (i := 57) rfl))) (by decide) (t := (.array .double)) (t' := (.array .double)) (by decide) (by decide)))).ext E140).other W157 (Or.inr (slot_ne (Or.inr (hw _ (List.mem_of_getElem? (i := 51) rfl))) (Or.inr (hw _ (List.mem_of_getElem? (i := 60) rfl))) (by decide) (t := (.array .double)) (t' := (.array .boolean)) (by decide) (by decide)))).ext E162).other W181 (Or.inr (slot_ne (Or.inr (hw _ (List.mem_of_getElem? (i := 51) rfl))) (Or.inr (hw _ (List.mem_of_getElem? (i := 62) rfl))) (by decide) (t := (.array .double)) (t' := (.array .double)) (by decide) (by decide)))).ext E186).other W207 (Or.inr (slot_ne (Or.inr (hw _ (List.mem_of_getElem? (i := 51) rfl))) (Or.inr (hw _ (List.mem_of_getElem? (i := 64) rfl))) (by decide) (t := (.array .double)) (t' := (.array (.array .int))) (by decide) (by decide)))).ext E212).other W235 (Or.inr (slot_ne (Or.inr (hw _ (List.mem_of_getElem? (i := 51) rfl))) (Or.inr (hw _ (List.mem_of_getElem? (i := 66) rfl))) (by decide) (t := (.array .double)) (t' := (.array (.array .double))) (by decide) (by decide)))).ext E240).other W241 (Or.inr (slot_ne (Or.inr (hw _ (List.mem_of_getElem? (i := 51) rfl))) (Or.inr (hw _ (List.mem_of_getElem? (i := 68) rfl))) (by decide) (t := (.array .double)) (t' := (.array .int)) (by decide) (by decide)))).ext E246).other W247 (Or.inr (slot_ne (Or.inr (hw _ (List.mem_of_getElem? (i := 51) rfl))) (Or.inr (hw _ (List.mem_of_getElem? (i := 70) rfl))) (by decide) (t := (.array .double)) (t' := (.array .double)) (by decide) (by decide)))).ext E252).other W253 (Or.inr (slot_ne (Or.inr (hw _ (List.mem_of_getElem? (i := 51) rfl))) (Or.inr (hw _ (List.mem_of_getElem? (i := 72) rfl))) (by decide) (t := (.array .double)) (t' := (.array .int)) (by decide) (by decide)))).ext E258).other W283 (Or.inr (slot_ne (Or.inr (hw _ (List.mem_of_getElem? (i := 51) rfl))) (Or.inl (hw _ (List.mem_of_getElem? (i := 74) rfl))) (by decide) (t := (.array .double)) (t' := (.array .int)) (by decide) (by decide)))).ext E288).other W315 (Or.inr (slot_ne (Or.inr (hw _ (List.mem_of_getElem? (i := 51) rfl))) (Or.inl (hw _ (List.mem_of_getElem? (i := 76) rfl))) (by decide) (t := (.array .double)) (t' := (.array .double)) (by decide) (by decide)))).ext E320).other W321 (Or.inr (slot_ne (Or.inr (hw _ (List.mem_of_getElem? (i := 51) rfl))) (Or.inl (hw _ (List.mem_of_getElem? (i := 78) rfl))) (by decide) (t := (.array .double)) (t' := (.array .double)) (by decide) (by decide)))).keep K327 (ninS nq276 nin0)).keep K331 (ninS nq308 nin0))
  obtain ⟨T334, X334, e334, st334⟩ := getF X332 hx hZ hown (host := "") (Or.inl (hw _ (List.mem_of_getElem? (i := 50) rfl))) Via.refl e332 f335 (g := (mkF m 317 #[.val (.ref o), .val (.ref p0), .val (.ref p1), .val (.ref p2), .val (.int (0 : Int32))] [(.ref o)])) rfl rfl (hb hby d1_317)
  refine own_go st334 ?_
  show own_Go _ _ _ _ _ _ _ (T334.setTop (mkF m 320 #[.val (.ref o), .val (.ref p0), .val (.ref p1), .val (.ref p2), .val (.int (0 : Int32))] [(.ref b72)]))
  refine own_go (fun _ q => XS.iload X334.here hx rfl (hb hby d1_320) rfl q) ?_
  show own_Go _ _ _ _ _ _ _ (T334.setTop (mkF m 322 #[.val (.ref o), .val (.ref p0), .val (.ref p1), .val (.ref p2), .val (.int (0 : Int32))] [(.int (0 : Int32)), (.ref b72)]))
  refine own_go (fun _ q => XS.aloadN X334.here hx rfl (hb hby d1_322) rfl rfl q) ?_
  show own_Go _ _ _ _ _ _ _ (T334.setTop (mkF m 323 #[.val (.ref o), .val (.ref p0), .val (.ref p1), .val (.ref p2), .val (.int (0 : Int32))] [(.ref p0), (.int (0 : Int32)), (.ref b72)]))
  refine own_go (fun _ q => XS.iload X334.here hx rfl (hb hby d1_323) rfl q) ?_
  show own_Go _ _ _ _ _ _ _ (T334.setTop (mkF m 325 #[.val (.ref o), .val (.ref p0), .val (.ref p1), .val (.ref p2), .val (.int (0 : Int32))] [(.int (0 : Int32)), (.ref p0), (.int (0 : Int32)), (.ref b72)]))
  have f336 := ((((((f309.ext E288).other W315 n_p0).ext E320).other W321 n_p0).keep K327 (ninS nq278 nin0)).keep K331 (ninS nq310 nin0))
  refine own_daload X334 hx hZ e334 f336 (i := 0) rfl (by decide) h0_0 (hb hby d1_325) rfl ?_
  show own_Go _ _ _ _ _ _ _ (T334.setTop (mkF m 326 #[.val (.ref o), .val (.ref p0), .val (.ref p1), .val (.ref p2), .val (.int (0 : Int32))] [(.double u0), (.int (0 : Int32)), (.ref b72)]))
  refine own_go (own_dneg X334 hx (g := (mkF m 326 #[.val (.ref o), .val (.ref p0), .val (.ref p1), .val (.ref p2), .val (.int (0 : Int32))] [(.double u0), (.int (0 : Int32)), (.ref b72)])) rfl (hb hby d1_326) rfl) ?_
  show own_Go _ _ _ _ _ _ _ (T334.setTop (mkF m 327 #[.val (.ref o), .val (.ref p0), .val (.ref p1), .val (.ref p2), .val (.int (0 : Int32))] [(.double (FP.dneg u0)), (.int (0 : Int32)), (.ref b72)]))
  have f338 := ((((((f303.ext E288).other W315 (Ne.symm nq74)).ext E320).other W321 (Ne.symm nq74)).keep K327 (ninS nq272 nin0)).keep K331 (ninS nq304 nin0))
  refine own_dastore X334 hx hZ e334 (i := 0) f338 rfl (by decide) (hb hby d1_327) rfl ?_
  intro T337 h337 X337 e337 W337 A337
  have N337 := Fr.snoc X337 N331 G72
  have Z337 : n0 ≤ h337.size := by rw [W337.size]; exact Z331
  show own_Go _ _ _ _ _ _ _ (T337.setTop (mkF m 328 #[.val (.ref o), .val (.ref p0), .val (.ref p1), .val (.ref p2), .val (.int (0 : Int32))] []))
  refine own_go (fun _ q => XS.aloadN X337.here hx rfl (hb hby d1_328) rfl rfl q) ?_
  show own_Go _ _ _ _ _ _ _ (T337.setTop (mkF m 329 #[.val (.ref o), .val (.ref p0), .val (.ref p1), .val (.ref p2), .val (.int (0 : Int32))] [(.ref o)]))
  have f340 := (((((((((((((((((((Fw181.ext E186).other W207 (Or.inr (slot_ne (Or.inr (hw _ (List.mem_of_getElem? (i := 62) rfl))) (Or.inr (hw _ (List.mem_of_getElem? (i := 64) rfl))) (by decide) (t := (.array .double)) (t' := (.array (.array .int))) (by decide) (by decide)))).ext E212).other W235 (Or.inr (slot_ne (Or.inr (hw _ (List.mem_of_getElem? (i := 62) rfl))) (Or.inr (hw _ (List.mem_of_getElem? (i := 66) rfl))) (by decide) (t := (.array .double)) (t' := (.array (.array .double))) (by decide) (by decide)))).ext E240).other W241 (Or.inr (slot_ne (Or.inr (hw _ (List.mem_of_getElem? (i := 62) rfl))) (Or.inr (hw _ (List.mem_of_getElem? (i := 68) rfl))) (by decide) (t := (.array .double)) (t' := (.array .int)) (by decide) (by decide)))).ext E246).other W247 (Or.inr (slot_ne (Or.inr (hw _ (List.mem_of_getElem? (i := 62) rfl))) (Or.inr (hw _ (List.mem_of_getElem? (i := 70) rfl))) (by decide) (t := (.array .double)) (t' := (.array .double)) (by decide) (by decide)))).ext E252).other W253 (Or.inr (slot_ne (Or.inr (hw _ (List.mem_of_getElem? (i := 62) rfl))) (Or.inr (hw _ (List.mem_of_getElem? (i := 72) rfl))) (by decide) (t := (.array .double)) (t' := (.array .int)) (by decide) (by decide)))).ext E258).other W283 (Or.inr (slot_ne (Or.inr (hw _ (List.mem_of_getElem? (i := 62) rfl))) (Or.inl (hw _ (List.mem_of_getElem? (i := 74) rfl))) (by decide) (t := (.array .double)) (t' := (.array .int)) (by decide) (by decide)))).ext E288).other W315 (Or.inr (slot_ne (Or.inr (hw _ (List.mem_of_getElem? (i := 62) rfl))) (Or.inl (hw _ (List.mem_of_getElem? (i := 76) rfl))) (by decide) (t := (.array .double)) (t' := (.array .double)) (by decide) (by decide)))).ext E320).other W321 (Or.inr (slot_ne (Or.inr (hw _ (List.mem_of_getElem? (i := 62) rfl))) (Or.inl (hw _ (List.mem_of_getElem? (i := 78) rfl))) (by decide) (t := (.array .double)) (t' := (.array .double)) (by decide) (by decide)))).keep K327 (ninS nq276 nin0)).keep K331 (ninS nq308 nin0)).other W337 (Or.inl nq74))
  obtain ⟨T339, X339, e339, st339⟩ := getF X337 hx hZ hown (host := "") (Or.inl (hw _ (List.mem_of_getElem? (i := 61) rfl))) Via.refl e337 f340 (g := (mkF m 329 #[.val (.ref o), .val (.ref p0), .val (.ref p1), .val (.ref p2), .val (.int (0 : Int32))] [(.ref o)])) rfl rfl (hb hby d1_329)
  refine own_go st339 ?_
  show own_Go _ _ _ _ _ _ _ (T339.setTop (mkF m 332 #[.val (.ref o), .val (.ref p0), .val (.ref p1), .val (.ref p2), .val (.int (0 : Int32))] [(.ref b162)]))
  refine own_go (fun _ q => XS.iload X339.here hx rfl (hb hby d1_332) rfl q) ?_
  show own_Go _ _ _ _ _ _ _ (T339.setTop (mkF m 334 #[.val (.ref o), .val (.ref p0), .val (.ref p1), .val (.ref p2), .val (.int (0 : Int32))] [(.int (0 : Int32)), (.ref b162)]))
  refine own_go (fun _ q => XS.aloadN X339.here hx rfl (hb hby d1_334) rfl rfl q) ?_
  show own_Go _ _ _ _ _ _ _ (T339.setTop (mkF m 335 #[.val (.ref o), .val (.ref p0), .val (.ref p1), .val (.ref p2), .val (.int (0 : Int32))] [(.ref o), (.int (0 : Int32)), (.ref b162)]))
  have f342 := (f335.other W337 (Or.inl nq74))
  obtain ⟨T341, X341, e341, st341⟩ := getF X339 hx hZ hown (host := "") (Or.inl (hw _ (List.mem_of_getElem? (i := 50) rfl))) Via.refl e339 f342 (g := (mkF m 335 #[.val (.ref o), .val (.ref p0), .val (.ref p1), .val (.ref p2), .val (.int (0 : Int32))] [(.ref o), (.int (0 : Int32)), (.ref b162)])) rfl rfl (hb hby d1_335)
  refine own_go st341 ?_
  show own_Go _ _ _ _ _ _ _ (T341.setTop (mkF m 338 #[.val (.ref o), .val (.ref p0), .val (.ref p1), .val (.ref p2), .val (.int (0 : Int32))] [(.ref b72), (.int (0 : Int32)), (.ref b162)]))
  refine own_go (fun _ q => XS.iload X341.here hx rfl (hb hby d1_338) rfl q) ?_
  show own_Go _ _ _ _ _ _ _ (T341.setTop (mkF m 340 #[.val (.ref o), .val (.ref p0), .val (.ref p1), .val (.ref p2), .val (.int (0 : Int32))] [(.int (0 : Int32)), (.ref b72), (.int (0 : Int32)), (.ref b162)]))
  refine own_daload X341 hx hZ e341 A337 (i := 0) rfl (by decide) rfl (hb hby d1_340) rfl ?_
  show own_Go _ _ _ _ _ _ _ (T341.setTop (mkF m 341 #[.val (.ref o), .val (.ref p0), .val (.ref p1), .val (.ref p2), .val (.int (0 : Int32))] [(.double (FP.dneg u0)), (.int (0 : Int32)), (.ref b162)]))
  have f344 := (((((((f295.ext E288).other W315 (Ne.symm nq174)).ext E320).other W321 (Ne.symm nq174)).keep K327 (ninS nq266 nin0)).keep K331 (ninS nq296 nin0)).other W337 (Ne.symm nq170))
  refine own_dastore X341 hx hZ e341 (i := 0) f344 rfl (by decide) (hb hby d1_341) rfl ?_
  intro T343 h343 X343 e343 W343 A343
  have N343 := Fr.snoc X343 N337 G162
  have Z343 : n0 ≤ h343.size := by rw [W343.size]; exact Z337
  show own_Go _ _ _ _ _ _ _ (T343.setTop (mkF m 342 #[.val (.ref o), .val (.ref p0), .val (.ref p1), .val (.ref p2), .val (.int (0 : Int32))] []))
  refine own_go (fun _ q => XS.aloadN X343.here hx rfl (hb hby d1_342) rfl rfl q) ?_
  show own_Go _ _ _ _ _ _ _ (T343.setTop (mkF m 343 #[.val (.ref o), .val (.ref p0), .val (.ref p1), .val (.ref p2), .val (.int (0 : Int32))] [(.ref o)]))
  have f346 := ((((((((((((((((((((((Fw157.ext E162).other W181 (Or.inr (slot_ne (Or.inr (hw _ (List.mem_of_getElem? (i := 60) rfl))) (Or.inr (hw _ (List.mem_of_getElem? (i := 62) rfl))) (by decide) (t := (.array .boolean)) (t' := (.array .double)) (by decide) (by decide)))).ext E186).other W207 (Or.inr (slot_ne (Or.inr (hw _ (List.mem_of_getElem? (i := 60) rfl))) (Or.inr (hw _ (List.mem_of_getElem? (i := 64) rfl))) (by decide) (t := (.array .boolean)) (t' := (.array (.array .int))) (by decide) (by decide)))).ext E212).other W235 (Or.inr (slot_ne (Or.inr (hw _ (List.mem_of_getElem? (i := 60) rfl))) (Or.inr (hw _ (List.mem_of_getElem? (i := 66) rfl))) (by decide) (t := (.array .boolean)) (t' := (.array (.array .double))) (by decide) (by decide)))).ext E240).other W241 (Or.inr (slot_ne (Or.inr (hw _ (List.mem_of_getElem? (i := 60) rfl))) (Or.inr (hw _ (List.mem_of_getElem? (i := 68) rfl))) (by decide) (t := (.array .boolean)) (t' := (.array .int)) (by decide) (by decide)))).ext E246).other W247 (Or.inr (slot_ne (Or.inr (hw _ (List.mem_of_getElem? (i := 60) rfl))) (Or.inr (hw _ (List.mem_of_getElem? (i := 70) rfl))) (by decide) (t := (.array .boolean)) (t' := (.array .double)) (by decide) (by decide)))).ext E252).other W253 (Or.inr (slot_ne (Or.inr (hw _ (List.mem_of_getElem? (i := 60) rfl))) (Or.inr (hw _ (List.mem_of_getElem? (i := 72) rfl))) (by decide) (t := (.array .boolean)) (t' := (.array .int)) (by decide) (by decide)))).ext E258).other W283 (Or.inr (slot_ne (Or.inr (hw _ (List.mem_of_getElem? (i := 60) rfl))) (Or.inl (hw _ (List.mem_of_getElem? (i := 74) rfl))) (by decide) (t := (.array .boolean)) (t' := (.array .int)) (by decide) (by decide)))).ext E288).other W315 (Or.inr (slot_ne (Or.inr (hw _ (List.mem_of_getElem? (i := 60) rfl))) (Or.inl (hw _ (List.mem_of_getElem? (i := 76) rfl))) (by decide) (t := (.array .boolean)) (t' := (.array .double)) (by decide) (by decide)))).ext E320).other W321 (Or.inr (slot_ne (Or.inr (hw _ (List.mem_of_getElem? (i := 60) rfl))) (Or.inl (hw _ (List.mem_of_getElem? (i := 78) rfl))) (by decide) (t := (.array .boolean)) (t' := (.array .double)) (by decide) (by decide)))).keep K327 (ninS nq276 nin0)).keep K331 (ninS nq308 nin0)).other W337 (Or.inl nq74)).other W343 (Or.inl nq174))
  obtain ⟨T345, X345, e345, st345⟩ := getF X343 hx hZ hown (host := "") (Or.inl (hw _ (List.mem_of_getElem? (i := 59) rfl))) Via.refl e343 f346 (g := (mkF m 343 #[.val (.ref o), .val (.ref p0), .val (.ref p1), .val (.ref p2), .val (.int (0 : Int32))] [(.ref o)])) rfl rfl (hb hby d1_343)
  refine own_go st345 ?_
  show own_Go _ _ _ _ _ _ _ (T345.setTop (mkF m 346 #[.val (.ref o), .val (.ref p0), .val (.ref p1), .val (.ref p2), .val (.int (0 : Int32))] [(.ref b140)]))
  refine own_go (fun _ q => XS.iload X345.here hx rfl (hb hby d1_346) rfl q) ?_
  show own_Go _ _ _ _ _ _ _ (T345.setTop (mkF m 348 #[.val (.ref o), .val (.ref p0), .val (.ref p1), .val (.ref p2), .val (.int (0 : Int32))] [(.int (0 : Int32)), (.ref b140)]))
  refine own_go (fun _ q => XS.aloadN X345.here hx rfl (hb hby d1_348) rfl rfl q) ?_
  show own_Go _ _ _ _ _ _ _ (T345.setTop (mkF m 349 #[.val (.ref o), .val (.ref p0), .val (.ref p1), .val (.ref p2), .val (.int (0 : Int32))] [(.ref o), (.int (0 : Int32)), (.ref b140)]))
  have f348 := (f342.other W343 (Or.inl nq174))
  obtain ⟨T347, X347, e347, st347⟩ := getF X345 hx hZ hown (host := "") (Or.inl (hw _ (List.mem_of_getElem? (i := 50) rfl))) Via.refl e345 f348 (g := (mkF m 349 #[.val (.ref o), .val (.ref p0), .val (.ref p1), .val (.ref p2), .val (.int (0 : Int32))] [(.ref o), (.int (0 : Int32)), (.ref b140)])) rfl rfl (hb hby d1_349)
  refine own_go st347 ?_
  show own_Go _ _ _ _ _ _ _ (T347.setTop (mkF m 352 #[.val (.ref o), .val (.ref p0), .val (.ref p1), .val (.ref p2), .val (.int (0 : Int32))] [(.ref b72), (.int (0 : Int32)), (.ref b140)]))
  refine own_go (fun _ q => XS.iload X347.here hx rfl (hb hby d1_352) rfl q) ?_
  show own_Go _ _ _ _ _ _ _ (T347.setTop (mkF m 354 #[.val (.ref o), .val (.ref p0), .val (.ref p1), .val (.ref p2), .val (.int (0 : Int32))] [(.int (0 : Int32)), (.ref b72), (.int (0 : Int32)), (.ref b140)]))
  have f349 := (A337.other W343 nq170)
  refine own_daload X347 hx hZ e347 f349 (i := 0) rfl (by decide) rfl (hb hby d1_354) rfl ?_
  show own_Go _ _ _ _ _ _ _ (T347.setTop (mkF m 355 #[.val (.ref o), .val (.ref p0), .val (.ref p1), .val (.ref p2), .val (.int (0 : Int32))] [(.double (FP.dneg u0)), (.int (0 : Int32)), (.ref b140)]))
  refine own_go (own_dconst0 X347 hx (g := (mkF m 355 #[.val (.ref o), .val (.ref p0), .val (.ref p1), .val (.ref p2), .val (.int (0 : Int32))] [(.double (FP.dneg u0)), (.int (0 : Int32)), (.ref b140)])) rfl (hb hby d1_355)) ?_
  show own_Go _ _ _ _ _ _ _ (T347.setTop (mkF m 356 #[.val (.ref o), .val (.ref p0), .val (.ref p1), .val (.ref p2), .val (.int (0 : Int32))] [(.double FP.dconst0), (.double (FP.dneg u0)), (.int (0 : Int32)), (.ref b140)]))
  refine own_go (own_dcmp X347 hx (g := (mkF m 356 #[.val (.ref o), .val (.ref p0), .val (.ref p1), .val (.ref p2), .val (.int (0 : Int32))] [(.double FP.dconst0), (.double (FP.dneg u0)), (.int (0 : Int32)), (.ref b140)])) rfl (o := oc0) hoc0 (hb hby d1_356) rfl) ?_
  show own_Go _ _ _ _ _ _ _ (T347.setTop (mkF m 357 #[.val (.ref o), .val (.ref p0), .val (.ref p1), .val (.ref p2), .val (.int (0 : Int32))] [(.int (own_oi oc0)), (.int (0 : Int32)), (.ref b140)]))
  refine own_via (t' := T347.setTop (mkF m 365 #[.val (.ref o), .val (.ref p0), .val (.ref p1), .val (.ref p2), .val (.int (0 : Int32))] [(.int z0), (.int (0 : Int32)), (.ref b140)])) ?_ (fun tail0 => ?_)
  · show own_Go _ _ _ _ _ _ _ (T347.setTop (mkF m 365 #[.val (.ref o), .val (.ref p0), .val (.ref p1), .val (.ref p2), .val (.int (0 : Int32))] [(.int z0), (.int (0 : Int32)), (.ref b140)]))
    have f351 := ((((((((f293.ext E288).other W315 (Ne.symm nq150)).ext E320).other W321 (Ne.symm nq150)).keep K327 (ninS nq264 nin0)).keep K331 (ninS nq294 nin0)).other W337 (Ne.symm nq146)).other W343 nq168)
    refine own_bastore X347 hx hZ e347 (i := 0) f351 h01_0 rfl (by decide) (hb hby d1_365) rfl ?_
    intro T350 h350 X350 e350 W350 A350
    have N350 := Fr.snoc X350 N343 G140
    have Z350 : n0 ≤ h350.size := by rw [W350.size]; exact Z343
    show own_Go _ _ _ _ _ _ _ (T350.setTop (mkF m 366 #[.val (.ref o), .val (.ref p0), .val (.ref p1), .val (.ref p2), .val (.int (0 : Int32))] []))
    refine own_go (fun _ q => XS.aloadN X350.here hx rfl (hb hby d1_366) rfl rfl q) ?_
    show own_Go _ _ _ _ _ _ _ (T350.setTop (mkF m 367 #[.val (.ref o), .val (.ref p0), .val (.ref p1), .val (.ref p2), .val (.int (0 : Int32))] [(.ref o)]))
    have f353 := (((((((((((((((((((Fw207.ext E212).other W235 (Or.inr (slot_ne (Or.inr (hw _ (List.mem_of_getElem? (i := 64) rfl))) (Or.inr (hw _ (List.mem_of_getElem? (i := 66) rfl))) (by decide) (t := (.array (.array .int))) (t' := (.array (.array .double))) (by decide) (by decide)))).ext E240).other W241 (Or.inr (slot_ne (Or.inr (hw _ (List.mem_of_getElem? (i := 64) rfl))) (Or.inr (hw _ (List.mem_of_getElem? (i := 68) rfl))) (by decide) (t := (.array (.array .int))) (t' := (.array .int)) (by decide) (by decide)))).ext E246).other W247 (Or.inr (slot_ne (Or.inr (hw _ (List.mem_of_getElem? (i := 64) rfl))) (Or.inr (hw _ (List.mem_of_getElem? (i := 70) rfl))) (by decide) (t := (.array (.array .int))) (t' := (.array .double)) (by decide) (by decide)))).ext E252).other W253 (Or.inr (slot_ne (Or.inr (hw _ (List.mem_of_getElem? (i := 64) rfl))) (Or.inr (hw _ (List.mem_of_getElem? (i := 72) rfl))) (by decide) (t := (.array (.array .int))) (t' := (.array .int)) (by decide) (by decide)))).ext E258).other W283 (Or.inr (slot_ne (Or.inr (hw _ (List.mem_of_getElem? (i := 64) rfl))) (Or.inl (hw _ (List.mem_of_getElem? (i := 74) rfl))) (by decide) (t := (.array (.array .int))) (t' := (.array .int)) (by decide) (by decide)))).ext E288).other W315 (Or.inr (slot_ne (Or.inr (hw _ (List.mem_of_getElem? (i := 64) rfl))) (Or.inl (hw _ (List.mem_of_getElem? (i := 76) rfl))) (by decide) (t := (.array (.array .int))) (t' := (.array .double)) (by decide) (by decide)))).ext E320).other W321 (Or.inr (slot_ne (Or.inr (hw _ (List.mem_of_getElem? (i := 64) rfl))) (Or.inl (hw _ (List.mem_of_getElem? (i := 78) rfl))) (by decide) (t := (.array (.array .int))) (t' := (.array .double)) (by decide) (by decide)))).keep K327 (ninS nq276 nin0)).keep K331 (ninS nq308 nin0)).other W337 (Or.inl nq74)).other W343 (Or.inl nq174)).other W350 (Or.inl nq150))
    obtain ⟨T352, X352, e352, st352⟩ := getF X350 hx hZ hown (host := "") (Or.inl (hw _ (List.mem_of_getElem? (i := 63) rfl))) Via.refl e350 f353 (g := (mkF m 367 #[.val (.ref o), .val (.ref p0), .val (.ref p1), .val (.ref p2), .val (.int (0 : Int32))] [(.ref o)])) rfl rfl (hb hby d1_367)
    refine own_go st352 ?_
    show own_Go _ _ _ _ _ _ _ (T352.setTop (mkF m 370 #[.val (.ref o), .val (.ref p0), .val (.ref p1), .val (.ref p2), .val (.int (0 : Int32))] [(.ref b186)]))
    refine own_go (fun _ q => XS.iload X352.here hx rfl (hb hby d1_370) rfl q) ?_
    show own_Go _ _ _ _ _ _ _ (T352.setTop (mkF m 372 #[.val (.ref o), .val (.ref p0), .val (.ref p1), .val (.ref p2), .val (.int (0 : Int32))] [(.int (0 : Int32)), (.ref b186)]))
    refine own_go (fun _ q => XS.iconst X352.here hx rfl (hb hby d1_372) q) ?_
    show own_Go _ _ _ _ _ _ _ (T352.setTop (mkF m 373 #[.val (.ref o), .val (.ref p0), .val (.ref p1), .val (.ref p2), .val (.int (0 : Int32))] [(.int (4 : Int32)), (.int (0 : Int32)), (.ref b186)]))
    obtain ⟨T354, h354, k354, X354, e354, E354, Aw354, Ex354, st354⟩ := newPE X352 hx hZ (hw _ (List.mem_of_getElem? (i := 25) rfl)) e352 (g := (mkF m 373 #[.val (.ref o), .val (.ref p0), .val (.ref p1), .val (.ref p2), .val (.int (0 : Int32))] [(.int (4 : Int32)), (.int (0 : Int32)), (.ref b186)])) rfl (hb hby d1_373) rfl (by decide) (cap := 4) (by decide) (by decide) (by decide) (by decide) (ad := "[I") (by decide)
    obtain ⟨b354, g354⟩ : ∃ z, z = h350.size := ⟨_, rfl⟩
    rw [← g354] at Aw354 st354 Ex354
    have f355 := (((((((((f289.ext E288).other W315 (Ne.symm nq108)).ext E320).other W321 (Ne.symm nq108)).keep K327 (ninS nq260 nin0)).keep K331 (ninS nq290 nin0)).other W337 (Ne.symm nq104)).other W343 nq164).other W350 nq142)
    have nq356 : b102 ≠ b354 := Nat.ne_of_lt (Nat.lt_of_lt_of_eq (f355).lt g354.symm)
    have f357 := (((((((((f291.ext E288).other W315 (Ne.symm nq128)).ext E320).other W321 (Ne.symm nq128)).keep K327 (ninS nq262 nin0)).keep K331 (ninS nq292 nin0)).other W337 (Ne.symm nq124)).other W343 nq166).other W350 nq144)
    have nq358 : b120 ≠ b354 := Nat.ne_of_lt (Nat.lt_of_lt_of_eq (f357).lt g354.symm)
    have nq359 : b140 ≠ b354 := Nat.ne_of_lt (Nat.lt_of_lt_of_eq (A350).lt g354.symm)
    have f360 := (A343.other W350 (Ne.symm nq168))
    have nq361 : b162 ≠ b354 := Nat.ne_of_lt (Nat.lt_of_lt_of_eq (f360).lt g354.symm)
    have f362 := (((((((((f297.ext E288).other W315 (Ne.symm nq200)).ext E320).other W321 (Ne.symm nq200)).keep K327 (ninS nq268 nin0)).keep K331 (ninS nq298 nin0)).other W337 (Ne.symm nq196)).other W343 (Ne.symm nq194)).other W350 (Ne.symm nq192))
    have nq363 : b186 ≠ b354 := Nat.ne_of_lt (Nat.lt_of_lt_of_eq (f362).lt g354.symm)
    have f364 := (((((((((f299.ext E288).other W315 (Ne.symm nq228)).ext E320).other W321 (Ne.symm nq228)).keep K327 (ninS nq270 nin0)).keep K331 (ninS nq300 nin0)).other W337 (Ne.symm nq224)).other W343 (Ne.symm nq220)).other W350 (Ne.symm nq218))
    have nq365 : b212 ≠ b354 := Nat.ne_of_lt (Nat.lt_of_lt_of_eq (f364).lt g354.symm)
    have f366 := ((((A327f.keep K331 (ninS nq302 nin0)).other W337 (Ne.symm nq272)).other W343 (Ne.symm nq266)).other W350 (Ne.symm nq264))
    have nq367 : b258 ≠ b354 := Nat.ne_of_lt (Nat.lt_of_lt_of_eq (f366).lt g354.symm)
    have f368 := (f349.other W350 nq146)
    have nq369 : b72 ≠ b354 := Nat.ne_of_lt (Nat.lt_of_lt_of_eq (f368).lt g354.symm)
    have f370 := (((((((((f305.ext E288).other W315 (Ne.symm nq90)).ext E320).other W321 (Ne.symm nq90)).keep K327 (ninS nq274 nin0)).keep K331 (ninS nq306 nin0)).other W337 (Ne.symm nq88)).other W343 nq172).other W350 nq148)
    have nq371 : b86 ≠ b354 := Nat.ne_of_lt (Nat.lt_of_lt_of_eq (f370).lt g354.symm)
    have f372 := ((((((f323.wr W321).keep K327).keep K331).wr W337).wr W343).wr W350)
    have nq373 : o ≠ b354 := Nat.ne_of_lt (Nat.lt_of_lt_of_eq (f372).lt g354.symm)
    have f374 := (((f336.other W337 nq76).other W343 nq176).other W350 nq152)
    have nq375 : p0 ≠ b354 := Nat.ne_of_lt (Nat.lt_of_lt_of_eq (f374).lt g354.symm)
    have f376 := (((((((((f311.ext E288).other W315 n_p1).ext E320).other W321 n_p1).keep K327 (ninS nq280 nin0)).keep K331 (ninS nq312 nin0)).other W337 nq78).other W343 nq178).other W350 nq154)
    have nq377 : p1 ≠ b354 := Nat.ne_of_lt (Nat.lt_of_lt_of_eq (f376).lt g354.symm)
    have f378 := (((((((((f313.ext E288).other W315 n_p2).ext E320).other W321 n_p2).keep K327 (ninS nq282 nin0)).keep K331 (ninS nq314 nin0)).other W337 nq80).other W343 nq180).other W350 nq156)
    have nq379 : p2 ≠ b354 := Nat.ne_of_lt (Nat.lt_of_lt_of_eq (f378).lt g354.symm)
    have G354 : n0 ≤ b354 := Nat.le_trans Z350 (Nat.le_of_eq g354.symm)
    have Z354 : n0 ≤ h354.size := Nat.le_trans Z350 E354.1
    refine own_go st354 ?_
    show own_Go _ _ _ _ _ _ _ (T354.setTop (mkF m 375 #[.val (.ref o), .val (.ref p0), .val (.ref p1), .val (.ref p2), .val (.int (0 : Int32))] [(.ref b354), (.int (0 : Int32)), (.ref b186)]))
    have f380 := (((((((((((((((((((((St186.wr W207).ext E212).wr W235).ext E240).wr W241).ext E246).wr W247).ext E252).wr W253).ext E258).wr W283).ext E288).wr W315).ext E320).wr W321).keep K327).keep K331).wr W337).wr W343).wr W350).ext E354)
    have f381 := (f362.ext E354)
    refine own_aastore X354 hx hZ e354 (i := 0) rfl f381 (f380.sto f381 (Ins.self Ex354)) rfl (by decide) (hb hby d1_375) rfl ?_
    intro T382 h382 X382 e382 W382 A382
    have N382 := Fr.snoc X382 N350 G186
    have Z382 : n0 ≤ h382.size := by rw [W382.size]; exact Z354
    show own_Go _ _ _ _ _ _ _ (T382.setTop (mkF m 376 #[.val (.ref o), .val (.ref p0), .val (.ref p1), .val (.ref p2), .val (.int (0 : Int32))] []))
    refine own_go (fun _ q => XS.aloadN X382.here hx rfl (hb hby d1_376) rfl rfl q) ?_
    show own_Go _ _ _ _ _ _ _ (T382.setTop (mkF m 377 #[.val (.ref o), .val (.ref p0), .val (.ref p1), .val (.ref p2), .val (.int (0 : Int32))] [(.ref o)]))
    have f384 := (((((((((((((((((((Fw235.ext E240).other W241 (Or.inr (slot_ne (Or.inr (hw _ (List.mem_of_getElem? (i := 66) rfl))) (Or.inr (hw _ (List.mem_of_getElem? (i := 68) rfl))) (by decide) (t := (.array (.array .double))) (t' := (.array .int)) (by decide) (by decide)))).ext E246).other W247 (Or.inr (slot_ne (Or.inr (hw _ (List.mem_of_getElem? (i := 66) rfl))) (Or.inr (hw _ (List.mem_of_getElem? (i := 70) rfl))) (by decide) (t := (.array (.array .double))) (t' := (.array .double)) (by decide) (by decide)))).ext E252).other W253 (Or.inr (slot_ne (Or.inr (hw _ (List.mem_of_getElem? (i := 66) rfl))) (Or.inr (hw _ (List.mem_of_getElem? (i := 72) rfl))) (by decide) (t := (.array (.array .double))) (t' := (.array .int)) (by decide) (by decide)))).ext E258).other W283 (Or.inr (slot_ne (Or.inr (hw _ (List.mem_of_getElem? (i := 66) rfl))) (Or.inl (hw _ (List.mem_of_getElem? (i := 74) rfl))) (by decide) (t := (.array (.array .double))) (t' := (.array .int)) (by decide) (by decide)))).ext E288).other W315 (Or.inr (slot_ne (Or.inr (hw _ (List.mem_of_getElem? (i := 66) rfl))) (Or.inl (hw _ (List.mem_of_getElem? (i := 76) rfl))) (by decide) (t := (.array (.array .double))) (t' := (.array .double)) (by decide) (by decide)))).ext E320).other W321 (Or.inr (slot_ne (Or.inr (hw _ (List.mem_of_getElem? (i := 66) rfl))) (Or.inl (hw _ (List.mem_of_getElem? (i := 78) rfl))) (by decide) (t := (.array (.array .double))) (t' := (.array .double)) (by decide) (by decide)))).keep K327 (ninS nq276 nin0)).keep K331 (ninS nq308 nin0)).other W337 (Or.inl nq74)).other W343 (Or.inl nq174)).other W350 (Or.inl nq150)).ext E354).other W382 (Or.inl nq200))
    obtain ⟨T383, X383, e383, st383⟩ := getF X382 hx hZ hown (host := "") (Or.inl (hw _ (List.mem_of_getElem? (i := 65) rfl))) Via.refl e382 f384 (g := (mkF m 377 #[.val (.ref o), .val (.ref p0), .val (.ref p1), .val (.ref p2), .val (.int (0 : Int32))] [(.ref o)])) rfl rfl (hb hby d1_377)
    refine own_go st383 ?_
    show own_Go _ _ _ _ _ _ _ (T383.setTop (mkF m 380 #[.val (.ref o), .val (.ref p0), .val (.ref p1), .val (.ref p2), .val (.int (0 : Int32))] [(.ref b212)]))
    refine own_go (fun _ q => XS.iload X383.here hx rfl (hb hby d1_380) rfl q) ?_
    show own_Go _ _ _ _ _ _ _ (T383.setTop (mkF m 382 #[.val (.ref o), .val (.ref p0), .val (.ref p1), .val (.ref p2), .val (.int (0 : Int32))] [(.int (0 : Int32)), (.ref b212)]))
    refine own_go (fun _ q => XS.iconst X383.here hx rfl (hb hby d1_382) q) ?_
    show own_Go _ _ _ _ _ _ _ (T383.setTop (mkF m 383 #[.val (.ref o), .val (.ref p0), .val (.ref p1), .val (.ref p2), .val (.int (0 : Int32))] [(.int (4 : Int32)), (.int (0 : Int32)), (.ref b212)]))
    obtain ⟨T385, h385, k385, X385, e385, E385, Aw385, Ex385, st385⟩ := newPE X383 hx hZ (hw _ (List.mem_of_getElem? (i := 1) rfl)) e383 (g := (mkF m 383 #[.val (.ref o), .val (.ref p0), .val (.ref p1), .val (.ref p2), .val (.int (0 : Int32))] [(.int (4 : Int32)), (.int (0 : Int32)), (.ref b212)])) rfl (hb hby d1_383) rfl (by decide) (cap := 4) (by decide) (by decide) (by decide) (by decide) (ad := "[D") (by decide)
    obtain ⟨b385, g385⟩ : ∃ z, z = h382.size := ⟨_, rfl⟩
    rw [← g385] at Aw385 st385 Ex385
    have f386 := ((f355.ext E354).other W382 nq188)
    have nq387 : b102 ≠ b385 := Nat.ne_of_lt (Nat.lt_of_lt_of_eq (f386).lt g385.symm)
    have f388 := ((f357.ext E354).other W382 nq190)
    have nq389 : b120 ≠ b385 := Nat.ne_of_lt (Nat.lt_of_lt_of_eq (f388).lt g385.symm)
    have f390 := ((A350.ext E354).other W382 nq192)
    have nq391 : b140 ≠ b385 := Nat.ne_of_lt (Nat.lt_of_lt_of_eq (f390).lt g385.symm)
    have f392 := ((f360.ext E354).other W382 nq194)
    have nq393 : b162 ≠ b385 := Nat.ne_of_lt (Nat.lt_of_lt_of_eq (f392).lt g385.symm)
    have nq394 : b186 ≠ b385 := Nat.ne_of_lt (Nat.lt_of_lt_of_eq (A382).lt g385.symm)
    have f395 := ((f364.ext E354).other W382 (Ne.symm nq222))
    have nq396 : b212 ≠ b385 := Nat.ne_of_lt (Nat.lt_of_lt_of_eq (f395).lt g385.symm)
    have f397 := ((f366.ext E354).other W382 (Ne.symm nq268))
    have nq398 : b258 ≠ b385 := Nat.ne_of_lt (Nat.lt_of_lt_of_eq (f397).lt g385.symm)
    have f399 := ((f368.ext E354).other W382 nq196)
    have nq400 : b72 ≠ b385 := Nat.ne_of_lt (Nat.lt_of_lt_of_eq (f399).lt g385.symm)
    have f401 := ((f370.ext E354).other W382 nq198)
    have nq402 : b86 ≠ b385 := Nat.ne_of_lt (Nat.lt_of_lt_of_eq (f401).lt g385.symm)
    have f403 := ((f372.ext E354).wr W382)
    have nq404 : o ≠ b385 := Nat.ne_of_lt (Nat.lt_of_lt_of_eq (f403).lt g385.symm)
    have f405 := ((f374.ext E354).other W382 nq202)
    have nq406 : p0 ≠ b385 := Nat.ne_of_lt (Nat.lt_of_lt_of_eq (f405).lt g385.symm)
    have f407 := ((f376.ext E354).other W382 nq204)
    have nq408 : p1 ≠ b385 := Nat.ne_of_lt (Nat.lt_of_lt_of_eq (f407).lt g385.symm)
    have f409 := ((f378.ext E354).other W382 nq206)
    have nq410 : p2 ≠ b385 := Nat.ne_of_lt (Nat.lt_of_lt_of_eq (f409).lt g385.symm)
    have G385 : n0 ≤ b385 := Nat.le_trans Z382 (Nat.le_of_eq g385.symm)
    have Z385 : n0 ≤ h385.size := Nat.le_trans Z382 E385.1
    refine own_go st385 ?_
    show own_Go _ _ _ _ _ _ _ (T385.setTop (mkF m 385 #[.val (.ref o), .val (.ref p0), .val (.ref p1), .val (.ref p2), .val (.int (0 : Int32))] [(.ref b385), (.int (0 : Int32)), (.ref b212)]))
    have f411 := (((((((((((((((((((((St212.wr W235).ext E240).wr W241).ext E246).wr W247).ext E252).wr W253).ext E258).wr W283).ext E288).wr W315).ext E320).wr W321).keep K327).keep K331).wr W337).wr W343).wr W350).ext E354).wr W382).ext E385)
    have f412 := (f395.ext E385)
    refine own_aastore X385 hx hZ e385 (i := 0) rfl f412 (f411.sto f412 (Ins.self Ex385)) rfl (by decide) (hb hby d1_385) rfl ?_
    intro T413 h413 X413 e413 W413 A413
    have N413 := Fr.snoc X413 N382 G212
    have Z413 : n0 ≤ h413.size := by rw [W413.size]; exact Z385
    show own_Go _ _ _ _ _ _ _ (T413.setTop (mkF m 386 #[.val (.ref o), .val (.ref p0), .val (.ref p1), .val (.ref p2), .val (.int (0 : Int32))] []))
    refine own_go (fun _ q => XS.iinc X413.here hx rfl (hb hby d1_386) rfl (l' := #[.val (.ref o), .val (.ref p0), .val (.ref p1), .val (.ref p2), .val (.int ((0 : Int32) + (1 : Int32)))]) rfl q) ?_
    show own_Go _ _ _ _ _ _ _ (T413.setTop (mkF m 389 #[.val (.ref o), .val (.ref p0), .val (.ref p1), .val (.ref p2), .val (.int ((0 : Int32) + (1 : Int32)))] []))
    show own_Go _ _ _ _ _ _ _ (T413.setTop (mkF m 389 #[.val (.ref o), .val (.ref p0), .val (.ref p1), .val (.ref p2), .val (.int (1 : Int32))] []))
    refine own_go (fun _ q => XS.goto X413.here hx rfl (pc0 := 389) (pc' := 307) rfl (hb hby d1_389) (by decide) (by decide) q) ?_
    show own_Go _ _ _ _ _ _ _ (T413.setTop (mkF m 307 #[.val (.ref o), .val (.ref p0), .val (.ref p1), .val (.ref p2), .val (.int (1 : Int32))] []))
    refine own_go (fun _ q => XS.iload X413.here hx rfl (hb hby d1_307) rfl q) ?_
    show own_Go _ _ _ _ _ _ _ (T413.setTop (mkF m 309 #[.val (.ref o), .val (.ref p0), .val (.ref p1), .val (.ref p2), .val (.int (1 : Int32))] [(.int (1 : Int32))]))
    refine own_go (fun _ q => XS.aloadN X413.here hx rfl (hb hby d1_309) rfl rfl q) ?_
    show own_Go _ _ _ _ _ _ _ (T413.setTop (mkF m 310 #[.val (.ref o), .val (.ref p0), .val (.ref p1), .val (.ref p2), .val (.int (1 : Int32))] [(.ref o), (.int (1 : Int32))]))
    have f415 := (((((((f333.other W337 (Or.inl nq74)).other W343 (Or.inl nq174)).other W350 (Or.inl nq150)).ext E354).other W382 (Or.inl nq200)).ext E385).other W413 (Or.inl nq228))
    obtain ⟨T414, X414, e414, st414⟩ := getF X413 hx hZ hown (host := "") (Or.inl (hw _ (List.mem_of_getElem? (i := 48) rfl))) Via.refl e413 f415 (g := (mkF m 310 #[.val (.ref o), .val (.ref p0), .val (.ref p1), .val (.ref p2), .val (.int (1 : Int32))] [(.ref o), (.int (1 : Int32))])) rfl rfl (hb hby d1_310)
    refine own_go st414 ?_
    show own_Go _ _ _ _ _ _ _ (T414.setTop (mkF m 313 #[.val (.ref o), .val (.ref p0), .val (.ref p1), .val (.ref p2), .val (.int (1 : Int32))] [(.int (2 : Int32)), (.int (1 : Int32))]))
    refine own_go (fun _ q => XS.icmpNo X414.here hx rfl (hb hby d1_313) rfl (tlt (by decide : (1 : Int32) < (2 : Int32))).2.1 q) ?_
    show own_Go _ _ _ _ _ _ _ (T414.setTop (mkF m 316 #[.val (.ref o), .val (.ref p0), .val (.ref p1), .val (.ref p2), .val (.int (1 : Int32))] []))
    refine own_go (fun _ q => XS.aloadN X414.here hx rfl (hb hby d1_316) rfl rfl q) ?_
    show own_Go _ _ _ _ _ _ _ (T414.setTop (mkF m 317 #[.val (.ref o), .val (.ref p0), .val (.ref p1), .val (.ref p2), .val (.int (1 : Int32))] [(.ref o)]))
    have f417 := (((((f348.other W350 (Or.inl nq150)).ext E354).other W382 (Or.inl nq200)).ext E385).other W413 (Or.inl nq228))
    obtain ⟨T416, X416, e416, st416⟩ := getF X414 hx hZ hown (host := "") (Or.inl (hw _ (List.mem_of_getElem? (i := 50) rfl))) Via.refl e414 f417 (g := (mkF m 317 #[.val (.ref o), .val (.ref p0), .val (.ref p1), .val (.ref p2), .val (.int (1 : Int32))] [(.ref o)])) rfl rfl (hb hby d1_317)
    refine own_go st416 ?_
    show own_Go _ _ _ _ _ _ _ (T416.setTop (mkF m 320 #[.val (.ref o), .val (.ref p0), .val (.ref p1), .val (.ref p2), .val (.int (1 : Int32))] [(.ref b72)]))
    refine own_go (fun _ q => XS.iload X416.here hx rfl (hb hby d1_320) rfl q) ?_
    show own_Go _ _ _ _ _ _ _ (T416.setTop (mkF m 322 #[.val (.ref o), .val (.ref p0), .val (.ref p1), .val (.ref p2), .val (.int (1 : Int32))] [(.int (1 : Int32)), (.ref b72)]))
    refine own_go (fun _ q => XS.aloadN X416.here hx rfl (hb hby d1_322) rfl rfl q) ?_
    show own_Go _ _ _ _ _ _ _ (T416.setTop (mkF m 323 #[.val (.ref o), .val (.ref p0), .val (.ref p1), .val (.ref p2), .val (.int (1 : Int32))] [(.ref p0), (.int (1 : Int32)), (.ref b72)]))
    refine own_go (fun _ q => XS.iload X416.here hx rfl (hb hby d1_323) rfl q) ?_
    show own_Go _ _ _ _ _ _ _ (T416.setTop (mkF m 325 #[.val (.ref o), .val (.ref p0), .val (.ref p1), .val (.ref p2), .val (.int (1 : Int32))] [(.int (1 : Int32)), (.ref p0), (.int (1 : Int32)), (.ref b72)]))
    have f418 := ((f405.ext E385).other W413 nq230)
    refine own_daload X416 hx hZ e416 f418 (i := 1) rfl (by decide) h0_1 (hb hby d1_325) rfl ?_
    show own_Go _ _ _ _ _ _ _ (T416.setTop (mkF m 326 #[.val (.ref o), .val (.ref p0), .val (.ref p1), .val (.ref p2), .val (.int (1 : Int32))] [(.double u1), (.int (1 : Int32)), (.ref b72)]))
    refine own_go (own_dneg X416 hx (g := (mkF m 326 #[.val (.ref o), .val (.ref p0), .val (.ref p1), .val (.ref p2), .val (.int (1 : Int32))] [(.double u1), (.int (1 : Int32)), (.ref b72)])) rfl (hb hby d1_326) rfl) ?_
    show own_Go _ _ _ _ _ _ _ (T416.setTop (mkF m 327 #[.val (.ref o), .val (.ref p0), .val (.ref p1), .val (.ref p2), .val (.int (1 : Int32))] [(.double (FP.dneg u1)), (.int (1 : Int32)), (.ref b72)]))
    have f420 := ((f399.ext E385).other W413 nq224)
    refine own_dastore X416 hx hZ e416 (i := 1) f420 rfl (by decide) (hb hby d1_327) rfl ?_
    intro T419 h419 X419 e419 W419 A419
    have N419 := Fr.snoc X419 N413 G72
    have Z419 : n0 ≤ h419.size := by rw [W419.size]; exact Z413
    show own_Go _ _ _ _ _ _ _ (T419.setTop (mkF m 328 #[.val (.ref o), .val (.ref p0), .val (.ref p1), .val (.ref p2), .val (.int (1 : Int32))] []))
    refine own_go (fun _ q => XS.aloadN X419.here hx rfl (hb hby d1_328) rfl rfl q) ?_
    show own_Go _ _ _ _ _ _ _ (T419.setTop (mkF m 329 #[.val (.ref o), .val (.ref p0), .val (.ref p1), .val (.ref p2), .val (.int (1 : Int32))] [(.ref o)]))
    have f422 := (((((((f340.other W343 (Or.inl nq174)).other W350 (Or.inl nq150)).ext E354).other W382 (Or.inl nq200)).ext E385).other W413 (Or.inl nq228)).other W419 (Or.inl nq74))
    obtain ⟨T421, X421, e421, st421⟩ := getF X419 hx hZ hown (host := "") (Or.inl (hw _ (List.mem_of_getElem? (i := 61) rfl))) Via.refl e419 f422 (g := (mkF m 329 #[.val (.ref o), .val (.ref p0), .val (.ref p1), .val (.ref p2), .val (.int (1 : Int32))] [(.ref o)])) rfl rfl (hb hby d1_329)
    refine own_go st421 ?_
    show own_Go _ _ _ _ _ _ _ (T421.setTop (mkF m 332 #[.val (.ref o), .val (.ref p0), .val (.ref p1), .val (.ref p2), .val (.int (1 : Int32))] [(.ref b162)]))
    refine own_go (fun _ q => XS.iload X421.here hx rfl (hb hby d1_332) rfl q) ?_
    show own_Go _ _ _ _ _ _ _ (T421.setTop (mkF m 334 #[.val (.ref o), .val (.ref p0), .val (.ref p1), .val (.ref p2), .val (.int (1 : Int32))] [(.int (1 : Int32)), (.ref b162)]))
    refine own_go (fun _ q => XS.aloadN X421.here hx rfl (hb hby d1_334) rfl rfl q) ?_
    show own_Go _ _ _ _ _ _ _ (T421.setTop (mkF m 335 #[.val (.ref o), .val (.ref p0), .val (.ref p1), .val (.ref p2), .val (.int (1 : Int32))] [(.ref o), (.int (1 : Int32)), (.ref b162)]))
    have f424 := (f417.other W419 (Or.inl nq74))
    obtain ⟨T423, X423, e423, st423⟩ := getF X421 hx hZ hown (host := "") (Or.inl (hw _ (List.mem_of_getElem? (i := 50) rfl))) Via.refl e421 f424 (g := (mkF m 335 #[.val (.ref o), .val (.ref p0), .val (.ref p1), .val (.ref p2), .val (.int (1 : Int32))] [(.ref o), (.int (1 : Int32)), (.ref b162)])) rfl rfl (hb hby d1_335)
    refine own_go st423 ?_
    show own_Go _ _ _ _ _ _ _ (T423.setTop (mkF m 338 #[.val (.ref o), .val (.ref p0), .val (.ref p1), .val (.ref p2), .val (.int (1 : Int32))] [(.ref b72), (.int (1 : Int32)), (.ref b162)]))
    refine own_go (fun _ q => XS.iload X423.here hx rfl (hb hby d1_338) rfl q) ?_
    show own_Go _ _ _ _ _ _ _ (T423.setTop (mkF m 340 #[.val (.ref o), .val (.ref p0), .val (.ref p1), .val (.ref p2), .val (.int (1 : Int32))] [(.int (1 : Int32)), (.ref b72), (.int (1 : Int32)), (.ref b162)]))
    refine own_daload X423 hx hZ e423 A419 (i := 1) rfl (by decide) rfl (hb hby d1_340) rfl ?_
    show own_Go _ _ _ _ _ _ _ (T423.setTop (mkF m 341 #[.val (.ref o), .val (.ref p0), .val (.ref p1), .val (.ref p2), .val (.int (1 : Int32))] [(.double (FP.dneg u1)), (.int (1 : Int32)), (.ref b162)]))
    have f426 := (((f392.ext E385).other W413 nq220).other W419 (Ne.symm nq170))
    refine own_dastore X423 hx hZ e423 (i := 1) f426 rfl (by decide) (hb hby d1_341) rfl ?_
    intro T425 h425 X425 e425 W425 A425
    have N425 := Fr.snoc X425 N419 G162
    have Z425 : n0 ≤ h425.size := by rw [W425.size]; exact Z419
    show own_Go _ _ _ _ _ _ _ (T425.setTop (mkF m 342 #[.val (.ref o), .val (.ref p0), .val (.ref p1), .val (.ref p2), .val (.int (1 : Int32))] []))
    refine own_go (fun _ q => XS.aloadN X425.here hx rfl (hb hby d1_342) rfl rfl q) ?_
    show own_Go _ _ _ _ _ _ _ (T425.setTop (mkF m 343 #[.val (.ref o), .val (.ref p0), .val (.ref p1), .val (.ref p2), .val (.int (1 : Int32))] [(.ref o)]))
    have f428 := (((((((f346.other W350 (Or.inl nq150)).ext E354).other W382 (Or.inl nq200)).ext E385).other W413 (Or.inl nq228)).other W419 (Or.inl nq74)).other W425 (Or.inl nq174))
    obtain ⟨T427, X427, e427, st427⟩ := getF X425 hx hZ hown (host := "") (Or.inl (hw _ (List.mem_of_getElem? (i := 59) rfl))) Via.refl e425 f428 (g := (mkF m 343 #[.val (.ref o), .val (.ref p0), .val (.ref p1), .val (.ref p2), .val (.int (1 : Int32))] [(.ref o)])) rfl rfl (hb hby d1_343)
    refine own_go st427 ?_
    show own_Go _ _ _ _ _ _ _ (T427.setTop (mkF m 346 #[.val (.ref o), .val (.ref p0), .val (.ref p1), .val (.ref p2), .val (.int (1 : Int32))] [(.ref b140)]))
    refine own_go (fun _ q => XS.iload X427.here hx rfl (hb hby d1_346) rfl q) ?_
    show own_Go _ _ _ _ _ _ _ (T427.setTop (mkF m 348 #[.val (.ref o), .val (.ref p0), .val (.ref p1), .val (.ref p2), .val (.int (1 : Int32))] [(.int (1 : Int32)), (.ref b140)]))
    refine own_go (fun _ q => XS.aloadN X427.here hx rfl (hb hby d1_348) rfl rfl q) ?_
    show own_Go _ _ _ _ _ _ _ (T427.setTop (mkF m 349 #[.val (.ref o), .val (.ref p0), .val (.ref p1), .val (.ref p2), .val (.int (1 : Int32))] [(.ref o), (.int (1 : Int32)), (.ref b140)]))
    have f430 := (f424.other W425 (Or.inl nq174))
    obtain ⟨T429, X429, e429, st429⟩ := getF X427 hx hZ hown (host := "") (Or.inl (hw _ (List.mem_of_getElem? (i := 50) rfl))) Via.refl e427 f430 (g := (mkF m 349 #[.val (.ref o), .val (.ref p0), .val (.ref p1), .val (.ref p2), .val (.int (1 : Int32))] [(.ref o), (.int (1 : Int32)), (.ref b140)])) rfl rfl (hb hby d1_349)
    refine own_go st429 ?_
    show own_Go _ _ _ _ _ _ _ (T429.setTop (mkF m 352 #[.val (.ref o), .val (.ref p0), .val (.ref p1), .val (.ref p2), .val (.int (1 : Int32))] [(.ref b72), (.int (1 : Int32)), (.ref b140)]))
    refine own_go (fun _ q => XS.iload X429.here hx rfl (hb hby d1_352) rfl q) ?_
    show own_Go _ _ _ _ _ _ _ (T429.setTop (mkF m 354 #[.val (.ref o), .val (.ref p0), .val (.ref p1), .val (.ref p2), .val (.int (1 : Int32))] [(.int (1 : Int32)), (.ref b72), (.int (1 : Int32)), (.ref b140)]))
    have f431 := (A419.other W425 nq170)
    refine own_daload X429 hx hZ e429 f431 (i := 1) rfl (by decide) rfl (hb hby d1_354) rfl ?_
    show own_Go _ _ _ _ _ _ _ (T429.setTop (mkF m 355 #[.val (.ref o), .val (.ref p0), .val (.ref p1), .val (.ref p2), .val (.int (1 : Int32))] [(.double (FP.dneg u1)), (.int (1 : Int32)), (.ref b140)]))
    refine own_go (own_dconst0 X429 hx (g := (mkF m 355 #[.val (.ref o), .val (.ref p0), .val (.ref p1), .val (.ref p2), .val (.int (1 : Int32))] [(.double (FP.dneg u1)), (.int (1 : Int32)), (.ref b140)])) rfl (hb hby d1_355)) ?_
    show own_Go _ _ _ _ _ _ _ (T429.setTop (mkF m 356 #[.val (.ref o), .val (.ref p0), .val (.ref p1), .val (.ref p2), .val (.int (1 : Int32))] [(.double FP.dconst0), (.double (FP.dneg u1)), (.int (1 : Int32)), (.ref b140)]))
    refine own_go (own_dcmp X429 hx (g := (mkF m 356 #[.val (.ref o), .val (.ref p0), .val (.ref p1), .val (.ref p2), .val (.int (1 : Int32))] [(.double FP.dconst0), (.double (FP.dneg u1)), (.int (1 : Int32)), (.ref b140)])) rfl (o := oc1) hoc1 (hb hby d1_356) rfl) ?_
    show own_Go _ _ _ _ _ _ _ (T429.setTop (mkF m 357 #[.val (.ref o), .val (.ref p0), .val (.ref p1), .val (.ref p2), .val (.int (1 : Int32))] [(.int (own_oi oc1)), (.int (1 : Int32)), (.ref b140)]))
    refine own_via (t' := T429.setTop (mkF m 365 #[.val (.ref o), .val (.ref p0), .val (.ref p1), .val (.ref p2), .val (.int (1 : Int32))] [(.int z1), (.int (1 : Int32)), (.ref b140)])) ?_ (fun tail1 => ?_)
    · show own_Go _ _ _ _ _ _ _ (T429.setTop (mkF m 365 #[.val (.ref o), .val (.ref p0), .val (.ref p1), .val (.ref p2), .val (.int (1 : Int32))] [(.int z1), (.int (1 : Int32)), (.ref b140)]))
      have f433 := ((((f390.ext E385).other W413 nq218).other W419 (Ne.symm nq146)).other W425 nq168)
      refine own_bastore X429 hx hZ e429 (i := 1) f433 h01_1 rfl (by decide) (hb hby d1_365) rfl ?_
      intro T432 h432 X432 e432 W432 A432
      have N432 := Fr.snoc X432 N425 G140
      have Z432 : n0 ≤ h432.size := by rw [W432.size]; exact Z425
      show own_Go _ _ _ _ _ _ _ (T432.setTop (mkF m 366 #[.val (.ref o), .val (.ref p0), .val (.ref p1), .val (.ref p2), .val (.int (1 : Int32))] []))
      refine own_go (fun _ q => XS.aloadN X432.here hx rfl (hb hby d1_366) rfl rfl q) ?_
      show own_Go _ _ _ _ _ _ _ (T432.setTop (mkF m 367 #[.val (.ref o), .val (.ref p0), .val (.ref p1), .val (.ref p2), .val (.int (1 : Int32))] [(.ref o)]))
      have f435 := (((((((f353.ext E354).other W382 (Or.inl nq200)).ext E385).other W413 (Or.inl nq228)).other W419 (Or.inl nq74)).other W425 (Or.inl nq174)).other W432 (Or.inl nq150))
      obtain ⟨T434, X434, e434, st434⟩ := getF X432 hx hZ hown (host := "") (Or.inl (hw _ (List.mem_of_getElem? (i := 63) rfl))) Via.refl e432 f435 (g := (mkF m 367 #[.val (.ref o), .val (.ref p0), .val (.ref p1), .val (.ref p2), .val (.int (1 : Int32))] [(.ref o)])) rfl rfl (hb hby d1_367)
      refine own_go st434 ?_
      show own_Go _ _ _ _ _ _ _ (T434.setTop (mkF m 370 #[.val (.ref o), .val (.ref p0), .val (.ref p1), .val (.ref p2), .val (.int (1 : Int32))] [(.ref b186)]))
      refine own_go (fun _ q => XS.iload X434.here hx rfl (hb hby d1_370) rfl q) ?_
      show own_Go _ _ _ _ _ _ _ (T434.setTop (mkF m 372 #[.val (.ref o), .val (.ref p0), .val (.ref p1), .val (.ref p2), .val (.int (1 : Int32))] [(.int (1 : Int32)), (.ref b186)]))
      refine own_go (fun _ q => XS.iconst X434.here hx rfl (hb hby d1_372) q) ?_
      show own_Go _ _ _ _ _ _ _ (T434.setTop (mkF m 373 #[.val (.ref o), .val (.ref p0), .val (.ref p1), .val (.ref p2), .val (.int (1 : Int32))] [(.int (4 : Int32)), (.int (1 : Int32)), (.ref b186)]))
      obtain ⟨T436, h436, k436, X436, e436, E436, Aw436, Ex436, st436⟩ := newPE X434 hx hZ (hw _ (List.mem_of_getElem? (i := 25) rfl)) e434 (g := (mkF m 373 #[.val (.ref o), .val (.ref p0), .val (.ref p1), .val (.ref p2), .val (.int (1 : Int32))] [(.int (4 : Int32)), (.int (1 : Int32)), (.ref b186)])) rfl (hb hby d1_373) rfl (by decide) (cap := 4) (by decide) (by decide) (by decide) (by decide) (ad := "[I") (by decide)
      obtain ⟨b436, g436⟩ : ∃ z, z = h432.size := ⟨_, rfl⟩
      rw [← g436] at Aw436 st436 Ex436
      have f437 := (((((f386.ext E385).other W413 nq214).other W419 (Ne.symm nq104)).other W425 nq164).other W432 nq142)
      have nq438 : b102 ≠ b436 := Nat.ne_of_lt (Nat.lt_of_lt_of_eq (f437).lt g436.symm)
      have f439 := (((((f388.ext E385).other W413 nq216).other W419 (Ne.symm nq124)).other W425 nq166).other W432 nq144)
      have nq440 : b120 ≠ b436 := Nat.ne_of_lt (Nat.lt_of_lt_of_eq (f439).lt g436.symm)
      have nq441 : b140 ≠ b436 := Nat.ne_of_lt (Nat.lt_of_lt_of_eq (A432).lt g436.symm)
      have f442 := (A425.other W432 (Ne.symm nq168))
      have nq443 : b162 ≠ b436 := Nat.ne_of_lt (Nat.lt_of_lt_of_eq (f442).lt g436.symm)
      have f444 := (((((A382.ext E385).other W413 nq222).other W419 (Ne.symm nq196)).other W425 (Ne.symm nq194)).other W432 (Ne.symm nq192))
      have nq445 : b186 ≠ b436 := Nat.ne_of_lt (Nat.lt_of_lt_of_eq (f444).lt g436.symm)
      have f446 := (((A413.other W419 (Ne.symm nq224)).other W425 (Ne.symm nq220)).other W432 (Ne.symm nq218))
      have nq447 : b212 ≠ b436 := Nat.ne_of_lt (Nat.lt_of_lt_of_eq (f446).lt g436.symm)
      have f448 := (((((f397.ext E385).other W413 (Ne.symm nq270)).other W419 (Ne.symm nq272)).other W425 (Ne.symm nq266)).other W432 (Ne.symm nq264))
      have nq449 : b258 ≠ b436 := Nat.ne_of_lt (Nat.lt_of_lt_of_eq (f448).lt g436.symm)
      have f450 := (f431.other W432 nq146)
      have nq451 : b72 ≠ b436 := Nat.ne_of_lt (Nat.lt_of_lt_of_eq (f450).lt g436.symm)
      have f452 := (((((f401.ext E385).other W413 nq226).other W419 (Ne.symm nq88)).other W425 nq172).other W432 nq148)
      have nq453 : b86 ≠ b436 := Nat.ne_of_lt (Nat.lt_of_lt_of_eq (f452).lt g436.symm)
      have f454 := (((((f403.ext E385).wr W413).wr W419).wr W425).wr W432)
      have nq455 : o ≠ b436 := Nat.ne_of_lt (Nat.lt_of_lt_of_eq (f454).lt g436.symm)
      have f456 := (((f418.other W419 nq76).other W425 nq176).other W432 nq152)
      have nq457 : p0 ≠ b436 := Nat.ne_of_lt (Nat.lt_of_lt_of_eq (f456).lt g436.symm)
      have f458 := (((((f407.ext E385).other W413 nq232).other W419 nq78).other W425 nq178).other W432 nq154)
      have nq459 : p1 ≠ b436 := Nat.ne_of_lt (Nat.lt_of_lt_of_eq (f458).lt g436.symm)
      have f460 := (((((f409.ext E385).other W413 nq234).other W419 nq80).other W425 nq180).other W432 nq156)
      have nq461 : p2 ≠ b436 := Nat.ne_of_lt (Nat.lt_of_lt_of_eq (f460).lt g436.symm)
      have G436 : n0 ≤ b436 := Nat.le_trans Z432 (Nat.le_of_eq g436.symm)
      have Z436 : n0 ≤ h436.size := Nat.le_trans Z432 E436.1
      refine own_go st436 ?_
      show own_Go _ _ _ _ _ _ _ (T436.setTop (mkF m 375 #[.val (.ref o), .val (.ref p0), .val (.ref p1), .val (.ref p2), .val (.int (1 : Int32))] [(.ref b436), (.int (1 : Int32)), (.ref b186)]))
      have f462 := (((((((f380.wr W382).ext E385).wr W413).wr W419).wr W425).wr W432).ext E436)
      have f463 := (f444.ext E436)
      refine own_aastore X436 hx hZ e436 (i := 1) rfl f463 (f462.sto f463 (Ins.self Ex436)) rfl (by decide) (hb hby d1_375) rfl ?_
      intro T464 h464 X464 e464 W464 A464
      have N464 := Fr.snoc X464 N432 G186
      have Z464 : n0 ≤ h464.size := by rw [W464.size]; exact Z436
      show own_Go _ _ _ _ _ _ _ (T464.setTop (mkF m 376 #[.val (.ref o), .val (.ref p0), .val (.ref p1), .val (.ref p2), .val (.int (1 : Int32))] []))
      refine own_go (fun _ q => XS.aloadN X464.here hx rfl (hb hby d1_376) rfl rfl q) ?_
      show own_Go _ _ _ _ _ _ _ (T464.setTop (mkF m 377 #[.val (.ref o), .val (.ref p0), .val (.ref p1), .val (.ref p2), .val (.int (1 : Int32))] [(.ref o)]))
      have f466 := (((((((f384.ext E385).other W413 (Or.inl nq228)).other W419 (Or.inl nq74)).other W425 (Or.inl nq174)).other W432 (Or.inl nq150)).ext E436).other W464 (Or.inl nq200))
      obtain ⟨T465, X465, e465, st465⟩ := getF X464 hx hZ hown (host := "") (Or.inl (hw _ (List.mem_of_getElem? (i := 65) rfl))) Via.refl e464 f466 (g := (mkF m 377 #[.val (.ref o), .val (.ref p0), .val (.ref p1), .val (.ref p2), .val (.int (1 : Int32))] [(.ref o)])) rfl rfl (hb hby d1_377)
      refine own_go st465 ?_
      show own_Go _ _ _ _ _ _ _ (T465.setTop (mkF m 380 #[.val (.ref o), .val (.ref p0), .val (.ref p1), .val (.ref p2), .val (.int (1 : Int32))] [(.ref b212)]))
      refine own_go (fun _ q => XS.iload X465.here hx rfl (hb hby d1_380) rfl q) ?_
      show own_Go _ _ _ _ _ _ _ (T465.setTop (mkF m 382 #[.val (.ref o), .val (.ref p0), .val (.ref p1), .val (.ref p2), .val (.int (1 : Int32))] [(.int (1 : Int32)), (.ref b212)]))
      refine own_go (fun _ q => XS.iconst X465.here hx rfl (hb hby d1_382) q) ?_
      show own_Go _ _ _ _ _ _ _ (T465.setTop (mkF m 383 #[.val (.ref o), .val (.ref p0), .val (.ref p1), .val (.ref p2), .val (.int (1 : Int32))] [(.int (4 : Int32)), (.int (1 : Int32)), (.ref b212)]))
      obtain ⟨T467, h467, k467, X467, e467, E467, Aw467, Ex467, st467⟩ := newPE X465 hx hZ (hw _ (List.mem_of_getElem? (i := 1) rfl)) e465 (g := (mkF m 383 #[.val (.ref o), .val (.ref p0), .val (.ref p1), .val (.ref p2), .val (.int (1 : Int32))] [(.int (4 : Int32)), (.int (1 : Int32)), (.ref b212)])) rfl (hb hby d1_383) rfl (by decide) (cap := 4) (by decide) (by decide) (by decide) (by decide) (ad := "[D") (by decide)
      obtain ⟨b467, g467⟩ : ∃ z, z = h464.size := ⟨_, rfl⟩
      rw [← g467] at Aw467 st467 Ex467
      have f468 := ((f437.ext E436).other W464 nq188)
      have nq469 : b102 ≠ b467 := Nat.ne_of_lt (Nat.lt_of_lt_of_eq (f468).lt g467.symm)
      have f470 := ((f439.ext E436).other W464 nq190)
      have nq471 : b120 ≠ b467 := Nat.ne_of_lt (Nat.lt_of_lt_of_eq (f470).lt g467.symm)
      have f472 := ((A432.ext E436).other W464 nq192)
      have nq473 : b140 ≠ b467 := Nat.ne_of_lt (Nat.lt_of_lt_of_eq (f472).lt g467.symm)
      have f474 := ((f442.ext E436).other W464 nq194)
      have nq475 : b162 ≠ b467 := Nat.ne_of_lt (Nat.lt_of_lt_of_eq (f474).lt g467.symm)
      have nq476 : b186 ≠ b467 := Nat.ne_of_lt (Nat.lt_of_lt_of_eq (A464).lt g467.symm)
      have f477 := ((f446.ext E436).other W464 (Ne.symm nq222))
      have nq478 : b212 ≠ b467 := Nat.ne_of_lt (Nat.lt_of_lt_of_eq (f477).lt g467.symm)
      have f479 := ((f448.ext E436).other W464 (Ne.symm nq268))
      have nq480 : b258 ≠ b467 := Nat.ne_of_lt (Nat.lt_of_lt_of_eq (f479).lt g467.symm)
      have f481 := ((f450.ext E436).other W464 nq196)
      have nq482 : b72 ≠ b467 := Nat.ne_of_lt (Nat.lt_of_lt_of_eq (f481).lt g467.symm)
      have f483 := ((f452.ext E436).other W464 nq198)
      have nq484 : b86 ≠ b467 := Nat.ne_of_lt (Nat.lt_of_lt_of_eq (f483).lt g467.symm)
      have f485 := ((f454.ext E436).wr W464)
      have nq486 : o ≠ b467 := Nat.ne_of_lt (Nat.lt_of_lt_of_eq (f485).lt g467.symm)
      have f487 := ((f456.ext E436).other W464 nq202)
      have nq488 : p0 ≠ b467 := Nat.ne_of_lt (Nat.lt_of_lt_of_eq (f487).lt g467.symm)
      have f489 := ((f458.ext E436).other W464 nq204)
      have nq490 : p1 ≠ b467 := Nat.ne_of_lt (Nat.lt_of_lt_of_eq (f489).lt g467.symm)
      have f491 := ((f460.ext E436).other W464 nq206)
      have nq492 : p2 ≠ b467 := Nat.ne_of_lt (Nat.lt_of_lt_of_eq (f491).lt g467.symm)
      have G467 : n0 ≤ b467 := Nat.le_trans Z464 (Nat.le_of_eq g467.symm)
      have Z467 : n0 ≤ h467.size := Nat.le_trans Z464 E467.1
      refine own_go st467 ?_
      show own_Go _ _ _ _ _ _ _ (T467.setTop (mkF m 385 #[.val (.ref o), .val (.ref p0), .val (.ref p1), .val (.ref p2), .val (.int (1 : Int32))] [(.ref b467), (.int (1 : Int32)), (.ref b212)]))
      have f493 := (((((((f411.wr W413).wr W419).wr W425).wr W432).ext E436).wr W464).ext E467)
      have f494 := (f477.ext E467)
      refine own_aastore X467 hx hZ e467 (i := 1) rfl f494 (f493.sto f494 (Ins.self Ex467)) rfl (by decide) (hb hby d1_385) rfl ?_
      intro T495 h495 X495 e495 W495 A495
      have N495 := Fr.snoc X495 N464 G212
      have Z495 : n0 ≤ h495.size := by rw [W495.size]; exact Z467
      show own_Go _ _ _ _ _ _ _ (T495.setTop (mkF m 386 #[.val (.ref o), .val (.ref p0), .val (.ref p1), .val (.ref p2), .val (.int (1 : Int32))] []))
      refine own_go (fun _ q => XS.iinc X495.here hx rfl (hb hby d1_386) rfl (l' := #[.val (.ref o), .val (.ref p0), .val (.ref p1), .val (.ref p2), .val (.int ((1 : Int32) + (1 : Int32)))]) rfl q) ?_
      show own_Go _ _ _ _ _ _ _ (T495.setTop (mkF m 389 #[.val (.ref o), .val (.ref p0), .val (.ref p1), .val (.ref p2), .val (.int ((1 : Int32) + (1 : Int32)))] []))
      show own_Go _ _ _ _ _ _ _ (T495.setTop (mkF m 389 #[.val (.ref o), .val (.ref p0), .val (.ref p1), .val (.ref p2), .val (.int (2 : Int32))] []))
      refine own_go (fun _ q => XS.goto X495.here hx rfl (pc0 := 389) (pc' := 307) rfl (hb hby d1_389) (by decide) (by decide) q) ?_
      show own_Go _ _ _ _ _ _ _ (T495.setTop (mkF m 307 #[.val (.ref o), .val (.ref p0), .val (.ref p1), .val (.ref p2), .val (.int (2 : Int32))] []))
      refine own_go (fun _ q => XS.iload X495.here hx rfl (hb hby d1_307) rfl q) ?_
      show own_Go _ _ _ _ _ _ _ (T495.setTop (mkF m 309 #[.val (.ref o), .val (.ref p0), .val (.ref p1), .val (.ref p2), .val (.int (2 : Int32))] [(.int (2 : Int32))]))
      refine own_go (fun _ q => XS.aloadN X495.here hx rfl (hb hby d1_309) rfl rfl q) ?_
      show own_Go _ _ _ _ _ _ _ (T495.setTop (mkF m 310 #[.val (.ref o), .val (.ref p0), .val (.ref p1), .val (.ref p2), .val (.int (2 : Int32))] [(.ref o), (.int (2 : Int32))]))
      have f497 := (((((((f415.other W419 (Or.inl nq74)).other W425 (Or.inl nq174)).other W432 (Or.inl nq150)).ext E436).other W464 (Or.inl nq200)).ext E467).other W495 (Or.inl nq228))
      obtain ⟨T496, X496, e496, st496⟩ := getF X495 hx hZ hown (host := "") (Or.inl (hw _ (List.mem_of_getElem? (i := 48) rfl))) Via.refl e495 f497 (g := (mkF m 310 #[.val (.ref o), .val (.ref p0), .val (.ref p1), .val (.ref p2), .val (.int (2 : Int32))] [(.ref o), (.int (2 : Int32))])) rfl rfl (hb hby d1_310)
      refine own_go st496 ?_
      show own_Go _ _ _ _ _ _ _ (T496.setTop (mkF m 313 #[.val (.ref o), .val (.ref p0), .val (.ref p1), .val (.ref p2), .val (.int (2 : Int32))] [(.int (2 : Int32)), (.int (2 : Int32))]))
      refine own_go (fun _ q => XS.icmpYes X496.here hx rfl (pc0 := 313) (pc' := 392) rfl (hb hby d1_313) rfl (flt (by decide : ¬ ((2 : Int32) < (2 : Int32)))).2.1 (by decide) (by decide) q) ?_
      show own_Go _ _ _ _ _ _ _ (T496.setTop (mkF m 392 #[.val (.ref o), .val (.ref p0), .val (.ref p1), .val (.ref p2), .val (.int (2 : Int32))] []))
      refine own_go (fun _ q => XS.aloadN X496.here hx rfl (hb hby d1_392) rfl rfl q) ?_
      show own_Go _ _ _ _ _ _ _ (T496.setTop (mkF m 393 #[.val (.ref o), .val (.ref p0), .val (.ref p1), .val (.ref p2), .val (.int (2 : Int32))] [(.ref o)]))
      obtain ⟨T498, h498, X498, e498, E498, A498, D498, -, st498⟩ := newO X496 hx hZ hown (hw _ (List.mem_of_getElem? (i := 88) rfl)) (hw _ (List.mem_of_getElem? (i := 89) rfl)) (hw _ (List.mem_of_getElem? (i := 90) rfl)) e496 (g := (mkF m 393 #[.val (.ref o), .val (.ref p0), .val (.ref p1), .val (.ref p2), .val (.int (2 : Int32))] [(.ref o)])) rfl (hb hby d1_393) (by decide) (by decide)
      obtain ⟨b498, g498⟩ : ∃ z, z = h495.size := ⟨_, rfl⟩
      rw [← g498] at A498 D498 st498
      have f499 := ((f468.ext E467).other W495 nq214)
      have nq500 : b102 ≠ b498 := Nat.ne_of_lt (Nat.lt_of_lt_of_eq (f499).lt g498.symm)
      have f501 := ((f470.ext E467).other W495 nq216)
      have nq502 : b120 ≠ b498 := Nat.ne_of_lt (Nat.lt_of_lt_of_eq (f501).lt g498.symm)
      have f503 := ((f472.ext E467).other W495 nq218)
      have nq504 : b140 ≠ b498 := Nat.ne_of_lt (Nat.lt_of_lt_of_eq (f503).lt g498.symm)
      have f505 := ((f479.ext E467).other W495 (Ne.symm nq270))
      have nq506 : b258 ≠ b498 := Nat.ne_of_lt (Nat.lt_of_lt_of_eq (f505).lt g498.symm)
      have f507 := ((f481.ext E467).other W495 nq224)
      have nq508 : b72 ≠ b498 := Nat.ne_of_lt (Nat.lt_of_lt_of_eq (f507).lt g498.symm)
      have f509 := ((f483.ext E467).other W495 nq226)
      have nq510 : b86 ≠ b498 := Nat.ne_of_lt (Nat.lt_of_lt_of_eq (f509).lt g498.symm)
      have f511 := ((f485.ext E467).wr W495)
      have nq512 : o ≠ b498 := Nat.ne_of_lt (Nat.lt_of_lt_of_eq (f511).lt g498.symm)
      have f513 := ((f487.ext E467).other W495 nq230)
      have nq514 : p0 ≠ b498 := Nat.ne_of_lt (Nat.lt_of_lt_of_eq (f513).lt g498.symm)
      have f515 := ((f489.ext E467).other W495 nq232)
      have nq516 : p1 ≠ b498 := Nat.ne_of_lt (Nat.lt_of_lt_of_eq (f515).lt g498.symm)
      have f517 := ((f491.ext E467).other W495 nq234)
      have nq518 : p2 ≠ b498 := Nat.ne_of_lt (Nat.lt_of_lt_of_eq (f517).lt g498.symm)
      have G498 : n0 ≤ b498 := Nat.le_trans Z495 (Nat.le_of_eq g498.symm)
      have Z498 : n0 ≤ h498.size := Nat.le_trans Z495 E498.1
      have P498 : own_Fs Z a0 h498 b498 "com/example/slotwright/slotwright/SimplexBasis" := fun _ _ _ L q => ⟨_, D498 L q⟩
      refine own_go st498 ?_
      show own_Go _ _ _ _ _ _ _ (T498.setTop (mkF m 396 #[.val (.ref o), .val (.ref p0), .val (.ref p1), .val (.ref p2), .val (.int (2 : Int32))] [(.ref b498), (.ref o)]))
      refine own_go (fun _ q => XS.dup X498.here hx rfl (hb hby d1_396) rfl rfl q) ?_
      show own_Go _ _ _ _ _ _ _ (T498.setTop (mkF m 397 #[.val (.ref o), .val (.ref p0), .val (.ref p1), .val (.ref p2), .val (.int (2 : Int32))] [(.ref b498), (.ref b498), (.ref o)]))
      refine own_go (fun _ q => XS.aloadN X498.here hx rfl (hb hby d1_397) rfl rfl q) ?_
      show own_Go _ _ _ _ _ _ _ (T498.setTop (mkF m 398 #[.val (.ref o), .val (.ref p0), .val (.ref p1), .val (.ref p2), .val (.int (2 : Int32))] [(.ref o), (.ref b498), (.ref b498), (.ref o)]))
      have f520 := (f497.ext E498)
      obtain ⟨T519, X519, e519, st519⟩ := getF X498 hx hZ hown (host := "") (Or.inl (hw _ (List.mem_of_getElem? (i := 48) rfl))) Via.refl e498 f520 (g := (mkF m 398 #[.val (.ref o), .val (.ref p0), .val (.ref p1), .val (.ref p2), .val (.int (2 : Int32))] [(.ref o), (.ref b498), (.ref b498), (.ref o)])) rfl rfl (hb hby d1_398)
      refine own_go st519 ?_
      show own_Go _ _ _ _ _ _ _ (T519.setTop (mkF m 401 #[.val (.ref o), .val (.ref p0), .val (.ref p1), .val (.ref p2), .val (.int (2 : Int32))] [(.int (2 : Int32)), (.ref b498), (.ref b498), (.ref o)]))
      refine own_go (fun _ q => XS.aloadN X519.here hx rfl (hb hby d1_401) rfl rfl q) ?_
      show own_Go _ _ _ _ _ _ _ (T519.setTop (mkF m 402 #[.val (.ref o), .val (.ref p0), .val (.ref p1), .val (.ref p2), .val (.int (2 : Int32))] [(.ref o), (.int (2 : Int32)), (.ref b498), (.ref b498), (.ref o)]))
      have f522 := (((((f435.ext E436).other W464 (Or.inl nq200)).ext E467).other W495 (Or.inl nq228)).ext E498)
      obtain ⟨T521, X521, e521, st521⟩ := getF X519 hx hZ hown (host := "") (Or.inl (hw _ (List.mem_of_getElem? (i := 63) rfl))) Via.refl e519 f522 (g := (mkF m 402 #[.val (.ref o), .val (.ref p0), .val (.ref p1), .val (.ref p2), .val (.int (2 : Int32))] [(.ref o), (.int (2 : Int32)), (.ref b498), (.ref b498), (.ref o)])) rfl rfl (hb hby d1_402)
      refine own_go st521 ?_
      show own_Go _ _ _ _ _ _ _ (T521.setTop (mkF m 405 #[.val (.ref o), .val (.ref p0), .val (.ref p1), .val (.ref p2), .val (.int (2 : Int32))] [(.ref b186), (.int (2 : Int32)), (.ref b498), (.ref b498), (.ref o)]))
      refine own_go (fun _ q => XS.aloadN X521.here hx rfl (hb hby d1_405) rfl rfl q) ?_
      show own_Go _ _ _ _ _ _ _ (T521.setTop (mkF m 406 #[.val (.ref o), .val (.ref p0), .val (.ref p1), .val (.ref p2), .val (.int (2 : Int32))] [(.ref o), (.ref b186), (.int (2 : Int32)), (.ref b498), (.ref b498), (.ref o)]))
      have f524 := (((f466.ext E467).other W495 (Or.inl nq228)).ext E498)
      obtain ⟨T523, X523, e523, st523⟩ := getF X521 hx hZ hown (host := "") (Or.inl (hw _ (List.mem_of_getElem? (i := 65) rfl))) Via.refl e521 f524 (g := (mkF m 406 #[.val (.ref o), .val (.ref p0), .val (.ref p1), .val (.ref p2), .val (.int (2 : Int32))] [(.ref o), (.ref b186), (.int (2 : Int32)), (.ref b498), (.ref b498), (.ref o)])) rfl rfl (hb hby d1_406)
      refine own_go st523 ?_
      show own_Go _ _ _ _ _ _ _ (T523.setTop (mkF m 409 #[.val (.ref o), .val (.ref p0), .val (.ref p1), .val (.ref p2), .val (.int (2 : Int32))] [(.ref b212), (.ref b186), (.int (2 : Int32)), (.ref b498), (.ref b498), (.ref o)]))
      refine own_go (fun _ q => XS.aloadN X523.here hx rfl (hb hby d1_409) rfl rfl q) ?_
      show own_Go _ _ _ _ _ _ _ (T523.setTop (mkF m 410 #[.val (.ref o), .val (.ref p0), .val (.ref p1), .val (.ref p2), .val (.int (2 : Int32))] [(.ref o), (.ref b212), (.ref b186), (.int (2 : Int32)), (.ref b498), (.ref b498), (.ref o)]))
      have f526 := (((((((((((((((((((((((((((Fw241.ext E246).other W247 (Or.inr (slot_ne (Or.inr (hw _ (List.mem_of_getElem? (i := 68) rfl))) (Or.inr (hw _ (List.mem_of_getElem? (i := 70) rfl))) (by decide) (t := (.array .int)) (t' := (.array .double)) (by decide) (by decide)))).ext E252).other W253 (Or.inr (slot_ne (Or.inr (hw _ (List.mem_of_getElem? (i := 68) rfl))) (Or.inr (hw _ (List.mem_of_getElem? (i := 72) rfl))) (by decide) (t := (.array .int)) (t' := (.array .int)) (by decide) (by decide)))).ext E258).other W283 (Or.inr (slot_ne (Or.inr (hw _ (List.mem_of_getElem? (i := 68) rfl))) (Or.inl (hw _ (List.mem_of_getElem? (i := 74) rfl))) (by decide) (t := (.array .int)) (t' := (.array .int)) (by decide) (by decide)))).ext E288).other W315 (Or.inr (slot_ne (Or.inr (hw _ (List.mem_of_getElem? (i := 68) rfl))) (Or.inl (hw _ (List.mem_of_getElem? (i := 76) rfl))) (by decide) (t := (.array .int)) (t' := (.array .double)) (by decide) (by decide)))).ext E320).other W321 (Or.inr (slot_ne (Or.inr (hw _ (List.mem_of_getElem? (i := 68) rfl))) (Or.inl (hw _ (List.mem_of_getElem? (i := 78) rfl))) (by decide) (t := (.array .int)) (t' := (.array .double)) (by decide) (by decide)))).keep K327 (ninS nq276 nin0)).keep K331 (ninS nq308 nin0)).other W337 (Or.inl nq74)).other W343 (Or.inl nq174)).other W350 (Or.inl nq150)).ext E354).other W382 (Or.inl nq200)).ext E385).other W413 (Or.inl nq228)).other W419 (Or.inl nq74)).other W425 (Or.inl nq174)).other W432 (Or.inl nq150)).ext E436).other W464 (Or.inl nq200)).ext E467).other W495 (Or.inl nq228)).ext E498)
      obtain ⟨T525, X525, e525, st525⟩ := getF X523 hx hZ hown (host := "") (Or.inl (hw _ (List.mem_of_getElem? (i := 67) rfl))) Via.refl e523 f526 (g := (mkF m 410 #[.val (.ref o), .val (.ref p0), .val (.ref p1), .val (.ref p2), .val (.int (2 : Int32))] [(.ref o), (.ref b212), (.ref b186), (.int (2 : Int32)), (.ref b498), (.ref b498), (.ref o)])) rfl rfl (hb hby d1_410)
      refine own_go st525 ?_
      show own_Go _ _ _ _ _ _ _ (T525.setTop (mkF m 413 #[.val (.ref o), .val (.ref p0), .val (.ref p1), .val (.ref p2), .val (.int (2 : Int32))] [(.ref b240), (.ref b212), (.ref b186), (.int (2 : Int32)), (.ref b498), (.ref b498), (.ref o)]))
      refine own_init X525 hx hZ rfl hown (hw _ (List.mem_of_getElem? (i := 91) rfl)) (hw _ (List.mem_of_getElem? (i := 92) rfl)) (hw _ (List.mem_of_getElem? (i := 90) rfl)) (hw _ (List.mem_of_getElem? (i := 93) rfl)) (by decide) e525 (a := b498) (argsL := [(.int (2 : Int32)), (.ref b186), (.ref b212), (.ref b240)]) (rest := [(.ref b498), (.ref o)]) (rm5 l Z a0 hw [] b498 b186 b212 b240 h498 n0 Z498 A498 P498 G498) 2 (by decide) (by decide) (by decide) (by decide) (by rw [hml]; rfl) pd_3 rfl rfl (Nat.le_of_eq rfl) (hb hby d1_413) rfl ?_
      intro v527 T527 L527 X527 hQ527
      obtain ⟨rfl, N527q, K527⟩ := hQ527
      have N527 := Fr.app N495 N527q
      show own_Go _ _ _ _ _ _ _ (T527.setTop (mkF m 416 #[.val (.ref o), .val (.ref p0), .val (.ref p1), .val (.ref p2), .val (.int (2 : Int32))] [(.ref b498), (.ref o)]))
      have Z527 : n0 ≤ T527.heap.size := Nat.le_trans Z498 K527.1
      have f529 := (((((((((((((((((((f322.wr W321).keep K327).keep K331).wr W337).wr W343).wr W350).ext E354).wr W382).ext E385).wr W413).wr W419).wr W425).wr W432).ext E436).wr W464).ext E467).wr W495).ext E498).keep K527)
      obtain ⟨pv528, pf528⟩ := f529 "factor" "Lcom/example/slotwright/slotwright/SimplexBasis;" (.object "com/example/slotwright/slotwright/SimplexBasis") (Or.inr (hw _ (List.mem_of_getElem? (i := 196) rfl))) (by decide)
      have f530 := ((f511.ext E498).keep K527)
      obtain ⟨T528, h528, X528, e528, W528, st528⟩ := putF X527 hx hZ hown (host := "") (Or.inl (hw _ (List.mem_of_getElem? (i := 195) rfl))) Via.refl rfl pf528 f530 (Or.inr ⟨(hw _ (List.mem_of_getElem? (i := 196) rfl)), rfl, hnm⟩) (hw _ (List.mem_of_getElem? (i := 3) rfl)) (ty := (.object "com/example/slotwright/slotwright/SimplexBasis")) (by decide) rfl rfl (g := (mkF m 416 #[.val (.ref o), .val (.ref p0), .val (.ref p1), .val (.ref p2), .val (.int (2 : Int32))] [(.ref b498), (.ref o)])) rfl rfl (hb hby d1_416)
      have N528 := Fr.snoc X528 N527 go
      have Fw528 := pf528.same W528
      have Z528 : n0 ≤ h528.size := by rw [W528.size]; exact Z527
      refine own_go st528 ?_
      show own_Go _ _ _ _ _ _ _ (T528.setTop (mkF m 419 #[.val (.ref o), .val (.ref p0), .val (.ref p1), .val (.ref p2), .val (.int (2 : Int32))] []))
      refine own_go (fun _ q => XS.aloadN X528.here hx rfl (hb hby d1_419) rfl rfl q) ?_
      show own_Go _ _ _ _ _ _ _ (T528.setTop (mkF m 420 #[.val (.ref o), .val (.ref p0), .val (.ref p1), .val (.ref p2), .val (.int (2 : Int32))] [(.ref o)]))
      refine own_go (fun _ q => XS.aloadN X528.here hx rfl (hb hby d1_420) rfl rfl q) ?_
      show own_Go _ _ _ _ _ _ _ (T528.setTop (mkF m 421 #[.val (.ref o), .val (.ref p0), .val (.ref p1), .val (.ref p2), .val (.int (2 : Int32))] [(.ref p1), (.ref o)]))
      refine own_go (fun _ q => XS.aloadN X528.here hx rfl (hb hby d1_421) rfl rfl q) ?_
      show own_Go _ _ _ _ _ _ _ (T528.setTop (mkF m 422 #[.val (.ref o), .val (.ref p0), .val (.ref p1), .val (.ref p2), .val (.int (2 : Int32))] [(.ref p2), (.ref p1), (.ref o)]))
      have f531 := ((f520.keep K527 (ninS nq512 nin0)).other W528 (Or.inr (slot_ne (Or.inr (hw _ (List.mem_of_getElem? (i := 49) rfl))) (Or.inr (hw _ (List.mem_of_getElem? (i := 196) rfl))) (by decide) (t := .int) (t' := (.object "com/example/slotwright/slotwright/SimplexBasis")) (by decide) (by decide))))
      have f532 := (((((((((((((((((((((((((((((((((((((((((((Fw97.ext E102).other W115 (Or.inr (slot_ne (Or.inr (hw _ (List.mem_of_getElem? (i := 53) rfl))) (Or.inr (hw _ (List.mem_of_getElem? (i := 55) rfl))) (by decide) (t := (.array .double)) (t' := (.array .double)) (by decide) (by decide)))).ext E120).other W135 (Or.inr (slot_ne (Or.inr (hw _ (List.mem_of_getElem? (i := 53) rfl))) (Or.inr (hw _ (List.mem_of_getElem? (i := 57) rfl))) (by decide) (t := (.array .double)) (t' := (.array .double)) (by decide) (by decide)))).ext E140).other W157 (Or.inr (slot_ne (Or.inr (hw _ (List.mem_of_getElem? (i := 53) rfl))) (Or.inr (hw _ (List.mem_of_getElem? (i := 60) rfl))) (by decide) (t := (.array .double)) (t' := (.array .boolean)) (by decide) (by decide)))).ext E162).other W181 (Or.inr (slot_ne (Or.inr (hw _ (List.mem_of_getElem? (i := 53) rfl))) (Or.inr (hw _ (List.mem_of_getElem? (i := 62) rfl))) (by decide) (t := (.array .double)) (t' := (.array .double)) (by decide) (by decide)))).ext E186).other W207 (Or.inr (slot_ne (Or.inr (hw _ (List.mem_of_getElem? (i := 53) rfl))) (Or.inr (hw _ (List.mem_of_getElem? (i := 64) rfl))) (by decide) (t := (.array .double)) (t' := (.array (.array .int))) (by decide) (by decide)))).ext E212).other W235 (Or.inr (slot_ne (Or.inr (hw _ (List.mem_of_getElem? (i := 53) rfl))) (Or.inr (hw _ (List.mem_of_getElem? (i := 66) rfl))) (by decide) (t := (.array .double)) (t' := (.array (.array .double))) (by decide) (by decide)))).ext E240).other W241 (Or.inr (slot_ne (Or.inr (hw _ (List.mem_of_getElem? (i := 53) rfl))) (Or.inr (hw _ (List.mem_of_getElem? (i := 68) rfl))) (by decide) (t := (.array .double)) (t' := (.array .int)) (by decide) (by decide)))).ext E246).other W247 (Or.inr (slot_ne (Or.inr (hw _ (List.mem_of_getElem? (i := 53) rfl))) (Or.inr (hw _ (List.mem_of_getElem? (i := 70) rfl))) (by decide) (t := (.array .double)) (t' := (.array .double)) (by decide) (by decide)))).ext E252).other W253 (Or.inr (slot_ne (Or.inr (hw _ (List.mem_of_getElem? (i := 53) rfl))) (Or.inr (hw _ (List.mem_of_getElem? (i := 72) rfl))) (by decide) (t := (.array .double)) (t' := (.array .int)) (by decide) (by decide)))).ext E258).other W283 (Or.inr (slot_ne (Or.inr (hw _ (List.mem_of_getElem? (i := 53) rfl))) (Or.inl (hw _ (List.mem_of_getElem? (i := 74) rfl))) (by decide) (t := (.array .double)) (t' := (.array .int)) (by decide) (by decide)))).ext E288).other W315 (Or.inr (slot_ne (Or.inr (hw _ (List.mem_of_getElem? (i := 53) rfl))) (Or.inl (hw _ (List.mem_of_getElem? (i := 76) rfl))) (by decide) (t := (.array .double)) (t' := (.array .double)) (by decide) (by decide)))).ext E320).other W321 (Or.inr (slot_ne (Or.inr (hw _ (List.mem_of_getElem? (i := 53) rfl))) (Or.inl (hw _ (List.mem_of_getElem? (i := 78) rfl))) (by decide) (t := (.array .double)) (t' := (.array .double)) (by decide) (by decide)))).keep K327 (ninS nq276 nin0)).keep K331 (ninS nq308 nin0)).other W337 (Or.inl nq74)).other W343 (Or.inl nq174)).other W350 (Or.inl nq150)).ext E354).other W382 (Or.inl nq200)).ext E385).other W413 (Or.inl nq228)).other W419 (Or.inl nq74)).other W425 (Or.inl nq174)).other W432 (Or.inl nq150)).ext E436).other W464 (Or.inl nq200)).ext E467).other W495 (Or.inl nq228)).ext E498).keep K527 (ninS nq512 nin0)).other W528 (Or.inr (slot_ne (Or.inr (hw _ (List.mem_of_getElem? (i := 53) rfl))) (Or.inr (hw _ (List.mem_of_getElem? (i := 196) rfl))) (by decide) (t := (.array .double)) (t' := (.object "com/example/slotwright/slotwright/SimplexBasis")) (by decide) (by decide))))
      have f533 := (((((((((((((((((((((((((((((((((((((((((Fw115.ext E120).other W135 (Or.inr (slot_ne (Or.inr (hw _ (List.mem_of_getElem? (i := 55) rfl))) (Or.inr (hw _ (List.mem_of_getElem? (i := 57) rfl))) (by decide) (t := (.array .double)) (t' := (.array .double)) (by decide) (by decide)))).ext E140).other W157 (Or.inr (slot_ne (Or.inr (hw _ (List.mem_of_getElem? (i := 55) rfl))) (Or.inr (hw _ (List.mem_of_getElem? (i := 60) rfl))) (by decide) (t := (.array .double)) (t' := (.array .boolean)) (by decide) (by decide)))).ext E162).other W181 (Or.inr (slot_ne (Or.inr (hw _ (List.mem_of_getElem? (i := 55) rfl))) (Or.inr (hw _ (List.mem_of_getElem? (i := 62) rfl))) (by decide) (t := (.array .double)) (t' := (.array .double)) (by decide) (by decide)))).ext E186).other W207 (Or.inr (slot_ne (Or.inr (hw _ (List.mem_of_getElem? (i := 55) rfl))) (Or.inr (hw _ (List.mem_of_getElem? (i := 64) rfl))) (by decide) (t := (.array .double)) (t' := (.array (.array .int))) (by decide) (by decide)))).ext E212).other W235 (Or.inr (slot_ne (Or.inr (hw _ (List.mem_of_getElem? (i := 55) rfl))) (Or.inr (hw _ (List.mem_of_getElem? (i := 66) rfl))) (by decide) (t := (.array .double)) (t' := (.array (.array .double))) (by decide) (by decide)))).ext E240).other W241 (Or.inr (slot_ne (Or.inr (hw _ (List.mem_of_getElem? (i := 55) rfl))) (Or.inr (hw _ (List.mem_of_getElem? (i := 68) rfl))) (by decide) (t := (.array .double)) (t' := (.array .int)) (by decide) (by decide)))).ext E246).other W247 (Or.inr (slot_ne (Or.inr (hw _ (List.mem_of_getElem? (i := 55) rfl))) (Or.inr (hw _ (List.mem_of_getElem? (i := 70) rfl))) (by decide) (t := (.array .double)) (t' := (.array .double)) (by decide) (by decide)))).ext E252).other W253 (Or.inr (slot_ne (Or.inr (hw _ (List.mem_of_getElem? (i := 55) rfl))) (Or.inr (hw _ (List.mem_of_getElem? (i := 72) rfl))) (by decide) (t := (.array .double)) (t' := (.array .int)) (by decide) (by decide)))).ext E258).other W283 (Or.inr (slot_ne (Or.inr (hw _ (List.mem_of_getElem? (i := 55) rfl))) (Or.inl (hw _ (List.mem_of_getElem? (i := 74) rfl))) (by decide) (t := (.array .double)) (t' := (.array .int)) (by decide) (by decide)))).ext E288).other W315 (Or.inr (slot_ne (Or.inr (hw _ (List.mem_of_getElem? (i := 55) rfl))) (Or.inl (hw _ (List.mem_of_getElem? (i := 76) rfl))) (by decide) (t := (.array .double)) (t' := (.array .double)) (by decide) (by decide)))).ext E320).other W321 (Or.inr (slot_ne (Or.inr (hw _ (List.mem_of_getElem? (i := 55) rfl))) (Or.inl (hw _ (List.mem_of_getElem? (i := 78) rfl))) (by decide) (t := (.array .double)) (t' := (.array .double)) (by decide) (by decide)))).keep K327 (ninS nq276 nin0)).keep K331 (ninS nq308 nin0)).other W337 (Or.inl nq74)).other W343 (Or.inl nq174)).other W350 (Or.inl nq150)).ext E354).other W382 (Or.inl nq200)).ext E385).other W413 (Or.inl nq228)).other W419 (Or.inl nq74)).other W425 (Or.inl nq174)).other W432 (Or.inl nq150)).ext E436).other W464 (Or.inl nq200)).ext E467).other W495 (Or.inl nq228)).ext E498).keep K527 (ninS nq512 nin0)).other W528 (Or.inr (slot_ne (Or.inr (hw _ (List.mem_of_getElem? (i := 55) rfl))) (Or.inr (hw _ (List.mem_of_getElem? (i := 196) rfl))) (by decide) (t := (.array .double)) (t' := (.object "com/example/slotwright/slotwright/SimplexBasis")) (by decide) (by decide))))
      have f534 := (((((((((((((((((((((((((((((((((((((((Fw135.ext E140).other W157 (Or.inr (slot_ne (Or.inr (hw _ (List.mem_of_getElem? (i := 57) rfl))) (Or.inr (hw _ (List.mem_of_getElem? (i := 60) rfl))) (by decide) (t := (.array .double)) (t' := (.array .boolean)) (by decide) (by decide)))).ext E162).other W181 (Or.inr (slot_ne (Or.inr (hw _ (List.mem_of_getElem? (i := 57) rfl))) (Or.inr (hw _ (List.mem_of_getElem? (i := 62) rfl))) (by decide) (t := (.array .double)) (t' := (.array .double)) (by decide) (by decide)))).ext E186).other W207 (Or.inr (slot_ne (Or.inr (hw _ (List.mem_of_getElem? (i := 57) rfl))) (Or.inr (hw _ (List.mem_of_getElem? (i := 64) rfl))) (by decide) (t := (.array .double)) (t' := (.array (.array .int))) (by decide) (by decide)))).ext E212).other W235 (Or.inr (slot_ne (Or.inr (hw _ (List.mem_of_getElem? (i := 57) rfl))) (Or.inr (hw _ (List.mem_of_getElem? (i := 66) rfl))) (by decide) (t := (.array .double)) (t' := (.array (.array .double))) (by decide) (by decide)))).ext E240).other W241 (Or.inr (slot_ne (Or.inr (hw _ (List.mem_of_getElem? (i := 57) rfl))) (Or.inr (hw _ (List.mem_of_getElem? (i := 68) rfl))) (by decide) (t := (.array .double)) (t' := (.array .int)) (by decide) (by decide)))).ext E246).other W247 (Or.inr (slot_ne (Or.inr (hw _ (List.mem_of_getElem? (i := 57) rfl))) (Or.inr (hw _ (List.mem_of_getElem? (i := 70) rfl))) (by decide) (t := (.array .double)) (t' := (.array .double)) (by decide) (by decide)))).ext E252).other W253 (Or.inr (slot_ne (Or.inr (hw _ (List.mem_of_getElem? (i := 57) rfl))) (Or.inr (hw _ (List.mem_of_getElem? (i := 72) rfl))) (by decide) (t := (.array .double)) (t' := (.array .int)) (by decide) (by decide)))).ext E258).other W283 (Or.inr (slot_ne (Or.inr (hw _ (List.mem_of_getElem? (i := 57) rfl))) (Or.inl (hw _ (List.mem_of_getElem? (i := 74) rfl))) (by decide) (t := (.array .double)) (t' := (.array .int)) (by decide) (by decide)))).ext E288).other W315 (Or.inr (slot_ne (Or.inr (hw _ (List.mem_of_getElem? (i := 57) rfl))) (Or.inl (hw _ (List.mem_of_getElem? (i := 76) rfl))) (by decide) (t := (.array .double)) (t' := (.array .double)) (by decide) (by decide)))).ext E320).other W321 (Or.inr (slot_ne (Or.inr (hw _ (List.mem_of_getElem? (i := 57) rfl))) (Or.inl (hw _ (List.mem_of_getElem? (i := 78) rfl))) (by decide) (t := (.array .double)) (t' := (.array .double)) (by decide) (by decide)))).keep K327 (ninS nq276 nin0)).keep K331 (ninS nq308 nin0)).other W337 (Or.inl nq74)).other W343 (Or.inl nq174)).other W350 (Or.inl nq150)).ext E354).other W382 (Or.inl nq200)).ext E385).other W413 (Or.inl nq228)).other W419 (Or.inl nq74)).other W425 (Or.inl nq174)).other W432 (Or.inl nq150)).ext E436).other W464 (Or.inl nq200)).ext E467).other W495 (Or.inl nq228)).ext E498).keep K527 (ninS nq512 nin0)).other W528 (Or.inr (slot_ne (Or.inr (hw _ (List.mem_of_getElem? (i := 57) rfl))) (Or.inr (hw _ (List.mem_of_getElem? (i := 196) rfl))) (by decide) (t := (.array .double)) (t' := (.object "com/example/slotwright/slotwright/SimplexBasis")) (by decide) (by decide))))
      have f535 := ((((((((f428.other W432 (Or.inl nq150)).ext E436).other W464 (Or.inl nq200)).ext E467).other W495 (Or.inl nq228)).ext E498).keep K527 (ninS nq512 nin0)).other W528 (Or.inr (slot_ne (Or.inr (hw _ (List.mem_of_getElem? (i := 60) rfl))) (Or.inr (hw _ (List.mem_of_getElem? (i := 196) rfl))) (by decide) (t := (.array .boolean)) (t' := (.object "com/example/slotwright/slotwright/SimplexBasis")) (by decide) (by decide))))
      have f536 := (((((((((((((((((((f325.keep K327 (ninS nq276 nin0)).keep K331 (ninS nq308 nin0)).other W337 (Or.inl nq74)).other W343 (Or.inl nq174)).other W350 (Or.inl nq150)).ext E354).other W382 (Or.inl nq200)).ext E385).other W413 (Or.inl nq228)).other W419 (Or.inl nq74)).other W425 (Or.inl nq174)).other W432 (Or.inl nq150)).ext E436).other W464 (Or.inl nq200)).ext E467).other W495 (Or.inl nq228)).ext E498).keep K527 (ninS nq512 nin0)).other W528 (Or.inr (slot_ne (Or.inl (hw _ (List.mem_of_getElem? (i := 74) rfl))) (Or.inr (hw _ (List.mem_of_getElem? (i := 196) rfl))) (by decide) (t := (.array .int)) (t' := (.object "com/example/slotwright/slotwright/SimplexBasis")) (by decide) (by decide))))
      have f537 := (((((((((((((((((((((((((((((((((((((((((((((((((((((((((((((((((((((((((((((((Fr_.ext E2).other W3 (Or.inr (slot_ne (Or.inl (hw _ (List.mem_of_getElem? (i := 212) rfl))) (Or.inl (hw _ (List.mem_of_getElem? (i := 14) rfl))) (by decide) (t := .int) (t' := (.array (.array .int))) (by decide) (by decide)))).ext E6).other W7 (Or.inr (slot_ne (Or.inl (hw _ (List.mem_of_getElem? (i := 212) rfl))) (Or.inl (hw _ (List.mem_of_getElem? (i := 18) rfl))) (by decide) (t := .int) (t' := (.array (.array .double))) (by decide) (by decide)))).ext E10).other W11 (Or.inr (slot_ne (Or.inl (hw _ (List.mem_of_getElem? (i := 212) rfl))) (Or.inl (hw _ (List.mem_of_getElem? (i := 20) rfl))) (by decide) (t := .int) (t' := (.array .double)) (by decide) (by decide)))).ext E14).other W15 (Or.inr (slot_ne (Or.inl (hw _ (List.mem_of_getElem? (i := 212) rfl))) (Or.inl (hw _ (List.mem_of_getElem? (i := 22) rfl))) (by decide) (t := .int) (t' := (.array .double)) (by decide) (by decide)))).ext E18).other W19 (Or.inr (slot_ne (Or.inl (hw _ (List.mem_of_getElem? (i := 212) rfl))) (Or.inl (hw _ (List.mem_of_getElem? (i := 24) rfl))) (by decide) (t := .int) (t' := (.array .double)) (by decide) (by decide)))).ext E22).other W23 (Or.inr (slot_ne (Or.inl (hw _ (List.mem_of_getElem? (i := 212) rfl))) (Or.inl (hw _ (List.mem_of_getElem? (i := 27) rfl))) (by decide) (t := .int) (t' := (.array .int)) (by decide) (by decide)))).other W26 (Or.inr (slot_ne (Or.inl (hw _ (List.mem_of_getElem? (i := 212) rfl))) (Or.inl (hw _ (List.mem_of_getElem? (i := 29) rfl))) (by decide) (t := .int) (t' := .boolean) (by decide) (by decide)))).ext E29).other W30 (Or.inr (slot_ne (Or.inl (hw _ (List.mem_of_getElem? (i := 212) rfl))) (Or.inl (hw _ (List.mem_of_getElem? (i := 31) rfl))) (by decide) (t := .int) (t' := (.array .double)) (by decide) (by decide)))).ext E33).other W34 (Or.inr (slot_ne (Or.inl (hw _ (List.mem_of_getElem? (i := 212) rfl))) (Or.inl (hw _ (List.mem_of_getElem? (i := 33) rfl))) (by decide) (t := .int) (t' := (.array .double)) (by decide) (by decide)))).ext E37).other W38 (Or.inr (slot_ne (Or.inl (hw _ (List.mem_of_getElem? (i := 212) rfl))) (Or.inl (hw _ (List.mem_of_getElem? (i := 35) rfl))) (by decide) (t := .int) (t' := (.array .double)) (by decide) (by decide)))).ext E41).other W42 (Or.inr (slot_ne (Or.inl (hw _ (List.mem_of_getElem? (i := 212) rfl))) (Or.inl (hw _ (List.mem_of_getElem? (i := 37) rfl))) (by decide) (t := .int) (t' := (.array .double)) (by decide) (by decide)))).ext E45).other W46 (Or.inr (slot_ne (Or.inl (hw _ (List.mem_of_getElem? (i := 212) rfl))) (Or.inl (hw _ (List.mem_of_getElem? (i := 39) rfl))) (by decide) (t := .int) (t' := (.array .double)) (by decide) (by decide)))).ext E49).other W50 (Or.inr (slot_ne (Or.inl (hw _ (List.mem_of_getElem? (i := 212) rfl))) (Or.inl (hw _ (List.mem_of_getElem? (i := 41) rfl))) (by decide) (t := .int) (t' := (.array .int)) (by decide) (by decide)))).ext E53).other W54 (Or.inr (slot_ne (Or.inl (hw _ (List.mem_of_getElem? (i := 212) rfl))) (Or.inl (hw _ (List.mem_of_getElem? (i := 43) rfl))) (by decide) (t := .int) (t' := (.array .int)) (by decide) (by decide)))).ext E57).other W58 (Or.inr (slot_ne (Or.inl (hw _ (List.mem_of_getElem? (i := 212) rfl))) (Or.inl (hw _ (List.mem_of_getElem? (i := 45) rfl))) (by decide) (t := .int) (t' := (.array .double)) (by decide) (by decide)))).ext E61).other W62 (Or.inr (slot_ne (Or.inl (hw _ (List.mem_of_getElem? (i := 212) rfl))) (Or.inl (hw _ (List.mem_of_getElem? (i := 47) rfl))) (by decide) (t := .int) (t' := (.array .double)) (by decide) (by decide)))).other W68 (Or.inr (slot_ne (Or.inl (hw _ (List.mem_of_getElem? (i := 212) rfl))) (Or.inr (hw _ (List.mem_of_getElem? (i := 49) rfl))) (by decide) (t := .int) (t' := .int) (by decide) (by decide)))).ext E72).other W81 (Or.inr (slot_ne (Or.inl (hw _ (List.mem_of_getElem? (i := 212) rfl))) (Or.inr (hw _ (List.mem_of_getElem? (i := 51) rfl))) (by decide) (t := .int) (t' := (.array .double)) (by decide) (by decide)))).ext E86).other W97 (Or.inr (slot_ne (Or.inl (hw _ (List.mem_of_getElem? (i := 212) rfl))) (Or.inr (hw _ (List.mem_of_getElem? (i := 53) rfl))) (by decide) (t := .int) (t' := (.array .double)) (by decide) (by decide)))).ext E102).other W115 (Or.inr (slot_ne (Or.inl (hw _ (List.mem_of_getElem? (i := 212) rfl))) (Or.inr (hw _ (List.mem_of_getElem? (i := 55) rfl))) (by decide) (t := .int) (t' := (.array .double)) (by decide) (by decide)))).ext E120).other W135 (Or.inr (slot_ne (Or.inl (hw _ (List.mem_of_getElem? (i := 212) rfl))) (Or.inr (hw _ (List.mem_of_getElem? (i := 57) rfl))) (by decide) (t := .int) (t' := (.array .double)) (by decide) (by decide)))).ext E140).other W157 (Or.inr (slot_ne (Or.inl (hw _ (List.mem_of_getElem? (i := 212) rfl))) (Or.inr (hw _ (List.mem_of_getElem? (i := 60) rfl))) (by decide) (t := .int) (t' := (.array .boolean)) (by decide) (by decide)))).ext E162).other W181 (Or.inr (slot_ne (Or.inl (hw _ (List.mem_of_getElem? (i := 212) rfl))) (Or.inr (hw _ (List.mem_of_getElem? (i := 62) rfl))) (by decide) (t := .int) (t' := (.array .double)) (by decide) (by decide)))).ext E186).other W207 (Or.inr (slot_ne (Or.inl (hw _ (List.mem_of_getElem? (i := 212) rfl))) (Or.inr (hw _ (List.mem_of_getElem? (i := 64) rfl))) (by decide) (t := .int) (t' := (.array (.array .int))) (by decide) (by decide)))).ext E212).other W235 (Or.inr (slot_ne (Or.inl (hw _ (List.mem_of_getElem? (i := 212) rfl))) (Or.inr (hw _ (List.mem_of_getElem? (i := 66) rfl))) (by decide) (t := .int) (t' := (.array (.array .double))) (by decide) (by decide)))).ext E240).other W241 (Or.inr (slot_ne (Or.inl (hw _ (List.mem_of_getElem? (i := 212) rfl))) (Or.inr (hw _ (List.mem_of_getElem? (i := 68) rfl))) (by decide) (t := .int) (t' := (.array .int)) (by decide) (by decide)))).ext E246).other W247 (Or.inr (slot_ne (Or.inl (hw _ (List.mem_of_getElem? (i := 212) rfl))) (Or.inr (hw _ (List.mem_of_getElem? (i := 70) rfl))) (by decide) (t := .int) (t' := (.array .double)) (by decide) (by decide)))).ext E252).other W253 (Or.inr (slot_ne (Or.inl (hw _ (List.mem_of_getElem? (i := 212) rfl))) (Or.inr (hw _ (List.mem_of_getElem? (i := 72) rfl))) (by decide) (t := .int) (t' := (.array .int)) (by decide) (by decide)))).ext E258).other W283 (Or.inr (slot_ne (Or.inl (hw _ (List.mem_of_getElem? (i := 212) rfl))) (Or.inl (hw _ (List.mem_of_getElem? (i := 74) rfl))) (by decide) (t := .int) (t' := (.array .int)) (by decide) (by decide)))).ext E288).other W315 (Or.inr (slot_ne (Or.inl (hw _ (List.mem_of_getElem? (i := 212) rfl))) (Or.inl (hw _ (List.mem_of_getElem? (i := 76) rfl))) (by decide) (t := .int) (t' := (.array .double)) (by decide) (by decide)))).ext E320).other W321 (Or.inr (slot_ne (Or.inl (hw _ (List.mem_of_getElem? (i := 212) rfl))) (Or.inl (hw _ (List.mem_of_getElem? (i := 78) rfl))) (by decide) (t := .int) (t' := (.array .double)) (by decide) (by decide)))).keep K327 (ninS nq276 nin0)).keep K331 (ninS nq308 nin0)).other W337 (Or.inl nq74)).other W343 (Or.inl nq174)).other W350 (Or.inl nq150)).ext E354).other W382 (Or.inl nq200)).ext E385).other W413 (Or.inl nq228)).other W419 (Or.inl nq74)).other W425 (Or.inl nq174)).other W432 (Or.inl nq150)).ext E436).other W464 (Or.inl nq200)).ext E467).other W495 (Or.inl nq228)).ext E498).keep K527 (ninS nq512 nin0)).other W528 (Or.inr (slot_ne (Or.inl (hw _ (List.mem_of_getElem? (i := 212) rfl))) (Or.inr (hw _ (List.mem_of_getElem? (i := 196) rfl))) (by decide) (t := .int) (t' := (.object "com/example/slotwright/slotwright/SimplexBasis")) (by decide) (by decide))))
      have f538 := (((f515.ext E498).keep K527 (ninS nq516 nin0)).other W528 n_p1)
      have f539 := (((f517.ext E498).keep K527 (ninS nq518 nin0)).other W528 n_p2)
      have f540 := (((f509.ext E498).keep K527 (ninS nq510 nin0)).other W528 (Ne.symm nq90))
      have f541 := (((f499.ext E498).keep K527 (ninS nq500 nin0)).other W528 (Ne.symm nq108))
      have f542 := (((f501.ext E498).keep K527 (ninS nq502 nin0)).other W528 (Ne.symm nq128))
      have f543 := (((f503.ext E498).keep K527 (ninS nq504 nin0)).other W528 (Ne.symm nq150))
      have f544 := (((f505.ext E498).keep K527 (ninS nq506 nin0)).other W528 (Ne.symm nq276))
      have f545 := (f530.wr W528)
      refine own_virtual X528 hx hZ hown (hw _ (List.mem_of_getElem? (i := 197) rfl)) (hw _ (List.mem_of_getElem? (i := 198) rfl)) (hw _ (List.mem_of_getElem? (i := 200) rfl)) (hw _ (List.mem_of_getElem? (i := 199) rfl)) (hw _ (List.mem_of_getElem? (i := 4) rfl)) (hw _ (List.mem_of_getElem? (i := 201) rfl)) (by decide) e528 (a := o) f545 (argsL := [(.ref p1), (.ref p2)]) (rest := []) (rm7 l Z a0 hw [] o p1 p2 b86 b102 b120 b140 b258 x0 x1 y0 y1 z0 z1 o0 o1 _ _ _ _ _ _ _ h528 n0 Z528 f531 f532 f533 f534 f535 f536 f537 f538 f539 f540 f541 f542 f543 f544 (Ne.symm nq90) (Ne.symm nq94) (Ne.symm nq96) nq106 nq126 nq148 nq274 (Ne.symm nq108) (Ne.symm nq112) (Ne.symm nq114) nq122 nq142 nq260 (Ne.symm nq128) (Ne.symm nq132) (Ne.symm nq134) nq144 nq262 G86 G102 G120 h1_0 h2_0 rfl rfl fx0 fy0 hc0 hg0 h1_1 h2_1 rfl rfl fx1 fy1 hc1 hg1) 0 (by decide) (by decide) (by decide) (by decide) (by rw [hml]; rfl) pd_4 rfl rfl (Nat.le_of_eq rfl) (hb hby d1_422) rfl ?_
      intro v546 T546 L546 X546 hQ546
      obtain ⟨rfl, N546q, K546, Av⟩ := hQ546
      have N546 := Fr.app N528 N546q
      show own_Go _ _ _ _ _ _ _ (T546.setTop (mkF m 425 #[.val (.ref o), .val (.ref p0), .val (.ref p1), .val (.ref p2), .val (.int (2 : Int32))] []))
      have f547 := (f545.keep K546)
      have f548 := (f531.keep K546 (ninS nq90 (ninS nq108 (ninS nq128 nin0))))
      have f549 := (((((((((f430.other W432 (Or.inl nq150)).ext E436).other W464 (Or.inl nq200)).ext E467).other W495 (Or.inl nq228)).ext E498).keep K527 (ninS nq512 nin0)).other W528 (Or.inr (slot_ne (Or.inr (hw _ (List.mem_of_getElem? (i := 51) rfl))) (Or.inr (hw _ (List.mem_of_getElem? (i := 196) rfl))) (by decide) (t := (.array .double)) (t' := (.object "com/example/slotwright/slotwright/SimplexBasis")) (by decide) (by decide)))).keep K546 (ninS nq90 (ninS nq108 (ninS nq128 nin0))))
      have f550 := (f534.keep K546 (ninS nq90 (ninS nq108 (ninS nq128 nin0))))
      have f551 := ((((f507.ext E498).keep K527 (ninS nq508 nin0)).other W528 (Ne.symm nq74)).keep K546 (ninS nq88 (ninS nq104 (ninS nq124 nin0))))
      have hsz : h0.size ≤ T546.heap.size := by have := E2.1; have := W3.size; have := E6.1; have := W7.size; have := E10.1; have := W11.size; have := E14.1; have := W15.size; have := E18.1; have := W19.size; have := E22.1; have := W23.size; have := W26.size; have := E29.1; have := W30.size; have := E33.1; have := W34.size; have := E37.1; have := W38.size; have := E41.1; have := W42.size; have := E45.1; have := W46.size; have := E49.1; have := W50.size; have := E53.1; have := W54.size; have := E57.1; have := W58.size; have := E61.1; have := W62.size; have := W68.size; have := E72.1; have := W81.size; have := E86.1; have := W97.size; have := E102.1; have := W115.size; have := E120.1; have := W135.size; have := E140.1; have := W157.size; have := E162.1; have := W181.size; have := E186.1; have := W207.size; have := E212.1; have := W235.size; have := E240.1; have := W241.size; have := E246.1; have := W247.size; have := E252.1; have := W253.size; have := E258.1; have := W283.size; have := E288.1; have := W315.size; have := E320.1; have := W321.size; have := K327.1; have := K331.1; have := W337.size; have := W343.size; have := W350.size; have := E354.1; have := W382.size; have := E385.1; have := W413.size; have := W419.size; have := W425.size; have := W432.size; have := E436.1; have := W464.size; have := E467.1; have := W495.size; have := E498.1; have := K527.1; have := W528.size; have := K546.1; omega
      exact own_retV X546 hx hlk hret (hb hby d1_425) (by decide) (by decide) ⟨rfl, N546, hsz, f547, f548, _, _, f549, f550, ⟨_, f551, rfl, rfl⟩, ⟨_, Av, rfl, rfl⟩⟩
    · show own_Go _ _ _ _ _ _ _ (T429.setTop (mkF m 357 #[.val (.ref o), .val (.ref p0), .val (.ref p1), .val (.ref p2), .val (.int (1 : Int32))] [(.int (own_oi oc1)), (.int (1 : Int32)), (.ref b140)]))
      rcases hz1 with ⟨ho1, hv1⟩ | ⟨ho1, hv1⟩
      · refine own_go (fun _ q => XS.ifNo X429.here hx rfl (hb hby d1_357) rfl ((if0 _ _).trans (tlt (own_oi_lt ho1)).2.1) q) ?_
        show own_Go _ _ _ _ _ _ _ (T429.setTop (mkF m 360 #[.val (.ref o), .val (.ref p0), .val (.ref p1), .val (.ref p2), .val (.int (1 : Int32))] [(.int (1 : Int32)), (.ref b140)]))
        refine own_go (fun _ q => XS.iconst X429.here hx rfl (hb hby d1_360) q) ?_
        show own_Go _ _ _ _ _ _ _ (T429.setTop (mkF m 361 #[.val (.ref o), .val (.ref p0), .val (.ref p1), .val (.ref p2), .val (.int (1 : Int32))] [(.int (1 : Int32)), (.int (1 : Int32)), (.ref b140)]))
        refine own_go (fun _ q => XS.goto X429.here hx rfl (pc0 := 361) (pc' := 365) rfl (hb hby d1_361) (by decide) (by decide) q) ?_
        show own_Go _ _ _ _ _ _ _ (T429.setTop (mkF m 365 #[.val (.ref o), .val (.ref p0), .val (.ref p1), .val (.ref p2), .val (.int (1 : Int32))] [(.int (1 : Int32)), (.int (1 : Int32)), (.ref b140)]))
        exact own_cast (by rw [hv1]) tail1
      · refine own_go (fun _ q => XS.ifYes X429.here hx rfl (pc0 := 357) (pc' := 364) rfl (hb hby d1_357) rfl ((if0 _ _).trans (flt (own_oi_nlt ho1)).2.1) (by decide) (by decide) q) ?_
        show own_Go _ _ _ _ _ _ _ (T429.setTop (mkF m 364 #[.val (.ref o), .val (.ref p0), .val (.ref p1), .val (.ref p2), .val (.int (1 : Int32))] [(.int (1 : Int32)), (.ref b140)]))
        refine own_go (fun _ q => XS.iconst X429.here hx rfl (hb hby d1_364) q) ?_
        show own_Go _ _ _ _ _ _ _ (T429.setTop (mkF m 365 #[.val (.ref o), .val (.ref p0), .val (.ref p1), .val (.ref p2), .val (.int (1 : Int32))] [(.int (0 : Int32)), (.int (1 : Int32)), (.ref b140)]))
        exact own_cast (by rw [hv1]) tail1
  · show own_Go _ _ _ _ _ _ _ (T347.setTop (mkF m 357 #[.val (.ref o), .val (.ref p0), .val (.ref p1), .val (.ref p2), .val (.int (0 : Int32))] [(.int (own_oi oc0)), (.int (0 : Int32)), (.ref b140)]))
    rcases hz0 with ⟨ho0, hv0⟩ | ⟨ho0, hv0⟩
    · refine own_go (fun _ q => XS.ifNo X347.here hx rfl (hb hby d1_357) rfl ((if0 _ _).trans (tlt (own_oi_lt ho0)).2.1) q) ?_
      show own_Go _ _ _ _ _ _ _ (T347.setTop (mkF m 360 #[.val (.ref o), .val (.ref p0), .val (.ref p1), .val (.ref p2), .val (.int (0 : Int32))] [(.int (0 : Int32)), (.ref b140)]))
      refine own_go (fun _ q => XS.iconst X347.here hx rfl (hb hby d1_360) q) ?_
      show own_Go _ _ _ _ _ _ _ (T347.setTop (mkF m 361 #[.val (.ref o), .val (.ref p0), .val (.ref p1), .val (.ref p2), .val (.int (0 : Int32))] [(.int (1 : Int32)), (.int (0 : Int32)), (.ref b140)]))
      refine own_go (fun _ q => XS.goto X347.here hx rfl (pc0 := 361) (pc' := 365) rfl (hb hby d1_361) (by decide) (by decide) q) ?_
      show own_Go _ _ _ _ _ _ _ (T347.setTop (mkF m 365 #[.val (.ref o), .val (.ref p0), .val (.ref p1), .val (.ref p2), .val (.int (0 : Int32))] [(.int (1 : Int32)), (.int (0 : Int32)), (.ref b140)]))
      exact own_cast (by rw [hv0]) tail0
    · refine own_go (fun _ q => XS.ifYes X347.here hx rfl (pc0 := 357) (pc' := 364) rfl (hb hby d1_357) rfl ((if0 _ _).trans (flt (own_oi_nlt ho0)).2.1) (by decide) (by decide) q) ?_
      show own_Go _ _ _ _ _ _ _ (T347.setTop (mkF m 364 #[.val (.ref o), .val (.ref p0), .val (.ref p1), .val (.ref p2), .val (.int (0 : Int32))] [(.int (0 : Int32)), (.ref b140)]))
      refine own_go (fun _ q => XS.iconst X347.here hx rfl (hb hby d1_364) q) ?_
      show own_Go _ _ _ _ _ _ _ (T347.setTop (mkF m 365 #[.val (.ref o), .val (.ref p0), .val (.ref p1), .val (.ref p2), .val (.int (0 : Int32))] [(.int (0 : Int32)), (.int (0 : Int32)), (.ref b140)]))
      exact own_cast (by rw [hv0]) tail0
theorem d11_0 : decode prog_5_method_9_code 0 = .ok (.dconst 0, 1) := by decide +kernel
theorem d11_1 : decode prog_5_method_9_code 1 = .ok (.dstore_n 1, 1) := by decide +kernel
theorem d11_2 : decode prog_5_method_9_code 2 = .ok (.iconst 0, 1) := by decide +kernel
theorem d11_3 : decode prog_5_method_9_code 3 = .ok (.istore_n 3, 1) := by decide +kernel
theorem d11_4 : decode prog_5_method_9_code 4 = .ok (.iload_n 3, 1) := by decide +kernel
theorem d11_5 : decode prog_5_method_9_code 5 = .ok (.aload_n 0, 1) := by decide +kernel
theorem d11_6 : decode prog_5_method_9_code 6 = .ok (.getfield 71, 3) := by decide +kernel
theorem d11_9 : decode prog_5_method_9_code 9 = .ok (.if_icmp .ge 25, 3) := by decide +kernel
theorem d11_12 : decode prog_5_method_9_code 12 = .ok (.dload_n 1, 1) := by decide +kernel
theorem d11_13 : decode prog_5_method_9_code 13 = .ok (.aload_n 0, 1) := by decide +kernel
theorem d11_14 : decode prog_5_method_9_code 14 = .ok (.getfield 75, 3) := by decide +kernel
theorem d11_17 : decode prog_5_method_9_code 17 = .ok (.iload_n 3, 1) := by decide +kernel
theorem d11_18 : decode prog_5_method_9_code 18 = .ok (.daload, 1) := by decide +kernel
theorem d11_19 : decode prog_5_method_9_code 19 = .ok (.aload_n 0, 1) := by decide +kernel
theorem d11_20 : decode prog_5_method_9_code 20 = .ok (.getfield 84, 3) := by decide +kernel
theorem d11_23 : decode prog_5_method_9_code 23 = .ok (.iload_n 3, 1) := by decide +kernel
theorem d11_24 : decode prog_5_method_9_code 24 = .ok (.daload, 1) := by decide +kernel
theorem d11_25 : decode prog_5_method_9_code 25 = .ok (.dmul, 1) := by decide +kernel
theorem d11_26 : decode prog_5_method_9_code 26 = .ok (.dsub, 1) := by decide +kernel
theorem d11_27 : decode prog_5_method_9_code 27 = .ok (.dstore_n 1, 1) := by decide +kernel
theorem d11_28 : decode prog_5_method_9_code 28 = .ok (.iinc 3 1, 3) := by decide +kernel
theorem d11_31 : decode prog_5_method_9_code 31 = .ok (.goto (-27), 3) := by decide +kernel
theorem d11_34 : decode prog_5_method_9_code 34 = .ok (.dload_n 1, 1) := by decide +kernel
theorem d11_35 : decode prog_5_method_9_code 35 = .ok (.dreturn, 1) := by decide +kernel
def Q11 (Z : State) (o : Addr) (ca : Addr) (va : Addr) (c0 : UInt64) (c1 : UInt64) (v0 : UInt64) (v1 : UInt64) (F1 : Nat → Value) (F2 : Nat → Value) (h0 : Heap) (n0 : Nat) (v : Option Value) (h : Heap) (L : List Loc) : Prop := v = some (.double (FP.dsub (FP.dsub FP.dconst0 (FP.dmul c0 v0)) (FP.dmul c1 v1))) ∧ Fr n0 L ∧ h = h0
theorem ef_11 (m : MethodId) (x0 : Addr) : entryFrame m #[(.ref x0)] 4 = mkF m 0 #[.val (.ref x0), .unset, .unset, .unset] [] := by first | (simp [entryFrame, mkF, argsToLocals, Value.category]; done) | rfl
set_option maxRecDepth 65536 in
set_option maxHeartbeats 40000000 in
theorem rm11 (l : Launch) (Z : State) (a0 : Array Value) (hw : ∀ d ∈ tables_1, d.before a0 Z = true) (ws : List Jvm.Cond) (o : Addr) (ca : Addr) (va : Addr) (c0 : UInt64) (c1 : UInt64) (v0 : UInt64) (v1 : UInt64) (F1 : Nat → Value) (F2 : Nat → Value) (h0 : Heap) (n0 : Nat) (Z0 : n0 ≤ h0.size) (Fc_ : Fld Z h0 o "com/example/slotwright/slotwright/BoundedSimplex" "columns" "I" (.int 2)) (Fk_ : Fld Z h0 o "com/example/slotwright/slotwright/BoundedSimplex" "cost" "[D" (.ref ca)) (Fv_ : Fld Z h0 o "com/example/slotwright/slotwright/BoundedSimplex" "value" "[D" (.ref va)) (Ac : own_Ar Z h0 ca .double 2 F1) (hc_0 : F1 0 = .double c0) (hc_1 : F1 1 = .double c1) (Av : own_Ar Z h0 va .double 2 F2) (hv_0 : F2 0 = .double v0) (hv_1 : F2 1 = .double v1) (nm0 : FP.Core.val64 (FP.dmul c0 v0) ≠ .nan) (nm1 : FP.Core.val64 (FP.dmul c1 v1) ≠ .nan) (ns0 : FP.Core.val64 (FP.dsub FP.dconst0 (FP.dmul c0 v0)) ≠ .nan) (ns1 : FP.Core.val64 (FP.dsub (FP.dsub FP.dconst0 (FP.dmul c0 v0)) (FP.dmul c1 v1)) ≠ .nan) :
    own_Met l Z (⟨"com/example/slotwright/slotwright/BoundedSimplex", "objective", "()D"⟩ : MethodName) prog_5_method_9_code 4 (some .double) ({ frames := 0, cells := 0, slots := 0, locals := 0 } : Room) ws #[(.ref o)] h0 (Q11 Z o ca va c0 c1 v0 v1 F1 F2 h0 n0) := by
  refine own_enter (plainFor_of_name (by first | (simp [plainName, overriddenIn]; done) | decide +kernel)) ?_
  intro p e s m below meth c s₁ hx hby hml hown hnm hlk hret hZ X0 e0
  have N0 := Fr.nil n0
  refine own_go (fun _ q => castTop (ef_11 m o) q) ?_
  show own_Go _ _ _ _ _ _ _ (s₁.setTop (mkF m 0 #[.val (.ref o), .unset, .unset, .unset] []))
  refine own_go (own_dconst0 X0 hx (g := (mkF m 0 #[.val (.ref o), .unset, .unset, .unset] [])) rfl (hb hby d11_0)) ?_
  show own_Go _ _ _ _ _ _ _ (s₁.setTop (mkF m 1 #[.val (.ref o), .unset, .unset, .unset] [(.double FP.dconst0)]))
  refine own_go (own_dstoreN X0 hx (g := (mkF m 1 #[.val (.ref o), .unset, .unset, .unset] [(.double FP.dconst0)])) rfl (hb hby d11_1) rfl (l' := #[.val (.ref o), .val (.double FP.dconst0), .second, .unset]) rfl) ?_
  show own_Go _ _ _ _ _ _ _ (s₁.setTop (mkF m 2 #[.val (.ref o), .val (.double FP.dconst0), .second, .unset] []))
  refine own_go (fun _ q => XS.iconst X0.here hx rfl (hb hby d11_2) q) ?_
  show own_Go _ _ _ _ _ _ _ (s₁.setTop (mkF m 3 #[.val (.ref o), .val (.double FP.dconst0), .second, .unset] [(.int (0 : Int32))]))
  refine own_go (fun _ q => XS.istoreN X0.here hx rfl (hb hby d11_3) rfl (l' := #[.val (.ref o), .val (.double FP.dconst0), .second, .val (.int (0 : Int32))]) rfl q) ?_
  show own_Go _ _ _ _ _ _ _ (s₁.setTop (mkF m 4 #[.val (.ref o), .val (.double FP.dconst0), .second, .val (.int (0 : Int32))] []))
  refine own_go (fun _ q => XS.iloadN X0.here hx rfl (hb hby d11_4) rfl q) ?_
  show own_Go _ _ _ _ _ _ _ (s₁.setTop (mkF m 5 #[.val (.ref o), .val (.double FP.dconst0), .second, .val (.int (0 : Int32))] [(.int (0 : Int32))]))
  refine own_go (fun _ q => XS.aloadN X0.here hx rfl (hb hby d11_5) rfl rfl q) ?_
  show own_Go _ _ _ _ _ _ _ (s₁.setTop (mkF m 6 #[.val (.ref o), .val (.double FP.dconst0), .second, .val (.int (0 : Int32))] [(.ref o), (.int (0 : Int32))]))
  obtain ⟨T1, X1, e1, st1⟩ := getF X0 hx hZ hown (host := "") (Or.inl (hw _ (List.mem_of_getElem? (i := 48) rfl))) Via.refl e0 Fc_ (g := (mkF m 6 #[.val (.ref o), .val (.double FP.dconst0), .second, .val (.int (0 : Int32))] [(.ref o), (.int (0 : Int32))])) rfl rfl (hb hby d11_6)
  refine own_go st1 ?_
  show own_Go _ _ _ _ _ _ _ (T1.setTop (mkF m 9 #[.val (.ref o), .val (.double FP.dconst0), .second, .val (.int (0 : Int32))] [(.int (2 : Int32)), (.int (0 : Int32))]))
  refine own_go (fun _ q => XS.icmpNo X1.here hx rfl (hb hby d11_9) rfl (tlt (by decide : (0 : Int32) < (2 : Int32))).2.1 q) ?_
  show own_Go _ _ _ _ _ _ _ (T1.setTop (mkF m 12 #[.val (.ref o), .val (.double FP.dconst0), .second, .val (.int (0 : Int32))] []))
  refine own_go (fun _ q => XT.dloadN X1.here hx rfl (hb hby d11_12) rfl q) ?_
  show own_Go _ _ _ _ _ _ _ (T1.setTop (mkF m 13 #[.val (.ref o), .val (.double FP.dconst0), .second, .val (.int (0 : Int32))] [(.double FP.dconst0)]))
  refine own_go (fun _ q => XS.aloadN X1.here hx rfl (hb hby d11_13) rfl rfl q) ?_
  show own_Go _ _ _ _ _ _ _ (T1.setTop (mkF m 14 #[.val (.ref o), .val (.double FP.dconst0), .second, .val (.int (0 : Int32))] [(.ref o), (.double FP.dconst0)]))
  obtain ⟨T2, X2, e2, st2⟩ := getF X1 hx hZ hown (host := "") (Or.inl (hw _ (List.mem_of_getElem? (i := 50) rfl))) Via.refl e1 Fk_ (g := (mkF m 14 #[.val (.ref o), .val (.double FP.dconst0), .second, .val (.int (0 : Int32))] [(.ref o), (.double FP.dconst0)])) rfl rfl (hb hby d11_14)
  refine own_go st2 ?_
  show own_Go _ _ _ _ _ _ _ (T2.setTop (mkF m 17 #[.val (.ref o), .val (.double FP.dconst0), .second, .val (.int (0 : Int32))] [(.ref ca), (.double FP.dconst0)]))
  refine own_go (fun _ q => XS.iloadN X2.here hx rfl (hb hby d11_17) rfl q) ?_
  show own_Go _ _ _ _ _ _ _ (T2.setTop (mkF m 18 #[.val (.ref o), .val (.double FP.dconst0), .second, .val (.int (0 : Int32))] [(.int (0 : Int32)), (.ref ca), (.double FP.dconst0)]))
  refine own_daload X2 hx hZ e2 Ac (i := 0) rfl (by decide) hc_0 (hb hby d11_18) rfl ?_
  show own_Go _ _ _ _ _ _ _ (T2.setTop (mkF m 19 #[.val (.ref o), .val (.double FP.dconst0), .second, .val (.int (0 : Int32))] [(.double c0), (.double FP.dconst0)]))
  refine own_go (fun _ q => XS.aloadN X2.here hx rfl (hb hby d11_19) rfl rfl q) ?_
  show own_Go _ _ _ _ _ _ _ (T2.setTop (mkF m 20 #[.val (.ref o), .val (.double FP.dconst0), .second, .val (.int (0 : Int32))] [(.ref o), (.double c0), (.double FP.dconst0)]))
  obtain ⟨T3, X3, e3, st3⟩ := getF X2 hx hZ hown (host := "") (Or.inl (hw _ (List.mem_of_getElem? (i := 56) rfl))) Via.refl e2 Fv_ (g := (mkF m 20 #[.val (.ref o), .val (.double FP.dconst0), .second, .val (.int (0 : Int32))] [(.ref o), (.double c0), (.double FP.dconst0)])) rfl rfl (hb hby d11_20)
  refine own_go st3 ?_
  show own_Go _ _ _ _ _ _ _ (T3.setTop (mkF m 23 #[.val (.ref o), .val (.double FP.dconst0), .second, .val (.int (0 : Int32))] [(.ref va), (.double c0), (.double FP.dconst0)]))
  refine own_go (fun _ q => XS.iloadN X3.here hx rfl (hb hby d11_23) rfl q) ?_
  show own_Go _ _ _ _ _ _ _ (T3.setTop (mkF m 24 #[.val (.ref o), .val (.double FP.dconst0), .second, .val (.int (0 : Int32))] [(.int (0 : Int32)), (.ref va), (.double c0), (.double FP.dconst0)]))
  refine own_daload X3 hx hZ e3 Av (i := 0) rfl (by decide) hv_0 (hb hby d11_24) rfl ?_
  show own_Go _ _ _ _ _ _ _ (T3.setTop (mkF m 25 #[.val (.ref o), .val (.double FP.dconst0), .second, .val (.int (0 : Int32))] [(.double v0), (.double c0), (.double FP.dconst0)]))
  refine own_go (own_dmul X3 hx (g := (mkF m 25 #[.val (.ref o), .val (.double FP.dconst0), .second, .val (.int (0 : Int32))] [(.double v0), (.double c0), (.double FP.dconst0)])) rfl (hb hby d11_25) rfl (own_num nm0)) ?_
  show own_Go _ _ _ _ _ _ _ (T3.setTop (mkF m 26 #[.val (.ref o), .val (.double FP.dconst0), .second, .val (.int (0 : Int32))] [(.double (FP.dmul c0 v0)), (.double FP.dconst0)]))
  refine own_go (own_dsub X3 hx (g := (mkF m 26 #[.val (.ref o), .val (.double FP.dconst0), .second, .val (.int (0 : Int32))] [(.double (FP.dmul c0 v0)), (.double FP.dconst0)])) rfl (hb hby d11_26) rfl (own_num ns0)) ?_
  show own_Go _ _ _ _ _ _ _ (T3.setTop (mkF m 27 #[.val (.ref o), .val (.double FP.dconst0), .second, .val (.int (0 : Int32))] [(.double (FP.dsub FP.dconst0 (FP.dmul c0 v0)))]))
  refine own_go (own_dstoreN X3 hx (g := (mkF m 27 #[.val (.ref o), .val (.double FP.dconst0), .second, .val (.int (0 : Int32))] [(.double (FP.dsub FP.dconst0 (FP.dmul c0 v0)))])) rfl (hb hby d11_27) rfl (l' := #[.val (.ref o), .val (.double (FP.dsub FP.dconst0 (FP.dmul c0 v0))), .second, .val (.int (0 : Int32))]) rfl) ?_
  show own_Go _ _ _ _ _ _ _ (T3.setTop (mkF m 28 #[.val (.ref o), .val (.double (FP.dsub FP.dconst0 (FP.dmul c0 v0))), .second, .val (.int (0 : Int32))] []))
  refine own_go (fun _ q => XS.iinc X3.here hx rfl (hb hby d11_28) rfl (l' := #[.val (.ref o), .val (.double (FP.dsub FP.dconst0 (FP.dmul c0 v0))), .second, .val (.int ((0 : Int32) + (1 : Int32)))]) rfl q) ?_
  show own_Go _ _ _ _ _ _ _ (T3.setTop (mkF m 31 #[.val (.ref o), .val (.double (FP.dsub FP.dconst0 (FP.dmul c0 v0))), .second, .val (.int ((0 : Int32) + (1 : Int32)))] []))
  show own_Go _ _ _ _ _ _ _ (T3.setTop (mkF m 31 #[.val (.ref o), .val (.double (FP.dsub FP.dconst0 (FP.dmul c0 v0))), .second, .val (.int (1 : Int32))] []))
  refine own_go (fun _ q => XS.goto X3.here hx rfl (pc0 := 31) (pc' := 4) rfl (hb hby d11_31) (by decide) (by decide) q) ?_
  show own_Go _ _ _ _ _ _ _ (T3.setTop (mkF m 4 #[.val (.ref o), .val (.double (FP.dsub FP.dconst0 (FP.dmul c0 v0))), .second, .val (.int (1 : Int32))] []))
  refine own_go (fun _ q => XS.iloadN X3.here hx rfl (hb hby d11_4) rfl q) ?_
  show own_Go _ _ _ _ _ _ _ (T3.setTop (mkF m 5 #[.val (.ref o), .val (.double (FP.dsub FP.dconst0 (FP.dmul c0 v0))), .second, .val (.int (1 : Int32))] [(.int (1 : Int32))]))
  refine own_go (fun _ q => XS.aloadN X3.here hx rfl (hb hby d11_5) rfl rfl q) ?_
  show own_Go _ _ _ _ _ _ _ (T3.setTop (mkF m 6 #[.val (.ref o), .val (.double (FP.dsub FP.dconst0 (FP.dmul c0 v0))), .second, .val (.int (1 : Int32))] [(.ref o), (.int (1 : Int32))]))
  obtain ⟨T4, X4, e4, st4⟩ := getF X3 hx hZ hown (host := "") (Or.inl (hw _ (List.mem_of_getElem? (i := 48) rfl))) Via.refl e3 Fc_ (g := (mkF m 6 #[.val (.ref o), .val (.double (FP.dsub FP.dconst0 (FP.dmul c0 v0))), .second, .val (.int (1 : Int32))] [(.ref o), (.int (1 : Int32))])) rfl rfl (hb hby d11_6)
  refine own_go st4 ?_
  show own_Go _ _ _ _ _ _ _ (T4.setTop (mkF m 9 #[.val (.ref o), .val (.double (FP.dsub FP.dconst0 (FP.dmul c0 v0))), .second, .val (.int (1 : Int32))] [(.int (2 : Int32)), (.int (1 : Int32))]))
  refine own_go (fun _ q => XS.icmpNo X4.here hx rfl (hb hby d11_9) rfl (tlt (by decide : (1 : Int32) < (2 : Int32))).2.1 q) ?_
  show own_Go _ _ _ _ _ _ _ (T4.setTop (mkF m 12 #[.val (.ref o), .val (.double (FP.dsub FP.dconst0 (FP.dmul c0 v0))), .second, .val (.int (1 : Int32))] []))
  refine own_go (fun _ q => XT.dloadN X4.here hx rfl (hb hby d11_12) rfl q) ?_
  show own_Go _ _ _ _ _ _ _ (T4.setTop (mkF m 13 #[.val (.ref o), .val (.double (FP.dsub FP.dconst0 (FP.dmul c0 v0))), .second, .val (.int (1 : Int32))] [(.double (FP.dsub FP.dconst0 (FP.dmul c0 v0)))]))
  refine own_go (fun _ q => XS.aloadN X4.here hx rfl (hb hby d11_13) rfl rfl q) ?_
  show own_Go _ _ _ _ _ _ _ (T4.setTop (mkF m 14 #[.val (.ref o), .val (.double (FP.dsub FP.dconst0 (FP.dmul c0 v0))), .second, .val (.int (1 : Int32))] [(.ref o), (.double (FP.dsub FP.dconst0 (FP.dmul c0 v0)))]))
  obtain ⟨T5, X5, e5, st5⟩ := getF X4 hx hZ hown (host := "") (Or.inl (hw _ (List.mem_of_getElem? (i := 50) rfl))) Via.refl e4 Fk_ (g := (mkF m 14 #[.val (.ref o), .val (.double (FP.dsub FP.dconst0 (FP.dmul c0 v0))), .second, .val (.int (1 : Int32))] [(.ref o), (.double (FP.dsub FP.dconst0 (FP.dmul c0 v0)))])) rfl rfl (hb hby d11_14)
  refine own_go st5 ?_
  show own_Go _ _ _ _ _ _ _ (T5.setTop (mkF m 17 #[.val (.ref o), .val (.double (FP.dsub FP.dconst0 (FP.dmul c0 v0))), .second, .val (.int (1 : Int32))] [(.ref ca), (.double (FP.dsub FP.dconst0 (FP.dmul c0 v0)))]))
  refine own_go (fun _ q => XS.iloadN X5.here hx rfl (hb hby d11_17) rfl q) ?_
  show own_Go _ _ _ _ _ _ _ (T5.setTop (mkF m 18 #[.val (.ref o), .val (.double (FP.dsub FP.dconst0 (FP.dmul c0 v0))), .second, .val (.int (1 : Int32))] [(.int (1 : Int32)), (.ref ca), (.double (FP.dsub FP.dconst0 (FP.dmul c0 v0)))]))
  refine own_daload X5 hx hZ e5 Ac (i := 1) rfl (by decide) hc_1 (hb hby d11_18) rfl ?_
  show own_Go _ _ _ _ _ _ _ (T5.setTop (mkF m 19 #[.val (.ref o), .val (.double (FP.dsub FP.dconst0 (FP.dmul c0 v0))), .second, .val (.int (1 : Int32))] [(.double c1), (.double (FP.dsub FP.dconst0 (FP.dmul c0 v0)))]))
  refine own_go (fun _ q => XS.aloadN X5.here hx rfl (hb hby d11_19) rfl rfl q) ?_
  show own_Go _ _ _ _ _ _ _ (T5.setTop (mkF m 20 #[.val (.ref o), .val (.double (FP.dsub FP.dconst0 (FP.dmul c0 v0))), .second, .val (.int (1 : Int32))] [(.ref o), (.double c1), (.double (FP.dsub FP.dconst0 (FP.dmul c0 v0)))]))
  obtain ⟨T6, X6, e6, st6⟩ := getF X5 hx hZ hown (host := "") (Or.inl (hw _ (List.mem_of_getElem? (i := 56) rfl))) Via.refl e5 Fv_ (g := (mkF m 20 #[.val (.ref o), .val (.double (FP.dsub FP.dconst0 (FP.dmul c0 v0))), .second, .val (.int (1 : Int32))] [(.ref o), (.double c1), (.double (FP.dsub FP.dconst0 (FP.dmul c0 v0)))])) rfl rfl (hb hby d11_20)
  refine own_go st6 ?_
  show own_Go _ _ _ _ _ _ _ (T6.setTop (mkF m 23 #[.val (.ref o), .val (.double (FP.dsub FP.dconst0 (FP.dmul c0 v0))), .second, .val (.int (1 : Int32))] [(.ref va), (.double c1), (.double (FP.dsub FP.dconst0 (FP.dmul c0 v0)))]))
  refine own_go (fun _ q => XS.iloadN X6.here hx rfl (hb hby d11_23) rfl q) ?_
  show own_Go _ _ _ _ _ _ _ (T6.setTop (mkF m 24 #[.val (.ref o), .val (.double (FP.dsub FP.dconst0 (FP.dmul c0 v0))), .second, .val (.int (1 : Int32))] [(.int (1 : Int32)), (.ref va), (.double c1), (.double (FP.dsub FP.dconst0 (FP.dmul c0 v0)))]))
  refine own_daload X6 hx hZ e6 Av (i := 1) rfl (by decide) hv_1 (hb hby d11_24) rfl ?_
  show own_Go _ _ _ _ _ _ _ (T6.setTop (mkF m 25 #[.val (.ref o), .val (.double (FP.dsub FP.dconst0 (FP.dmul c0 v0))), .second, .val (.int (1 : Int32))] [(.double v1), (.double c1), (.double (FP.dsub FP.dconst0 (FP.dmul c0 v0)))]))
  refine own_go (own_dmul X6 hx (g := (mkF m 25 #[.val (.ref o), .val (.double (FP.dsub FP.dconst0 (FP.dmul c0 v0))), .second, .val (.int (1 : Int32))] [(.double v1), (.double c1), (.double (FP.dsub FP.dconst0 (FP.dmul c0 v0)))])) rfl (hb hby d11_25) rfl (own_num nm1)) ?_
  show own_Go _ _ _ _ _ _ _ (T6.setTop (mkF m 26 #[.val (.ref o), .val (.double (FP.dsub FP.dconst0 (FP.dmul c0 v0))), .second, .val (.int (1 : Int32))] [(.double (FP.dmul c1 v1)), (.double (FP.dsub FP.dconst0 (FP.dmul c0 v0)))]))
  refine own_go (own_dsub X6 hx (g := (mkF m 26 #[.val (.ref o), .val (.double (FP.dsub FP.dconst0 (FP.dmul c0 v0))), .second, .val (.int (1 : Int32))] [(.double (FP.dmul c1 v1)), (.double (FP.dsub FP.dconst0 (FP.dmul c0 v0)))])) rfl (hb hby d11_26) rfl (own_num ns1)) ?_
  show own_Go _ _ _ _ _ _ _ (T6.setTop (mkF m 27 #[.val (.ref o), .val (.double (FP.dsub FP.dconst0 (FP.dmul c0 v0))), .second, .val (.int (1 : Int32))] [(.double (FP.dsub (FP.dsub FP.dconst0 (FP.dmul c0 v0)) (FP.dmul c1 v1)))]))
  refine own_go (own_dstoreN X6 hx (g := (mkF m 27 #[.val (.ref o), .val (.double (FP.dsub FP.dconst0 (FP.dmul c0 v0))), .second, .val (.int (1 : Int32))] [(.double (FP.dsub (FP.dsub FP.dconst0 (FP.dmul c0 v0)) (FP.dmul c1 v1)))])) rfl (hb hby d11_27) rfl (l' := #[.val (.ref o), .val (.double (FP.dsub (FP.dsub FP.dconst0 (FP.dmul c0 v0)) (FP.dmul c1 v1))), .second, .val (.int (1 : Int32))]) rfl) ?_
  show own_Go _ _ _ _ _ _ _ (T6.setTop (mkF m 28 #[.val (.ref o), .val (.double (FP.dsub (FP.dsub FP.dconst0 (FP.dmul c0 v0)) (FP.dmul c1 v1))), .second, .val (.int (1 : Int32))] []))
  refine own_go (fun _ q => XS.iinc X6.here hx rfl (hb hby d11_28) rfl (l' := #[.val (.ref o), .val (.double (FP.dsub (FP.dsub FP.dconst0 (FP.dmul c0 v0)) (FP.dmul c1 v1))), .second, .val (.int ((1 : Int32) + (1 : Int32)))]) rfl q) ?_
  show own_Go _ _ _ _ _ _ _ (T6.setTop (mkF m 31 #[.val (.ref o), .val (.double (FP.dsub (FP.dsub FP.dconst0 (FP.dmul c0 v0)) (FP.dmul c1 v1))), .second, .val (.int ((1 : Int32) + (1 : Int32)))] []))
  show own_Go _ _ _ _ _ _ _ (T6.setTop (mkF m 31 #[.val (.ref o), .val (.double (FP.dsub (FP.dsub FP.dconst0 (FP.dmul c0 v0)) (FP.dmul c1 v1))), .second, .val (.int (2 : Int32))] []))
  refine own_go (fun _ q => XS.goto X6.here hx rfl (pc0 := 31) (pc' := 4) rfl (hb hby d11_31) (by decide) (by decide) q) ?_
  show own_Go _ _ _ _ _ _ _ (T6.setTop (mkF m 4 #[.val (.ref o), .val (.double (FP.dsub (FP.dsub FP.dconst0 (FP.dmul c0 v0)) (FP.dmul c1 v1))), .second, .val (.int (2 : Int32))] []))
  refine own_go (fun _ q => XS.iloadN X6.here hx rfl (hb hby d11_4) rfl q) ?_
  show own_Go _ _ _ _ _ _ _ (T6.setTop (mkF m 5 #[.val (.ref o), .val (.double (FP.dsub (FP.dsub FP.dconst0 (FP.dmul c0 v0)) (FP.dmul c1 v1))), .second, .val (.int (2 : Int32))] [(.int (2 : Int32))]))
  refine own_go (fun _ q => XS.aloadN X6.here hx rfl (hb hby d11_5) rfl rfl q) ?_
  show own_Go _ _ _ _ _ _ _ (T6.setTop (mkF m 6 #[.val (.ref o), .val (.double (FP.dsub (FP.dsub FP.dconst0 (FP.dmul c0 v0)) (FP.dmul c1 v1))), .second, .val (.int (2 : Int32))] [(.ref o), (.int (2 : Int32))]))
  obtain ⟨T7, X7, e7, st7⟩ := getF X6 hx hZ hown (host := "") (Or.inl (hw _ (List.mem_of_getElem? (i := 48) rfl))) Via.refl e6 Fc_ (g := (mkF m 6 #[.val (.ref o), .val (.double (FP.dsub (FP.dsub FP.dconst0 (FP.dmul c0 v0)) (FP.dmul c1 v1))), .second, .val (.int (2 : Int32))] [(.ref o), (.int (2 : Int32))])) rfl rfl (hb hby d11_6)
  refine own_go st7 ?_
  show own_Go _ _ _ _ _ _ _ (T7.setTop (mkF m 9 #[.val (.ref o), .val (.double (FP.dsub (FP.dsub FP.dconst0 (FP.dmul c0 v0)) (FP.dmul c1 v1))), .second, .val (.int (2 : Int32))] [(.int (2 : Int32)), (.int (2 : Int32))]))
  refine own_go (fun _ q => XS.icmpYes X7.here hx rfl (pc0 := 9) (pc' := 34) rfl (hb hby d11_9) rfl (flt (by decide : ¬ ((2 : Int32) < (2 : Int32)))).2.1 (by decide) (by decide) q) ?_
  show own_Go _ _ _ _ _ _ _ (T7.setTop (mkF m 34 #[.val (.ref o), .val (.double (FP.dsub (FP.dsub FP.dconst0 (FP.dmul c0 v0)) (FP.dmul c1 v1))), .second, .val (.int (2 : Int32))] []))
  refine own_go (fun _ q => XT.dloadN X7.here hx rfl (hb hby d11_34) rfl q) ?_
  show own_Go _ _ _ _ _ _ _ (T7.setTop (mkF m 35 #[.val (.ref o), .val (.double (FP.dsub (FP.dsub FP.dconst0 (FP.dmul c0 v0)) (FP.dmul c1 v1))), .second, .val (.int (2 : Int32))] [(.double (FP.dsub (FP.dsub FP.dconst0 (FP.dmul c0 v0)) (FP.dmul c1 v1)))]))
  exact own_retD X7 hx hlk hret (hb hby d11_35) (by decide) (by decide) ⟨rfl, N0, e7⟩
theorem d10_0 : decode method_3_code 0 = .ok (.iload_n 0, 1) := by decide +kernel
theorem d10_1 : decode method_3_code 1 = .ok (.i2d, 1) := by decide +kernel
theorem d10_2 : decode method_3_code 2 = .ok (.dload_n 1, 1) := by decide +kernel
theorem d10_3 : decode method_3_code 3 = .ok (.dmul, 1) := by decide +kernel
theorem d10_4 : decode method_3_code 4 = .ok (.dstore 5, 2) := by decide +kernel
theorem d10_6 : decode method_3_code 6 = .ok (.iload_n 0, 1) := by decide +kernel
theorem d10_7 : decode method_3_code 7 = .ok (.i2d, 1) := by decide +kernel
theorem d10_8 : decode method_3_code 8 = .ok (.dload_n 3, 1) := by decide +kernel
theorem d10_9 : decode method_3_code 9 = .ok (.dmul, 1) := by decide +kernel
theorem d10_10 : decode method_3_code 10 = .ok (.dstore 7, 2) := by decide +kernel
theorem d10_12 : decode method_3_code 12 = .ok (.dload 5, 2) := by decide +kernel
theorem d10_14 : decode method_3_code 14 = .ok (.dload 7, 2) := by decide +kernel
theorem d10_16 : decode method_3_code 16 = .ok (.dcmp .g, 1) := by decide +kernel
theorem d10_17 : decode method_3_code 17 = .ok (.ifCond .ge 6, 3) := by decide +kernel
theorem d10_20 : decode method_3_code 20 = .ok (.dload 7, 2) := by decide +kernel
theorem d10_22 : decode method_3_code 22 = .ok (.dreturn, 1) := by decide +kernel
theorem d10_23 : decode method_3_code 23 = .ok (.dload 5, 2) := by decide +kernel
theorem d10_25 : decode method_3_code 25 = .ok (.dreturn, 1) := by decide +kernel
def Q10 (Z : State) (o : Int32) (lo : UInt64) (up : UInt64) (od : Ordering) (h0 : Heap) (n0 : Nat) (v : Option Value) (h : Heap) (L : List Loc) : Prop := ∃ r : UInt64, v = some (.double r) ∧ Fr n0 L ∧ h = h0 ∧ ((od = .lt ∧ r = FP.dmul (FP.i2d o) up) ∨ (od ≠ .lt ∧ r = FP.dmul (FP.i2d o) lo))
theorem ef_10 (m : MethodId) (x0 : Int32) (x1 : UInt64) (x2 : UInt64) : entryFrame m #[(.int x0), (.double x1), (.double x2)] 9 = mkF m 0 #[.val (.int x0), .val (.double x1), .second, .val (.double x2), .second, .unset, .unset, .unset, .unset] [] := by first | (simp [entryFrame, mkF, argsToLocals, Value.category]; done) | rfl
set_option maxRecDepth 65536 in
set_option maxHeartbeats 40000000 in
theorem rm10 (l : Launch) (Z : State) (a0 : Array Value) (hw : ∀ d ∈ tables_1, d.before a0 Z = true) (ws : List Jvm.Cond) (o : Int32) (lo : UInt64) (up : UInt64) (od : Ordering) (h0 : Heap) (n0 : Nat) (Z0 : n0 ≤ h0.size) (n1 : FP.Core.val64 (FP.dmul (FP.i2d o) lo) ≠ .nan) (n2 : FP.Core.val64 (FP.dmul (FP.i2d o) up) ≠ .nan) (hod : FP.dcmp (FP.dmul (FP.i2d o) lo) (FP.dmul (FP.i2d o) up) = some od) :
    own_Met l Z (⟨"com/example/slotwright/slotwright/BoundedSimplexObjectivePinLaw", "best", "(IDD)D"⟩ : MethodName) method_3_code 9 (some .double) ({ frames := 0, cells := 0, slots := 0, locals := 0 } : Room) ws #[(.int o), (.double lo), (.double up)] h0 (Q10 Z o lo up od h0 n0) := by
  refine own_enter (plainFor_of_name (by first | (simp [plainName, overriddenIn]; done) | decide +kernel)) ?_
  intro p e s m below meth c s₁ hx hby hml hown hnm hlk hret hZ X0 e0
  have N0 := Fr.nil n0
  refine own_go (fun _ q => castTop (ef_10 m o lo up) q) ?_
  show own_Go _ _ _ _ _ _ _ (s₁.setTop (mkF m 0 #[.val (.int o), .val (.double lo), .second, .val (.double up), .second, .unset, .unset, .unset, .unset] []))
  refine own_go (fun _ q => XS.iloadN X0.here hx rfl (hb hby d10_0) rfl q) ?_
  show own_Go _ _ _ _ _ _ _ (s₁.setTop (mkF m 1 #[.val (.int o), .val (.double lo), .second, .val (.double up), .second, .unset, .unset, .unset, .unset] [(.int o)]))
  refine own_go (own_i2d X0 hx (g := (mkF m 1 #[.val (.int o), .val (.double lo), .second, .val (.double up), .second, .unset, .unset, .unset, .unset] [(.int o)])) rfl (hb hby d10_1) rfl) ?_
  show own_Go _ _ _ _ _ _ _ (s₁.setTop (mkF m 2 #[.val (.int o), .val (.double lo), .second, .val (.double up), .second, .unset, .unset, .unset, .unset] [(.double (FP.i2d o))]))
  refine own_go (fun _ q => XT.dloadN X0.here hx rfl (hb hby d10_2) rfl q) ?_
  show own_Go _ _ _ _ _ _ _ (s₁.setTop (mkF m 3 #[.val (.int o), .val (.double lo), .second, .val (.double up), .second, .unset, .unset, .unset, .unset] [(.double lo), (.double (FP.i2d o))]))
  refine own_go (own_dmul X0 hx (g := (mkF m 3 #[.val (.int o), .val (.double lo), .second, .val (.double up), .second, .unset, .unset, .unset, .unset] [(.double lo), (.double (FP.i2d o))])) rfl (hb hby d10_3) rfl (own_num n1)) ?_
  show own_Go _ _ _ _ _ _ _ (s₁.setTop (mkF m 4 #[.val (.int o), .val (.double lo), .second, .val (.double up), .second, .unset, .unset, .unset, .unset] [(.double (FP.dmul (FP.i2d o) lo))]))
  refine own_go (own_dstore X0 hx (g := (mkF m 4 #[.val (.int o), .val (.double lo), .second, .val (.double up), .second, .unset, .unset, .unset, .unset] [(.double (FP.dmul (FP.i2d o) lo))])) rfl (hb hby d10_4) rfl (l' := #[.val (.int o), .val (.double lo), .second, .val (.double up), .second, .val (.double (FP.dmul (FP.i2d o) lo)), .second, .unset, .unset]) rfl) ?_
  show own_Go _ _ _ _ _ _ _ (s₁.setTop (mkF m 6 #[.val (.int o), .val (.double lo), .second, .val (.double up), .second, .val (.double (FP.dmul (FP.i2d o) lo)), .second, .unset, .unset] []))
  refine own_go (fun _ q => XS.iloadN X0.here hx rfl (hb hby d10_6) rfl q) ?_
  show own_Go _ _ _ _ _ _ _ (s₁.setTop (mkF m 7 #[.val (.int o), .val (.double lo), .second, .val (.double up), .second, .val (.double (FP.dmul (FP.i2d o) lo)), .second, .unset, .unset] [(.int o)]))
  refine own_go (own_i2d X0 hx (g := (mkF m 7 #[.val (.int o), .val (.double lo), .second, .val (.double up), .second, .val (.double (FP.dmul (FP.i2d o) lo)), .second, .unset, .unset] [(.int o)])) rfl (hb hby d10_7) rfl) ?_
  show own_Go _ _ _ _ _ _ _ (s₁.setTop (mkF m 8 #[.val (.int o), .val (.double lo), .second, .val (.double up), .second, .val (.double (FP.dmul (FP.i2d o) lo)), .second, .unset, .unset] [(.double (FP.i2d o))]))
  refine own_go (fun _ q => XT.dloadN X0.here hx rfl (hb hby d10_8) rfl q) ?_
  show own_Go _ _ _ _ _ _ _ (s₁.setTop (mkF m 9 #[.val (.int o), .val (.double lo), .second, .val (.double up), .second, .val (.double (FP.dmul (FP.i2d o) lo)), .second, .unset, .unset] [(.double up), (.double (FP.i2d o))]))
  refine own_go (own_dmul X0 hx (g := (mkF m 9 #[.val (.int o), .val (.double lo), .second, .val (.double up), .second, .val (.double (FP.dmul (FP.i2d o) lo)), .second, .unset, .unset] [(.double up), (.double (FP.i2d o))])) rfl (hb hby d10_9) rfl (own_num n2)) ?_
  show own_Go _ _ _ _ _ _ _ (s₁.setTop (mkF m 10 #[.val (.int o), .val (.double lo), .second, .val (.double up), .second, .val (.double (FP.dmul (FP.i2d o) lo)), .second, .unset, .unset] [(.double (FP.dmul (FP.i2d o) up))]))
  refine own_go (own_dstore X0 hx (g := (mkF m 10 #[.val (.int o), .val (.double lo), .second, .val (.double up), .second, .val (.double (FP.dmul (FP.i2d o) lo)), .second, .unset, .unset] [(.double (FP.dmul (FP.i2d o) up))])) rfl (hb hby d10_10) rfl (l' := #[.val (.int o), .val (.double lo), .second, .val (.double up), .second, .val (.double (FP.dmul (FP.i2d o) lo)), .second, .val (.double (FP.dmul (FP.i2d o) up)), .second]) rfl) ?_
  show own_Go _ _ _ _ _ _ _ (s₁.setTop (mkF m 12 #[.val (.int o), .val (.double lo), .second, .val (.double up), .second, .val (.double (FP.dmul (FP.i2d o) lo)), .second, .val (.double (FP.dmul (FP.i2d o) up)), .second] []))
  refine own_go (fun _ q => XT.dload X0.here hx rfl (hb hby d10_12) rfl q) ?_
  show own_Go _ _ _ _ _ _ _ (s₁.setTop (mkF m 14 #[.val (.int o), .val (.double lo), .second, .val (.double up), .second, .val (.double (FP.dmul (FP.i2d o) lo)), .second, .val (.double (FP.dmul (FP.i2d o) up)), .second] [(.double (FP.dmul (FP.i2d o) lo))]))
  refine own_go (fun _ q => XT.dload X0.here hx rfl (hb hby d10_14) rfl q) ?_
  show own_Go _ _ _ _ _ _ _ (s₁.setTop (mkF m 16 #[.val (.int o), .val (.double lo), .second, .val (.double up), .second, .val (.double (FP.dmul (FP.i2d o) lo)), .second, .val (.double (FP.dmul (FP.i2d o) up)), .second] [(.double (FP.dmul (FP.i2d o) up)), (.double (FP.dmul (FP.i2d o) lo))]))
  refine own_go (own_dcmp X0 hx (g := (mkF m 16 #[.val (.int o), .val (.double lo), .second, .val (.double up), .second, .val (.double (FP.dmul (FP.i2d o) lo)), .second, .val (.double (FP.dmul (FP.i2d o) up)), .second] [(.double (FP.dmul (FP.i2d o) up)), (.double (FP.dmul (FP.i2d o) lo))])) rfl (o := od) hod (hb hby d10_16) rfl) ?_
  show own_Go _ _ _ _ _ _ _ (s₁.setTop (mkF m 17 #[.val (.int o), .val (.double lo), .second, .val (.double up), .second, .val (.double (FP.dmul (FP.i2d o) lo)), .second, .val (.double (FP.dmul (FP.i2d o) up)), .second] [(.int (own_oi od))]))
  by_cases hq : od = .lt
  · refine own_go (fun _ q => XS.ifNo X0.here hx rfl (hb hby d10_17) rfl ((if0 _ _).trans (tlt (own_oi_lt hq)).2.1) q) ?_
    show own_Go _ _ _ _ _ _ _ (s₁.setTop (mkF m 20 #[.val (.int o), .val (.double lo), .second, .val (.double up), .second, .val (.double (FP.dmul (FP.i2d o) lo)), .second, .val (.double (FP.dmul (FP.i2d o) up)), .second] []))
    refine own_go (fun _ q => XT.dload X0.here hx rfl (hb hby d10_20) rfl q) ?_
    show own_Go _ _ _ _ _ _ _ (s₁.setTop (mkF m 22 #[.val (.int o), .val (.double lo), .second, .val (.double up), .second, .val (.double (FP.dmul (FP.i2d o) lo)), .second, .val (.double (FP.dmul (FP.i2d o) up)), .second] [(.double (FP.dmul (FP.i2d o) up))]))
    exact own_retD X0 hx hlk hret (hb hby d10_22) (by decide) (by decide) ⟨_, rfl, N0, e0, Or.inl ⟨hq, rfl⟩⟩
  · refine own_go (fun _ q => XS.ifYes X0.here hx rfl (pc0 := 17) (pc' := 23) rfl (hb hby d10_17) rfl ((if0 _ _).trans (flt (own_oi_nlt hq)).2.1) (by decide) (by decide) q) ?_
    show own_Go _ _ _ _ _ _ _ (s₁.setTop (mkF m 23 #[.val (.int o), .val (.double lo), .second, .val (.double up), .second, .val (.double (FP.dmul (FP.i2d o) lo)), .second, .val (.double (FP.dmul (FP.i2d o) up)), .second] []))
    refine own_go (fun _ q => XT.dload X0.here hx rfl (hb hby d10_23) rfl q) ?_
    show own_Go _ _ _ _ _ _ _ (s₁.setTop (mkF m 25 #[.val (.int o), .val (.double lo), .second, .val (.double up), .second, .val (.double (FP.dmul (FP.i2d o) lo)), .second, .val (.double (FP.dmul (FP.i2d o) up)), .second] [(.double (FP.dmul (FP.i2d o) lo))]))
    exact own_retD X0 hx hlk hret (hb hby d10_25) (by decide) (by decide) ⟨_, rfl, N0, e0, Or.inr ⟨hq, rfl⟩⟩
def Q0 (Z : State) (p0 : Int32) (p1 : Int32) (p2 : Int32) (p3 : Int32) (p4 : Int32) (p5 : Int32) (h0 : Heap) (n0 : Nat) (v : Option Value) (h : Heap) (L : List Loc) : Prop := v = some (.int 1) ∧ Fr n0 L
theorem ef_0 (m : MethodId) (x0 : Int32) (x1 : Int32) (x2 : Int32) (x3 : Int32) (x4 : Int32) (x5 : Int32) : entryFrame m #[(.int x0), (.int x1), (.int x2), (.int x3), (.int x4), (.int x5)] maxLocals = mkF m 0 #[.val (.int x0), .val (.int x1), .val (.int x2), .val (.int x3), .val (.int x4), .val (.int x5), .unset, .unset, .unset, .unset, .unset, .unset, .unset, .unset, .unset, .unset, .unset, .unset, .unset, .unset] [] := by first | (simp [entryFrame, mkF, argsToLocals, Value.category, maxLocals]; done) | rfl
set_option maxRecDepth 65536 in
set_option maxHeartbeats 40000000 in
theorem rm0 (l : Launch) (Z : State) (a0 : Array Value) (hw : ∀ d ∈ tables_1, d.before a0 Z = true) (ws : List Jvm.Cond) (p0 : Int32) (p1 : Int32) (p2 : Int32) (p3 : Int32) (p4 : Int32) (p5 : Int32) (h0 : Heap) (n0 : Nat) (Z0 : n0 ≤ h0.size)  :
    own_Met l Z x code maxLocals ret room_1 ws #[(.int p0), (.int p1), (.int p2), (.int p3), (.int p4), (.int p5)] h0 (Q0 Z p0 p1 p2 p3 p4 p5 h0 n0) := by
  refine own_enter (plainFor_of_name (by first | (simp [plainName, overriddenIn]; done) | decide +kernel)) ?_
  intro p e s m below meth c s₁ hx hby hml hown hnm hlk hret hZ X0 e0
  have N0 := Fr.nil n0
  refine own_go (fun _ q => castTop (ef_0 m p0 p1 p2 p3 p4 p5) q) ?_
  show own_Go _ _ _ _ _ _ _ (s₁.setTop (mkF m 0 #[.val (.int p0), .val (.int p1), .val (.int p2), .val (.int p3), .val (.int p4), .val (.int p5), .unset, .unset, .unset, .unset, .unset, .unset, .unset, .unset, .unset, .unset, .unset, .unset, .unset, .unset] []))
  obtain ⟨nu0, fl0, fu0, ⟨oo0, hoo0, hgo0⟩, fm0, fn0, oc0, od0, hoc0, hod0, k1_0, k2_0, k3_0⟩ := own_col p0 p1 (p2 &&& (2147483647 : Int32)) (own_w p2).1
  obtain ⟨nu1, fl1, fu1, ⟨oo1, hoo1, hgo1⟩, fm1, fn1, oc1, od1, hoc1, hod1, k1_1, k2_1, k3_1⟩ := own_col p3 p4 (p5 &&& (2147483647 : Int32)) (own_w p5).1
  refine own_go (fun _ q => XS.iloadN X0.here hx rfl (hb hby at_0) rfl q) ?_
  show own_Go _ _ _ _ _ _ _ (s₁.setTop (mkF m 1 #[.val (.int p0), .val (.int p1), .val (.int p2), .val (.int p3), .val (.int p4), .val (.int p5), .unset, .unset, .unset, .unset, .unset, .unset, .unset, .unset, .unset, .unset, .unset, .unset, .unset, .unset] [(.int p1)]))
  refine own_go (own_i2d X0 hx (g := (mkF m 1 #[.val (.int p0), .val (.int p1), .val (.int p2), .val (.int p3), .val (.int p4), .val (.int p5), .unset, .unset, .unset, .unset, .unset, .unset, .unset, .unset, .unset, .unset, .unset, .unset, .unset, .unset] [(.int p1)])) rfl (hb hby at_1) rfl) ?_
  show own_Go _ _ _ _ _ _ _ (s₁.setTop (mkF m 2 #[.val (.int p0), .val (.int p1), .val (.int p2), .val (.int p3), .val (.int p4), .val (.int p5), .unset, .unset, .unset, .unset, .unset, .unset, .unset, .unset, .unset, .unset, .unset, .unset, .unset, .unset] [(.double (FP.i2d p1))]))
  refine own_go (own_dstore X0 hx (g := (mkF m 2 #[.val (.int p0), .val (.int p1), .val (.int p2), .val (.int p3), .val (.int p4), .val (.int p5), .unset, .unset, .unset, .unset, .unset, .unset, .unset, .unset, .unset, .unset, .unset, .unset, .unset, .unset] [(.double (FP.i2d p1))])) rfl (hb hby at_2) rfl (l' := #[.val (.int p0), .val (.int p1), .val (.int p2), .val (.int p3), .val (.int p4), .val (.int p5), .val (.double (FP.i2d p1)), .second, .unset, .unset, .unset, .unset, .unset, .unset, .unset, .unset, .unset, .unset, .unset, .unset]) rfl) ?_
  show own_Go _ _ _ _ _ _ _ (s₁.setTop (mkF m 4 #[.val (.int p0), .val (.int p1), .val (.int p2), .val (.int p3), .val (.int p4), .val (.int p5), .val (.double (FP.i2d p1)), .second, .unset, .unset, .unset, .unset, .unset, .unset, .unset, .unset, .unset, .unset, .unset, .unset] []))
  refine own_go (fun _ q => XS.iloadN X0.here hx rfl (hb hby at_4) rfl q) ?_
  show own_Go _ _ _ _ _ _ _ (s₁.setTop (mkF m 5 #[.val (.int p0), .val (.int p1), .val (.int p2), .val (.int p3), .val (.int p4), .val (.int p5), .val (.double (FP.i2d p1)), .second, .unset, .unset, .unset, .unset, .unset, .unset, .unset, .unset, .unset, .unset, .unset, .unset] [(.int p1)]))
  refine own_go (own_i2d X0 hx (g := (mkF m 5 #[.val (.int p0), .val (.int p1), .val (.int p2), .val (.int p3), .val (.int p4), .val (.int p5), .val (.double (FP.i2d p1)), .second, .unset, .unset, .unset, .unset, .unset, .unset, .unset, .unset, .unset, .unset, .unset, .unset] [(.int p1)])) rfl (hb hby at_5) rfl) ?_
  show own_Go _ _ _ _ _ _ _ (s₁.setTop (mkF m 6 #[.val (.int p0), .val (.int p1), .val (.int p2), .val (.int p3), .val (.int p4), .val (.int p5), .val (.double (FP.i2d p1)), .second, .unset, .unset, .unset, .unset, .unset, .unset, .unset, .unset, .unset, .unset, .unset, .unset] [(.double (FP.i2d p1))]))
  refine own_go (fun _ q => XS.iloadN X0.here hx rfl (hb hby at_6) rfl q) ?_
  show own_Go _ _ _ _ _ _ _ (s₁.setTop (mkF m 7 #[.val (.int p0), .val (.int p1), .val (.int p2), .val (.int p3), .val (.int p4), .val (.int p5), .val (.double (FP.i2d p1)), .second, .unset, .unset, .unset, .unset, .unset, .unset, .unset, .unset, .unset, .unset, .unset, .unset] [(.int p2), (.double (FP.i2d p1))]))
  refine own_go (X0.ldcInt hx hown (mvT hZ (hw _ (List.mem_of_getElem? (i := 0) rfl))) (g := (mkF m 7 #[.val (.int p0), .val (.int p1), .val (.int p2), .val (.int p3), .val (.int p4), .val (.int p5), .val (.double (FP.i2d p1)), .second, .unset, .unset, .unset, .unset, .unset, .unset, .unset, .unset, .unset, .unset, .unset, .unset] [(.int p2), (.double (FP.i2d p1))])) rfl (hb hby at_7)) ?_
  show own_Go _ _ _ _ _ _ _ (s₁.setTop (mkF m 9 #[.val (.int p0), .val (.int p1), .val (.int p2), .val (.int p3), .val (.int p4), .val (.int p5), .val (.double (FP.i2d p1)), .second, .unset, .unset, .unset, .unset, .unset, .unset, .unset, .unset, .unset, .unset, .unset, .unset] [(.int (2147483647 : Int32)), (.int p2), (.double (FP.i2d p1))]))
  refine own_go (fun _ q => XS.iand X0.here hx rfl (hb hby at_9) rfl q) ?_
  show own_Go _ _ _ _ _ _ _ (s₁.setTop (mkF m 10 #[.val (.int p0), .val (.int p1), .val (.int p2), .val (.int p3), .val (.int p4), .val (.int p5), .val (.double (FP.i2d p1)), .second, .unset, .unset, .unset, .unset, .unset, .unset, .unset, .unset, .unset, .unset, .unset, .unset] [(.int (p2 &&& (2147483647 : Int32))), (.double (FP.i2d p1))]))
  refine own_go (own_i2d X0 hx (g := (mkF m 10 #[.val (.int p0), .val (.int p1), .val (.int p2), .val (.int p3), .val (.int p4), .val (.int p5), .val (.double (FP.i2d p1)), .second, .unset, .unset, .unset, .unset, .unset, .unset, .unset, .unset, .unset, .unset, .unset, .unset] [(.int (p2 &&& (2147483647 : Int32))), (.double (FP.i2d p1))])) rfl (hb hby at_10) rfl) ?_
  show own_Go _ _ _ _ _ _ _ (s₁.setTop (mkF m 11 #[.val (.int p0), .val (.int p1), .val (.int p2), .val (.int p3), .val (.int p4), .val (.int p5), .val (.double (FP.i2d p1)), .second, .unset, .unset, .unset, .unset, .unset, .unset, .unset, .unset, .unset, .unset, .unset, .unset] [(.double (FP.i2d (p2 &&& (2147483647 : Int32)))), (.double (FP.i2d p1))]))
  refine own_go (own_dadd X0 hx (g := (mkF m 11 #[.val (.int p0), .val (.int p1), .val (.int p2), .val (.int p3), .val (.int p4), .val (.int p5), .val (.double (FP.i2d p1)), .second, .unset, .unset, .unset, .unset, .unset, .unset, .unset, .unset, .unset, .unset, .unset, .unset] [(.double (FP.i2d (p2 &&& (2147483647 : Int32)))), (.double (FP.i2d p1))])) rfl (hb hby at_11) rfl (own_num nu0)) ?_
  show own_Go _ _ _ _ _ _ _ (s₁.setTop (mkF m 12 #[.val (.int p0), .val (.int p1), .val (.int p2), .val (.int p3), .val (.int p4), .val (.int p5), .val (.double (FP.i2d p1)), .second, .unset, .unset, .unset, .unset, .unset, .unset, .unset, .unset, .unset, .unset, .unset, .unset] [(.double (FP.dadd (FP.i2d p1) (FP.i2d (p2 &&& (2147483647 : Int32)))))]))
  obtain ⟨up0, h_up0⟩ : ∃ z, z = (FP.dadd (FP.i2d p1) (FP.i2d (p2 &&& (2147483647 : Int32)))) := ⟨_, rfl⟩
  rw [← h_up0] at nu0 fu0 hoo0 fn0 hod0 k1_0 k2_0 ⊢
  show own_Go _ _ _ _ _ _ _ (s₁.setTop (mkF m 12 #[.val (.int p0), .val (.int p1), .val (.int p2), .val (.int p3), .val (.int p4), .val (.int p5), .val (.double (FP.i2d p1)), .second, .unset, .unset, .unset, .unset, .unset, .unset, .unset, .unset, .unset, .unset, .unset, .unset] [(.double up0)]))
  refine own_go (own_dstore X0 hx (g := (mkF m 12 #[.val (.int p0), .val (.int p1), .val (.int p2), .val (.int p3), .val (.int p4), .val (.int p5), .val (.double (FP.i2d p1)), .second, .unset, .unset, .unset, .unset, .unset, .unset, .unset, .unset, .unset, .unset, .unset, .unset] [(.double up0)])) rfl (hb hby at_12) rfl (l' := #[.val (.int p0), .val (.int p1), .val (.int p2), .val (.int p3), .val (.int p4), .val (.int p5), .val (.double (FP.i2d p1)), .second, .val (.double up0), .second, .unset, .unset, .unset, .unset, .unset, .unset, .unset, .unset, .unset, .unset]) rfl) ?_
  show own_Go _ _ _ _ _ _ _ (s₁.setTop (mkF m 14 #[.val (.int p0), .val (.int p1), .val (.int p2), .val (.int p3), .val (.int p4), .val (.int p5), .val (.double (FP.i2d p1)), .second, .val (.double up0), .second, .unset, .unset, .unset, .unset, .unset, .unset, .unset, .unset, .unset, .unset] []))
  refine own_go (fun _ q => XS.iload X0.here hx rfl (hb hby at_14) rfl q) ?_
  show own_Go _ _ _ _ _ _ _ (s₁.setTop (mkF m 16 #[.val (.int p0), .val (.int p1), .val (.int p2), .val (.int p3), .val (.int p4), .val (.int p5), .val (.double (FP.i2d p1)), .second, .val (.double up0), .second, .unset, .unset, .unset, .unset, .unset, .unset, .unset, .unset, .unset, .unset] [(.int p4)]))
  refine own_go (own_i2d X0 hx (g := (mkF m 16 #[.val (.int p0), .val (.int p1), .val (.int p2), .val (.int p3), .val (.int p4), .val (.int p5), .val (.double (FP.i2d p1)), .second, .val (.double up0), .second, .unset, .unset, .unset, .unset, .unset, .unset, .unset, .unset, .unset, .unset] [(.int p4)])) rfl (hb hby at_16) rfl) ?_
  show own_Go _ _ _ _ _ _ _ (s₁.setTop (mkF m 17 #[.val (.int p0), .val (.int p1), .val (.int p2), .val (.int p3), .val (.int p4), .val (.int p5), .val (.double (FP.i2d p1)), .second, .val (.double up0), .second, .unset, .unset, .unset, .unset, .unset, .unset, .unset, .unset, .unset, .unset] [(.double (FP.i2d p4))]))
  refine own_go (own_dstore X0 hx (g := (mkF m 17 #[.val (.int p0), .val (.int p1), .val (.int p2), .val (.int p3), .val (.int p4), .val (.int p5), .val (.double (FP.i2d p1)), .second, .val (.double up0), .second, .unset, .unset, .unset, .unset, .unset, .unset, .unset, .unset, .unset, .unset] [(.double (FP.i2d p4))])) rfl (hb hby at_17) rfl (l' := #[.val (.int p0), .val (.int p1), .val (.int p2), .val (.int p3), .val (.int p4), .val (.int p5), .val (.double (FP.i2d p1)), .second, .val (.double up0), .second, .val (.double (FP.i2d p4)), .second, .unset, .unset, .unset, .unset, .unset, .unset, .unset, .unset]) rfl) ?_
  show own_Go _ _ _ _ _ _ _ (s₁.setTop (mkF m 19 #[.val (.int p0), .val (.int p1), .val (.int p2), .val (.int p3), .val (.int p4), .val (.int p5), .val (.double (FP.i2d p1)), .second, .val (.double up0), .second, .val (.double (FP.i2d p4)), .second, .unset, .unset, .unset, .unset, .unset, .unset, .unset, .unset] []))
  refine own_go (fun _ q => XS.iload X0.here hx rfl (hb hby at_19) rfl q) ?_
  show own_Go _ _ _ _ _ _ _ (s₁.setTop (mkF m 21 #[.val (.int p0), .val (.int p1), .val (.int p2), .val (.int p3), .val (.int p4), .val (.int p5), .val (.double (FP.i2d p1)), .second, .val (.double up0), .second, .val (.double (FP.i2d p4)), .second, .unset, .unset, .unset, .unset, .unset, .unset, .unset, .unset] [(.int p4)]))
  refine own_go (own_i2d X0 hx (g := (mkF m 21 #[.val (.int p0), .val (.int p1), .val (.int p2), .val (.int p3), .val (.int p4), .val (.int p5), .val (.double (FP.i2d p1)), .second, .val (.double up0), .second, .val (.double (FP.i2d p4)), .second, .unset, .unset, .unset, .unset, .unset, .unset, .unset, .unset] [(.int p4)])) rfl (hb hby at_21) rfl) ?_
  show own_Go _ _ _ _ _ _ _ (s₁.setTop (mkF m 22 #[.val (.int p0), .val (.int p1), .val (.int p2), .val (.int p3), .val (.int p4), .val (.int p5), .val (.double (FP.i2d p1)), .second, .val (.double up0), .second, .val (.double (FP.i2d p4)), .second, .unset, .unset, .unset, .unset, .unset, .unset, .unset, .unset] [(.double (FP.i2d p4))]))
  refine own_go (fun _ q => XS.iload X0.here hx rfl (hb hby at_22) rfl q) ?_
  show own_Go _ _ _ _ _ _ _ (s₁.setTop (mkF m 24 #[.val (.int p0), .val (.int p1), .val (.int p2), .val (.int p3), .val (.int p4), .val (.int p5), .val (.double (FP.i2d p1)), .second, .val (.double up0), .second, .val (.double (FP.i2d p4)), .second, .unset, .unset, .unset, .unset, .unset, .unset, .unset, .unset] [(.int p5), (.double (FP.i2d p4))]))
  refine own_go (X0.ldcInt hx hown (mvT hZ (hw _ (List.mem_of_getElem? (i := 0) rfl))) (g := (mkF m 24 #[.val (.int p0), .val (.int p1), .val (.int p2), .val (.int p3), .val (.int p4), .val (.int p5), .val (.double (FP.i2d p1)), .second, .val (.double up0), .second, .val (.double (FP.i2d p4)), .second, .unset, .unset, .unset, .unset, .unset, .unset, .unset, .unset] [(.int p5), (.double (FP.i2d p4))])) rfl (hb hby at_24)) ?_
  show own_Go _ _ _ _ _ _ _ (s₁.setTop (mkF m 26 #[.val (.int p0), .val (.int p1), .val (.int p2), .val (.int p3), .val (.int p4), .val (.int p5), .val (.double (FP.i2d p1)), .second, .val (.double up0), .second, .val (.double (FP.i2d p4)), .second, .unset, .unset, .unset, .unset, .unset, .unset, .unset, .unset] [(.int (2147483647 : Int32)), (.int p5), (.double (FP.i2d p4))]))
  refine own_go (fun _ q => XS.iand X0.here hx rfl (hb hby at_26) rfl q) ?_
  show own_Go _ _ _ _ _ _ _ (s₁.setTop (mkF m 27 #[.val (.int p0), .val (.int p1), .val (.int p2), .val (.int p3), .val (.int p4), .val (.int p5), .val (.double (FP.i2d p1)), .second, .val (.double up0), .second, .val (.double (FP.i2d p4)), .second, .unset, .unset, .unset, .unset, .unset, .unset, .unset, .unset] [(.int (p5 &&& (2147483647 : Int32))), (.double (FP.i2d p4))]))
  refine own_go (own_i2d X0 hx (g := (mkF m 27 #[.val (.int p0), .val (.int p1), .val (.int p2), .val (.int p3), .val (.int p4), .val (.int p5), .val (.double (FP.i2d p1)), .second, .val (.double up0), .second, .val (.double (FP.i2d p4)), .second, .unset, .unset, .unset, .unset, .unset, .unset, .unset, .unset] [(.int (p5 &&& (2147483647 : Int32))), (.double (FP.i2d p4))])) rfl (hb hby at_27) rfl) ?_
  show own_Go _ _ _ _ _ _ _ (s₁.setTop (mkF m 28 #[.val (.int p0), .val (.int p1), .val (.int p2), .val (.int p3), .val (.int p4), .val (.int p5), .val (.double (FP.i2d p1)), .second, .val (.double up0), .second, .val (.double (FP.i2d p4)), .second, .unset, .unset, .unset, .unset, .unset, .unset, .unset, .unset] [(.double (FP.i2d (p5 &&& (2147483647 : Int32)))), (.double (FP.i2d p4))]))
  refine own_go (own_dadd X0 hx (g := (mkF m 28 #[.val (.int p0), .val (.int p1), .val (.int p2), .val (.int p3), .val (.int p4), .val (.int p5), .val (.double (FP.i2d p1)), .second, .val (.double up0), .second, .val (.double (FP.i2d p4)), .second, .unset, .unset, .unset, .unset, .unset, .unset, .unset, .unset] [(.double (FP.i2d (p5 &&& (2147483647 : Int32)))), (.double (FP.i2d p4))])) rfl (hb hby at_28) rfl (own_num nu1)) ?_
  show own_Go _ _ _ _ _ _ _ (s₁.setTop (mkF m 29 #[.val (.int p0), .val (.int p1), .val (.int p2), .val (.int p3), .val (.int p4), .val (.int p5), .val (.double (FP.i2d p1)), .second, .val (.double up0), .second, .val (.double (FP.i2d p4)), .second, .unset, .unset, .unset, .unset, .unset, .unset, .unset, .unset] [(.double (FP.dadd (FP.i2d p4) (FP.i2d (p5 &&& (2147483647 : Int32)))))]))
  obtain ⟨up1, h_up1⟩ : ∃ z, z = (FP.dadd (FP.i2d p4) (FP.i2d (p5 &&& (2147483647 : Int32)))) := ⟨_, rfl⟩
  rw [← h_up1] at nu1 fu1 hoo1 fn1 hod1 k1_1 k2_1 ⊢
  show own_Go _ _ _ _ _ _ _ (s₁.setTop (mkF m 29 #[.val (.int p0), .val (.int p1), .val (.int p2), .val (.int p3), .val (.int p4), .val (.int p5), .val (.double (FP.i2d p1)), .second, .val (.double up0), .second, .val (.double (FP.i2d p4)), .second, .unset, .unset, .unset, .unset, .unset, .unset, .unset, .unset] [(.double up1)]))
  refine own_go (own_dstore X0 hx (g := (mkF m 29 #[.val (.int p0), .val (.int p1), .val (.int p2), .val (.int p3), .val (.int p4), .val (.int p5), .val (.double (FP.i2d p1)), .second, .val (.double up0), .second, .val (.double (FP.i2d p4)), .second, .unset, .unset, .unset, .unset, .unset, .unset, .unset, .unset] [(.double up1)])) rfl (hb hby at_29) rfl (l' := #[.val (.int p0), .val (.int p1), .val (.int p2), .val (.int p3), .val (.int p4), .val (.int p5), .val (.double (FP.i2d p1)), .second, .val (.double up0), .second, .val (.double (FP.i2d p4)), .second, .val (.double up1), .second, .unset, .unset, .unset, .unset, .unset, .unset]) rfl) ?_
  show own_Go _ _ _ _ _ _ _ (s₁.setTop (mkF m 31 #[.val (.int p0), .val (.int p1), .val (.int p2), .val (.int p3), .val (.int p4), .val (.int p5), .val (.double (FP.i2d p1)), .second, .val (.double up0), .second, .val (.double (FP.i2d p4)), .second, .val (.double up1), .second, .unset, .unset, .unset, .unset, .unset, .unset] []))
  refine own_go (fun _ q => XS.iconst X0.here hx rfl (hb hby at_31) q) ?_
  show own_Go _ _ _ _ _ _ _ (s₁.setTop (mkF m 32 #[.val (.int p0), .val (.int p1), .val (.int p2), .val (.int p3), .val (.int p4), .val (.int p5), .val (.double (FP.i2d p1)), .second, .val (.double up0), .second, .val (.double (FP.i2d p4)), .second, .val (.double up1), .second, .unset, .unset, .unset, .unset, .unset, .unset] [(.int (2 : Int32))]))
  obtain ⟨T1, h1, k1, X1, e1, E1, Aw1, st1⟩ := newP X0 hx hZ (hw _ (List.mem_of_getElem? (i := 1) rfl)) e0 (g := (mkF m 32 #[.val (.int p0), .val (.int p1), .val (.int p2), .val (.int p3), .val (.int p4), .val (.int p5), .val (.double (FP.i2d p1)), .second, .val (.double up0), .second, .val (.double (FP.i2d p4)), .second, .val (.double up1), .second, .unset, .unset, .unset, .unset, .unset, .unset] [(.int (2 : Int32))])) rfl (hb hby at_32) rfl (by decide) (cap := 2) (by decide) (by decide) (by decide) (by decide)
  obtain ⟨b1, g1⟩ : ∃ z, z = h0.size := ⟨_, rfl⟩
  rw [← g1] at Aw1 st1
  have A1 := own_Ar.new (nn := 2) Aw1 (by decide) rfl
  have G1 : n0 ≤ b1 := Nat.le_trans Z0 (Nat.le_of_eq g1.symm)
  have Z1 : n0 ≤ h1.size := Nat.le_trans Z0 E1.1
  refine own_go st1 ?_
  show own_Go _ _ _ _ _ _ _ (T1.setTop (mkF m 34 #[.val (.int p0), .val (.int p1), .val (.int p2), .val (.int p3), .val (.int p4), .val (.int p5), .val (.double (FP.i2d p1)), .second, .val (.double up0), .second, .val (.double (FP.i2d p4)), .second, .val (.double up1), .second, .unset, .unset, .unset, .unset, .unset, .unset] [(.ref b1)]))
  refine own_go (fun _ q => XS.dup X1.here hx rfl (hb hby at_34) rfl rfl q) ?_
  show own_Go _ _ _ _ _ _ _ (T1.setTop (mkF m 35 #[.val (.int p0), .val (.int p1), .val (.int p2), .val (.int p3), .val (.int p4), .val (.int p5), .val (.double (FP.i2d p1)), .second, .val (.double up0), .second, .val (.double (FP.i2d p4)), .second, .val (.double up1), .second, .unset, .unset, .unset, .unset, .unset, .unset] [(.ref b1), (.ref b1)]))
  refine own_go (fun _ q => XS.iconst X1.here hx rfl (hb hby at_35) q) ?_
  show own_Go _ _ _ _ _ _ _ (T1.setTop (mkF m 36 #[.val (.int p0), .val (.int p1), .val (.int p2), .val (.int p3), .val (.int p4), .val (.int p5), .val (.double (FP.i2d p1)), .second, .val (.double up0), .second, .val (.double (FP.i2d p4)), .second, .val (.double up1), .second, .unset, .unset, .unset, .unset, .unset, .unset] [(.int (0 : Int32)), (.ref b1), (.ref b1)]))
  refine own_go (fun _ q => XS.iloadN X1.here hx rfl (hb hby at_36) rfl q) ?_
  show own_Go _ _ _ _ _ _ _ (T1.setTop (mkF m 37 #[.val (.int p0), .val (.int p1), .val (.int p2), .val (.int p3), .val (.int p4), .val (.int p5), .val (.double (FP.i2d p1)), .second, .val (.double up0), .second, .val (.double (FP.i2d p4)), .second, .val (.double up1), .second, .unset, .unset, .unset, .unset, .unset, .unset] [(.int p0), (.int (0 : Int32)), (.ref b1), (.ref b1)]))
  refine own_go (own_i2d X1 hx (g := (mkF m 37 #[.val (.int p0), .val (.int p1), .val (.int p2), .val (.int p3), .val (.int p4), .val (.int p5), .val (.double (FP.i2d p1)), .second, .val (.double up0), .second, .val (.double (FP.i2d p4)), .second, .val (.double up1), .second, .unset, .unset, .unset, .unset, .unset, .unset] [(.int p0), (.int (0 : Int32)), (.ref b1), (.ref b1)])) rfl (hb hby at_37) rfl) ?_
  show own_Go _ _ _ _ _ _ _ (T1.setTop (mkF m 38 #[.val (.int p0), .val (.int p1), .val (.int p2), .val (.int p3), .val (.int p4), .val (.int p5), .val (.double (FP.i2d p1)), .second, .val (.double up0), .second, .val (.double (FP.i2d p4)), .second, .val (.double up1), .second, .unset, .unset, .unset, .unset, .unset, .unset] [(.double (FP.i2d p0)), (.int (0 : Int32)), (.ref b1), (.ref b1)]))
  refine own_dastore X1 hx hZ e1 (i := 0) A1 rfl (by decide) (hb hby at_38) rfl ?_
  intro T2 h2 X2 e2 W2 A2
  have N2 := Fr.snoc X2 N0 G1
  have Z2 : n0 ≤ h2.size := by rw [W2.size]; exact Z1
  show own_Go _ _ _ _ _ _ _ (T2.setTop (mkF m 39 #[.val (.int p0), .val (.int p1), .val (.int p2), .val (.int p3), .val (.int p4), .val (.int p5), .val (.double (FP.i2d p1)), .second, .val (.double up0), .second, .val (.double (FP.i2d p4)), .second, .val (.double up1), .second, .unset, .unset, .unset, .unset, .unset, .unset] [(.ref b1)]))
  refine own_go (fun _ q => XS.dup X2.here hx rfl (hb hby at_39) rfl rfl q) ?_
  show own_Go _ _ _ _ _ _ _ (T2.setTop (mkF m 40 #[.val (.int p0), .val (.int p1), .val (.int p2), .val (.int p3), .val (.int p4), .val (.int p5), .val (.double (FP.i2d p1)), .second, .val (.double up0), .second, .val (.double (FP.i2d p4)), .second, .val (.double up1), .second, .unset, .unset, .unset, .unset, .unset, .unset] [(.ref b1), (.ref b1)]))
  refine own_go (fun _ q => XS.iconst X2.here hx rfl (hb hby at_40) q) ?_
  show own_Go _ _ _ _ _ _ _ (T2.setTop (mkF m 41 #[.val (.int p0), .val (.int p1), .val (.int p2), .val (.int p3), .val (.int p4), .val (.int p5), .val (.double (FP.i2d p1)), .second, .val (.double up0), .second, .val (.double (FP.i2d p4)), .second, .val (.double up1), .second, .unset, .unset, .unset, .unset, .unset, .unset] [(.int (1 : Int32)), (.ref b1), (.ref b1)]))
  refine own_go (fun _ q => XS.iloadN X2.here hx rfl (hb hby at_41) rfl q) ?_
  show own_Go _ _ _ _ _ _ _ (T2.setTop (mkF m 42 #[.val (.int p0), .val (.int p1), .val (.int p2), .val (.int p3), .val (.int p4), .val (.int p5), .val (.double (FP.i2d p1)), .second, .val (.double up0), .second, .val (.double (FP.i2d p4)), .second, .val (.double up1), .second, .unset, .unset, .unset, .unset, .unset, .unset] [(.int p3), (.int (1 : Int32)), (.ref b1), (.ref b1)]))
  refine own_go (own_i2d X2 hx (g := (mkF m 42 #[.val (.int p0), .val (.int p1), .val (.int p2), .val (.int p3), .val (.int p4), .val (.int p5), .val (.double (FP.i2d p1)), .second, .val (.double up0), .second, .val (.double (FP.i2d p4)), .second, .val (.double up1), .second, .unset, .unset, .unset, .unset, .unset, .unset] [(.int p3), (.int (1 : Int32)), (.ref b1), (.ref b1)])) rfl (hb hby at_42) rfl) ?_
  show own_Go _ _ _ _ _ _ _ (T2.setTop (mkF m 43 #[.val (.int p0), .val (.int p1), .val (.int p2), .val (.int p3), .val (.int p4), .val (.int p5), .val (.double (FP.i2d p1)), .second, .val (.double up0), .second, .val (.double (FP.i2d p4)), .second, .val (.double up1), .second, .unset, .unset, .unset, .unset, .unset, .unset] [(.double (FP.i2d p3)), (.int (1 : Int32)), (.ref b1), (.ref b1)]))
  refine own_dastore X2 hx hZ e2 (i := 1) A2 rfl (by decide) (hb hby at_43) rfl ?_
  intro T3 h3 X3 e3 W3 A3
  have N3 := Fr.snoc X3 N2 G1
  have Z3 : n0 ≤ h3.size := by rw [W3.size]; exact Z2
  show own_Go _ _ _ _ _ _ _ (T3.setTop (mkF m 44 #[.val (.int p0), .val (.int p1), .val (.int p2), .val (.int p3), .val (.int p4), .val (.int p5), .val (.double (FP.i2d p1)), .second, .val (.double up0), .second, .val (.double (FP.i2d p4)), .second, .val (.double up1), .second, .unset, .unset, .unset, .unset, .unset, .unset] [(.ref b1)]))
  refine own_go (fun _ q => XS.astore X3.here hx rfl (hb hby at_44) rfl rfl (l' := #[.val (.int p0), .val (.int p1), .val (.int p2), .val (.int p3), .val (.int p4), .val (.int p5), .val (.double (FP.i2d p1)), .second, .val (.double up0), .second, .val (.double (FP.i2d p4)), .second, .val (.double up1), .second, .val (.ref b1), .unset, .unset, .unset, .unset, .unset]) rfl q) ?_
  show own_Go _ _ _ _ _ _ _ (T3.setTop (mkF m 46 #[.val (.int p0), .val (.int p1), .val (.int p2), .val (.int p3), .val (.int p4), .val (.int p5), .val (.double (FP.i2d p1)), .second, .val (.double up0), .second, .val (.double (FP.i2d p4)), .second, .val (.double up1), .second, .val (.ref b1), .unset, .unset, .unset, .unset, .unset] []))
  refine own_go (fun _ q => XS.iconst X3.here hx rfl (hb hby at_46) q) ?_
  show own_Go _ _ _ _ _ _ _ (T3.setTop (mkF m 47 #[.val (.int p0), .val (.int p1), .val (.int p2), .val (.int p3), .val (.int p4), .val (.int p5), .val (.double (FP.i2d p1)), .second, .val (.double up0), .second, .val (.double (FP.i2d p4)), .second, .val (.double up1), .second, .val (.ref b1), .unset, .unset, .unset, .unset, .unset] [(.int (2 : Int32))]))
  obtain ⟨T4, h4, k4, X4, e4, E4, Aw4, st4⟩ := newP X3 hx hZ (hw _ (List.mem_of_getElem? (i := 1) rfl)) e3 (g := (mkF m 47 #[.val (.int p0), .val (.int p1), .val (.int p2), .val (.int p3), .val (.int p4), .val (.int p5), .val (.double (FP.i2d p1)), .second, .val (.double up0), .second, .val (.double (FP.i2d p4)), .second, .val (.double up1), .second, .val (.ref b1), .unset, .unset, .unset, .unset, .unset] [(.int (2 : Int32))])) rfl (hb hby at_47) rfl (by decide) (cap := 2) (by decide) (by decide) (by decide) (by decide)
  obtain ⟨b4, g4⟩ : ∃ z, z = h3.size := ⟨_, rfl⟩
  rw [← g4] at Aw4 st4
  have nq5 : b1 ≠ b4 := Nat.ne_of_lt (Nat.lt_of_lt_of_eq (A3).lt g4.symm)
  have A4 := own_Ar.new (nn := 2) Aw4 (by decide) rfl
  have G4 : n0 ≤ b4 := Nat.le_trans Z3 (Nat.le_of_eq g4.symm)
  have Z4 : n0 ≤ h4.size := Nat.le_trans Z3 E4.1
  refine own_go st4 ?_
  show own_Go _ _ _ _ _ _ _ (T4.setTop (mkF m 49 #[.val (.int p0), .val (.int p1), .val (.int p2), .val (.int p3), .val (.int p4), .val (.int p5), .val (.double (FP.i2d p1)), .second, .val (.double up0), .second, .val (.double (FP.i2d p4)), .second, .val (.double up1), .second, .val (.ref b1), .unset, .unset, .unset, .unset, .unset] [(.ref b4)]))
  refine own_go (fun _ q => XS.dup X4.here hx rfl (hb hby at_49) rfl rfl q) ?_
  show own_Go _ _ _ _ _ _ _ (T4.setTop (mkF m 50 #[.val (.int p0), .val (.int p1), .val (.int p2), .val (.int p3), .val (.int p4), .val (.int p5), .val (.double (FP.i2d p1)), .second, .val (.double up0), .second, .val (.double (FP.i2d p4)), .second, .val (.double up1), .second, .val (.ref b1), .unset, .unset, .unset, .unset, .unset] [(.ref b4), (.ref b4)]))
  refine own_go (fun _ q => XS.iconst X4.here hx rfl (hb hby at_50) q) ?_
  show own_Go _ _ _ _ _ _ _ (T4.setTop (mkF m 51 #[.val (.int p0), .val (.int p1), .val (.int p2), .val (.int p3), .val (.int p4), .val (.int p5), .val (.double (FP.i2d p1)), .second, .val (.double up0), .second, .val (.double (FP.i2d p4)), .second, .val (.double up1), .second, .val (.ref b1), .unset, .unset, .unset, .unset, .unset] [(.int (0 : Int32)), (.ref b4), (.ref b4)]))
  refine own_go (fun _ q => XT.dload X4.here hx rfl (hb hby at_51) rfl q) ?_
  show own_Go _ _ _ _ _ _ _ (T4.setTop (mkF m 53 #[.val (.int p0), .val (.int p1), .val (.int p2), .val (.int p3), .val (.int p4), .val (.int p5), .val (.double (FP.i2d p1)), .second, .val (.double up0), .second, .val (.double (FP.i2d p4)), .second, .val (.double up1), .second, .val (.ref b1), .unset, .unset, .unset, .unset, .unset] [(.double (FP.i2d p1)), (.int (0 : Int32)), (.ref b4), (.ref b4)]))
  refine own_dastore X4 hx hZ e4 (i := 0) A4 rfl (by decide) (hb hby at_53) rfl ?_
  intro T6 h6 X6 e6 W6 A6
  have N6 := Fr.snoc X6 N3 G4
  have Z6 : n0 ≤ h6.size := by rw [W6.size]; exact Z4
  show own_Go _ _ _ _ _ _ _ (T6.setTop (mkF m 54 #[.val (.int p0), .val (.int p1), .val (.int p2), .val (.int p3), .val (.int p4), .val (.int p5), .val (.double (FP.i2d p1)), .second, .val (.double up0), .second, .val (.double (FP.i2d p4)), .second, .val (.double up1), .second, .val (.ref b1), .unset, .unset, .unset, .unset, .unset] [(.ref b4)]))
  refine own_go (fun _ q => XS.dup X6.here hx rfl (hb hby at_54) rfl rfl q) ?_
  show own_Go _ _ _ _ _ _ _ (T6.setTop (mkF m 55 #[.val (.int p0), .val (.int p1), .val (.int p2), .val (.int p3), .val (.int p4), .val (.int p5), .val (.double (FP.i2d p1)), .second, .val (.double up0), .second, .val (.double (FP.i2d p4)), .second, .val (.double up1), .second, .val (.ref b1), .unset, .unset, .unset, .unset, .unset] [(.ref b4), (.ref b4)]))
  refine own_go (fun _ q => XS.iconst X6.here hx rfl (hb hby at_55) q) ?_
  show own_Go _ _ _ _ _ _ _ (T6.setTop (mkF m 56 #[.val (.int p0), .val (.int p1), .val (.int p2), .val (.int p3), .val (.int p4), .val (.int p5), .val (.double (FP.i2d p1)), .second, .val (.double up0), .second, .val (.double (FP.i2d p4)), .second, .val (.double up1), .second, .val (.ref b1), .unset, .unset, .unset, .unset, .unset] [(.int (1 : Int32)), (.ref b4), (.ref b4)]))
  refine own_go (fun _ q => XT.dload X6.here hx rfl (hb hby at_56) rfl q) ?_
  show own_Go _ _ _ _ _ _ _ (T6.setTop (mkF m 58 #[.val (.int p0), .val (.int p1), .val (.int p2), .val (.int p3), .val (.int p4), .val (.int p5), .val (.double (FP.i2d p1)), .second, .val (.double up0), .second, .val (.double (FP.i2d p4)), .second, .val (.double up1), .second, .val (.ref b1), .unset, .unset, .unset, .unset, .unset] [(.double (FP.i2d p4)), (.int (1 : Int32)), (.ref b4), (.ref b4)]))
  refine own_dastore X6 hx hZ e6 (i := 1) A6 rfl (by decide) (hb hby at_58) rfl ?_
  intro T7 h7 X7 e7 W7 A7
  have N7 := Fr.snoc X7 N6 G4
  have Z7 : n0 ≤ h7.size := by rw [W7.size]; exact Z6
  show own_Go _ _ _ _ _ _ _ (T7.setTop (mkF m 59 #[.val (.int p0), .val (.int p1), .val (.int p2), .val (.int p3), .val (.int p4), .val (.int p5), .val (.double (FP.i2d p1)), .second, .val (.double up0), .second, .val (.double (FP.i2d p4)), .second, .val (.double up1), .second, .val (.ref b1), .unset, .unset, .unset, .unset, .unset] [(.ref b4)]))
  refine own_go (fun _ q => XS.astore X7.here hx rfl (hb hby at_59) rfl rfl (l' := #[.val (.int p0), .val (.int p1), .val (.int p2), .val (.int p3), .val (.int p4), .val (.int p5), .val (.double (FP.i2d p1)), .second, .val (.double up0), .second, .val (.double (FP.i2d p4)), .second, .val (.double up1), .second, .val (.ref b1), .val (.ref b4), .unset, .unset, .unset, .unset]) rfl q) ?_
  show own_Go _ _ _ _ _ _ _ (T7.setTop (mkF m 61 #[.val (.int p0), .val (.int p1), .val (.int p2), .val (.int p3), .val (.int p4), .val (.int p5), .val (.double (FP.i2d p1)), .second, .val (.double up0), .second, .val (.double (FP.i2d p4)), .second, .val (.double up1), .second, .val (.ref b1), .val (.ref b4), .unset, .unset, .unset, .unset] []))
  refine own_go (fun _ q => XS.iconst X7.here hx rfl (hb hby at_61) q) ?_
  show own_Go _ _ _ _ _ _ _ (T7.setTop (mkF m 62 #[.val (.int p0), .val (.int p1), .val (.int p2), .val (.int p3), .val (.int p4), .val (.int p5), .val (.double (FP.i2d p1)), .second, .val (.double up0), .second, .val (.double (FP.i2d p4)), .second, .val (.double up1), .second, .val (.ref b1), .val (.ref b4), .unset, .unset, .unset, .unset] [(.int (2 : Int32))]))
  obtain ⟨T8, h8, k8, X8, e8, E8, Aw8, st8⟩ := newP X7 hx hZ (hw _ (List.mem_of_getElem? (i := 1) rfl)) e7 (g := (mkF m 62 #[.val (.int p0), .val (.int p1), .val (.int p2), .val (.int p3), .val (.int p4), .val (.int p5), .val (.double (FP.i2d p1)), .second, .val (.double up0), .second, .val (.double (FP.i2d p4)), .second, .val (.double up1), .second, .val (.ref b1), .val (.ref b4), .unset, .unset, .unset, .unset] [(.int (2 : Int32))])) rfl (hb hby at_62) rfl (by decide) (cap := 2) (by decide) (by decide) (by decide) (by decide)
  obtain ⟨b8, g8⟩ : ∃ z, z = h7.size := ⟨_, rfl⟩
  rw [← g8] at Aw8 st8
  have f9 := (((A3.ext E4).other W6 nq5).other W7 nq5)
  have nq10 : b1 ≠ b8 := Nat.ne_of_lt (Nat.lt_of_lt_of_eq (f9).lt g8.symm)
  have nq11 : b4 ≠ b8 := Nat.ne_of_lt (Nat.lt_of_lt_of_eq (A7).lt g8.symm)
  have A8 := own_Ar.new (nn := 2) Aw8 (by decide) rfl
  have G8 : n0 ≤ b8 := Nat.le_trans Z7 (Nat.le_of_eq g8.symm)
  have Z8 : n0 ≤ h8.size := Nat.le_trans Z7 E8.1
  refine own_go st8 ?_
  show own_Go _ _ _ _ _ _ _ (T8.setTop (mkF m 64 #[.val (.int p0), .val (.int p1), .val (.int p2), .val (.int p3), .val (.int p4), .val (.int p5), .val (.double (FP.i2d p1)), .second, .val (.double up0), .second, .val (.double (FP.i2d p4)), .second, .val (.double up1), .second, .val (.ref b1), .val (.ref b4), .unset, .unset, .unset, .unset] [(.ref b8)]))
  refine own_go (fun _ q => XS.dup X8.here hx rfl (hb hby at_64) rfl rfl q) ?_
  show own_Go _ _ _ _ _ _ _ (T8.setTop (mkF m 65 #[.val (.int p0), .val (.int p1), .val (.int p2), .val (.int p3), .val (.int p4), .val (.int p5), .val (.double (FP.i2d p1)), .second, .val (.double up0), .second, .val (.double (FP.i2d p4)), .second, .val (.double up1), .second, .val (.ref b1), .val (.ref b4), .unset, .unset, .unset, .unset] [(.ref b8), (.ref b8)]))
  refine own_go (fun _ q => XS.iconst X8.here hx rfl (hb hby at_65) q) ?_
  show own_Go _ _ _ _ _ _ _ (T8.setTop (mkF m 66 #[.val (.int p0), .val (.int p1), .val (.int p2), .val (.int p3), .val (.int p4), .val (.int p5), .val (.double (FP.i2d p1)), .second, .val (.double up0), .second, .val (.double (FP.i2d p4)), .second, .val (.double up1), .second, .val (.ref b1), .val (.ref b4), .unset, .unset, .unset, .unset] [(.int (0 : Int32)), (.ref b8), (.ref b8)]))
  refine own_go (fun _ q => XT.dload X8.here hx rfl (hb hby at_66) rfl q) ?_
  show own_Go _ _ _ _ _ _ _ (T8.setTop (mkF m 68 #[.val (.int p0), .val (.int p1), .val (.int p2), .val (.int p3), .val (.int p4), .val (.int p5), .val (.double (FP.i2d p1)), .second, .val (.double up0), .second, .val (.double (FP.i2d p4)), .second, .val (.double up1), .second, .val (.ref b1), .val (.ref b4), .unset, .unset, .unset, .unset] [(.double up0), (.int (0 : Int32)), (.ref b8), (.ref b8)]))
  refine own_dastore X8 hx hZ e8 (i := 0) A8 rfl (by decide) (hb hby at_68) rfl ?_
  intro T12 h12 X12 e12 W12 A12
  have N12 := Fr.snoc X12 N7 G8
  have Z12 : n0 ≤ h12.size := by rw [W12.size]; exact Z8
  show own_Go _ _ _ _ _ _ _ (T12.setTop (mkF m 69 #[.val (.int p0), .val (.int p1), .val (.int p2), .val (.int p3), .val (.int p4), .val (.int p5), .val (.double (FP.i2d p1)), .second, .val (.double up0), .second, .val (.double (FP.i2d p4)), .second, .val (.double up1), .second, .val (.ref b1), .val (.ref b4), .unset, .unset, .unset, .unset] [(.ref b8)]))
  refine own_go (fun _ q => XS.dup X12.here hx rfl (hb hby at_69) rfl rfl q) ?_
  show own_Go _ _ _ _ _ _ _ (T12.setTop (mkF m 70 #[.val (.int p0), .val (.int p1), .val (.int p2), .val (.int p3), .val (.int p4), .val (.int p5), .val (.double (FP.i2d p1)), .second, .val (.double up0), .second, .val (.double (FP.i2d p4)), .second, .val (.double up1), .second, .val (.ref b1), .val (.ref b4), .unset, .unset, .unset, .unset] [(.ref b8), (.ref b8)]))
  refine own_go (fun _ q => XS.iconst X12.here hx rfl (hb hby at_70) q) ?_
  show own_Go _ _ _ _ _ _ _ (T12.setTop (mkF m 71 #[.val (.int p0), .val (.int p1), .val (.int p2), .val (.int p3), .val (.int p4), .val (.int p5), .val (.double (FP.i2d p1)), .second, .val (.double up0), .second, .val (.double (FP.i2d p4)), .second, .val (.double up1), .second, .val (.ref b1), .val (.ref b4), .unset, .unset, .unset, .unset] [(.int (1 : Int32)), (.ref b8), (.ref b8)]))
  refine own_go (fun _ q => XT.dload X12.here hx rfl (hb hby at_71) rfl q) ?_
  show own_Go _ _ _ _ _ _ _ (T12.setTop (mkF m 73 #[.val (.int p0), .val (.int p1), .val (.int p2), .val (.int p3), .val (.int p4), .val (.int p5), .val (.double (FP.i2d p1)), .second, .val (.double up0), .second, .val (.double (FP.i2d p4)), .second, .val (.double up1), .second, .val (.ref b1), .val (.ref b4), .unset, .unset, .unset, .unset] [(.double up1), (.int (1 : Int32)), (.ref b8), (.ref b8)]))
  refine own_dastore X12 hx hZ e12 (i := 1) A12 rfl (by decide) (hb hby at_73) rfl ?_
  intro T13 h13 X13 e13 W13 A13
  have N13 := Fr.snoc X13 N12 G8
  have Z13 : n0 ≤ h13.size := by rw [W13.size]; exact Z12
  show own_Go _ _ _ _ _ _ _ (T13.setTop (mkF m 74 #[.val (.int p0), .val (.int p1), .val (.int p2), .val (.int p3), .val (.int p4), .val (.int p5), .val (.double (FP.i2d p1)), .second, .val (.double up0), .second, .val (.double (FP.i2d p4)), .second, .val (.double up1), .second, .val (.ref b1), .val (.ref b4), .unset, .unset, .unset, .unset] [(.ref b8)]))
  refine own_go (fun _ q => XS.astore X13.here hx rfl (hb hby at_74) rfl rfl (l' := #[.val (.int p0), .val (.int p1), .val (.int p2), .val (.int p3), .val (.int p4), .val (.int p5), .val (.double (FP.i2d p1)), .second, .val (.double up0), .second, .val (.double (FP.i2d p4)), .second, .val (.double up1), .second, .val (.ref b1), .val (.ref b4), .val (.ref b8), .unset, .unset, .unset]) rfl q) ?_
  show own_Go _ _ _ _ _ _ _ (T13.setTop (mkF m 76 #[.val (.int p0), .val (.int p1), .val (.int p2), .val (.int p3), .val (.int p4), .val (.int p5), .val (.double (FP.i2d p1)), .second, .val (.double up0), .second, .val (.double (FP.i2d p4)), .second, .val (.double up1), .second, .val (.ref b1), .val (.ref b4), .val (.ref b8), .unset, .unset, .unset] []))
  obtain ⟨T14, h14, X14, e14, E14, A14, D14, -, st14⟩ := newO X13 hx hZ hown (hw _ (List.mem_of_getElem? (i := 2) rfl)) (hw _ (List.mem_of_getElem? (i := 3) rfl)) (hw _ (List.mem_of_getElem? (i := 4) rfl)) e13 (g := (mkF m 76 #[.val (.int p0), .val (.int p1), .val (.int p2), .val (.int p3), .val (.int p4), .val (.int p5), .val (.double (FP.i2d p1)), .second, .val (.double up0), .second, .val (.double (FP.i2d p4)), .second, .val (.double up1), .second, .val (.ref b1), .val (.ref b4), .val (.ref b8), .unset, .unset, .unset] [])) rfl (hb hby at_76) (by decide) (by decide)
  obtain ⟨b14, g14⟩ : ∃ z, z = h13.size := ⟨_, rfl⟩
  rw [← g14] at A14 D14 st14
  have f15 := (((f9.ext E8).other W12 nq10).other W13 nq10)
  have nq16 : b1 ≠ b14 := Nat.ne_of_lt (Nat.lt_of_lt_of_eq (f15).lt g14.symm)
  have f17 := (((A7.ext E8).other W12 nq11).other W13 nq11)
  have nq18 : b4 ≠ b14 := Nat.ne_of_lt (Nat.lt_of_lt_of_eq (f17).lt g14.symm)
  have nq19 : b8 ≠ b14 := Nat.ne_of_lt (Nat.lt_of_lt_of_eq (A13).lt g14.symm)
  have G14 : n0 ≤ b14 := Nat.le_trans Z13 (Nat.le_of_eq g14.symm)
  have Z14 : n0 ≤ h14.size := Nat.le_trans Z13 E14.1
  have Fn14_rows : Fld Z h14 b14 "com/example/slotwright/slotwright/BoundedSimplex" "rows" "I" (.int (0 : Int32)) := D14 (Or.inl (hw _ (List.mem_of_getElem? (i := 212) rfl))) (ty := .int) (by decide)
  have P14 : own_Fs Z a0 h14 b14 "com/example/slotwright/slotwright/BoundedSimplex" := fun _ _ _ L q => ⟨_, D14 L q⟩
  refine own_go st14 ?_
  show own_Go _ _ _ _ _ _ _ (T14.setTop (mkF m 79 #[.val (.int p0), .val (.int p1), .val (.int p2), .val (.int p3), .val (.int p4), .val (.int p5), .val (.double (FP.i2d p1)), .second, .val (.double up0), .second, .val (.double (FP.i2d p4)), .second, .val (.double up1), .second, .val (.ref b1), .val (.ref b4), .val (.ref b8), .unset, .unset, .unset] [(.ref b14)]))
  refine own_go (fun _ q => XS.dup X14.here hx rfl (hb hby at_79) rfl rfl q) ?_
  show own_Go _ _ _ _ _ _ _ (T14.setTop (mkF m 80 #[.val (.int p0), .val (.int p1), .val (.int p2), .val (.int p3), .val (.int p4), .val (.int p5), .val (.double (FP.i2d p1)), .second, .val (.double up0), .second, .val (.double (FP.i2d p4)), .second, .val (.double up1), .second, .val (.ref b1), .val (.ref b4), .val (.ref b8), .unset, .unset, .unset] [(.ref b14), (.ref b14)]))
  refine own_go (fun _ q => XS.aload X14.here hx rfl (hb hby at_80) rfl rfl q) ?_
  show own_Go _ _ _ _ _ _ _ (T14.setTop (mkF m 82 #[.val (.int p0), .val (.int p1), .val (.int p2), .val (.int p3), .val (.int p4), .val (.int p5), .val (.double (FP.i2d p1)), .second, .val (.double up0), .second, .val (.double (FP.i2d p4)), .second, .val (.double up1), .second, .val (.ref b1), .val (.ref b4), .val (.ref b8), .unset, .unset, .unset] [(.ref b1), (.ref b14), (.ref b14)]))
  refine own_go (fun _ q => XS.aload X14.here hx rfl (hb hby at_82) rfl rfl q) ?_
  show own_Go _ _ _ _ _ _ _ (T14.setTop (mkF m 84 #[.val (.int p0), .val (.int p1), .val (.int p2), .val (.int p3), .val (.int p4), .val (.int p5), .val (.double (FP.i2d p1)), .second, .val (.double up0), .second, .val (.double (FP.i2d p4)), .second, .val (.double up1), .second, .val (.ref b1), .val (.ref b4), .val (.ref b8), .unset, .unset, .unset] [(.ref b4), (.ref b1), (.ref b14), (.ref b14)]))
  refine own_go (fun _ q => XS.aload X14.here hx rfl (hb hby at_84) rfl rfl q) ?_
  show own_Go _ _ _ _ _ _ _ (T14.setTop (mkF m 86 #[.val (.int p0), .val (.int p1), .val (.int p2), .val (.int p3), .val (.int p4), .val (.int p5), .val (.double (FP.i2d p1)), .second, .val (.double up0), .second, .val (.double (FP.i2d p4)), .second, .val (.double up1), .second, .val (.ref b1), .val (.ref b4), .val (.ref b8), .unset, .unset, .unset] [(.ref b8), (.ref b4), (.ref b1), (.ref b14), (.ref b14)]))
  have f20 := (f15.ext E14)
  have f21 := (f17.ext E14)
  have f22 := (A13.ext E14)
  refine own_init X14 hx hZ rfl hown (hw _ (List.mem_of_getElem? (i := 5) rfl)) (hw _ (List.mem_of_getElem? (i := 6) rfl)) (hw _ (List.mem_of_getElem? (i := 4) rfl)) (hw _ (List.mem_of_getElem? (i := 7) rfl)) (by decide) e14 (a := b14) (argsL := [(.ref b1), (.ref b4), (.ref b8)]) (rest := [(.ref b14)]) (rm1 l Z a0 hw [] b14 b1 b4 b8 (FP.i2d p0) (FP.i2d p3) (FP.i2d p1) (FP.i2d p4) up0 up1 (own_z oc0) (own_z oc1) oc0 oc1 oo0 oo1 _ _ _ h14 n0 Z14 A14 P14 Fn14_rows G14 f20 nq16 f21 nq18 f22 nq19 rfl rfl rfl hoc0 (own_z_or oc0) (own_z01 oc0) fl0 fu0 hoo0 hgo0 rfl rfl rfl hoc1 (own_z_or oc1) (own_z01 oc1) fl1 fu1 hoo1 hgo1) 1 (by decide) (by decide) (by decide) (by decide) (by rw [hml]; rfl) pd_5 rfl rfl (Nat.le_of_eq rfl) (hb hby at_86) rfl ?_
  intro v23 T23 L23 X23 hQ23
  obtain ⟨rfl, N23q, zz23, Eo, Fcol, ca, va, Fca, Fva, ⟨Fc1, Ac, hc_0, hc_1⟩, ⟨Fv1, Av, hv_0, hv_1⟩⟩ := hQ23
  have N23 := Fr.app N13 N23q
  show own_Go _ _ _ _ _ _ _ (T23.setTop (mkF m 89 #[.val (.int p0), .val (.int p1), .val (.int p2), .val (.int p3), .val (.int p4), .val (.int p5), .val (.double (FP.i2d p1)), .second, .val (.double up0), .second, .val (.double (FP.i2d p4)), .second, .val (.double up1), .second, .val (.ref b1), .val (.ref b4), .val (.ref b8), .unset, .unset, .unset] [(.ref b14)]))
  have Z23 : n0 ≤ T23.heap.size := Nat.le_trans Z14 zz23
  refine own_go (fun _ q => XS.astore X23.here hx rfl (hb hby at_89) rfl rfl (l' := #[.val (.int p0), .val (.int p1), .val (.int p2), .val (.int p3), .val (.int p4), .val (.int p5), .val (.double (FP.i2d p1)), .second, .val (.double up0), .second, .val (.double (FP.i2d p4)), .second, .val (.double up1), .second, .val (.ref b1), .val (.ref b4), .val (.ref b8), .val (.ref b14), .unset, .unset]) rfl q) ?_
  show own_Go _ _ _ _ _ _ _ (T23.setTop (mkF m 91 #[.val (.int p0), .val (.int p1), .val (.int p2), .val (.int p3), .val (.int p4), .val (.int p5), .val (.double (FP.i2d p1)), .second, .val (.double up0), .second, .val (.double (FP.i2d p4)), .second, .val (.double up1), .second, .val (.ref b1), .val (.ref b4), .val (.ref b8), .val (.ref b14), .unset, .unset] []))
  refine own_go (fun _ q => XS.iloadN X23.here hx rfl (hb hby at_91) rfl q) ?_
  show own_Go _ _ _ _ _ _ _ (T23.setTop (mkF m 92 #[.val (.int p0), .val (.int p1), .val (.int p2), .val (.int p3), .val (.int p4), .val (.int p5), .val (.double (FP.i2d p1)), .second, .val (.double up0), .second, .val (.double (FP.i2d p4)), .second, .val (.double up1), .second, .val (.ref b1), .val (.ref b4), .val (.ref b8), .val (.ref b14), .unset, .unset] [(.int p0)]))
  refine own_go (fun _ q => XT.dload X23.here hx rfl (hb hby at_92) rfl q) ?_
  show own_Go _ _ _ _ _ _ _ (T23.setTop (mkF m 94 #[.val (.int p0), .val (.int p1), .val (.int p2), .val (.int p3), .val (.int p4), .val (.int p5), .val (.double (FP.i2d p1)), .second, .val (.double up0), .second, .val (.double (FP.i2d p4)), .second, .val (.double up1), .second, .val (.ref b1), .val (.ref b4), .val (.ref b8), .val (.ref b14), .unset, .unset] [(.double (FP.i2d p1)), (.int p0)]))
  refine own_go (fun _ q => XT.dload X23.here hx rfl (hb hby at_94) rfl q) ?_
  show own_Go _ _ _ _ _ _ _ (T23.setTop (mkF m 96 #[.val (.int p0), .val (.int p1), .val (.int p2), .val (.int p3), .val (.int p4), .val (.int p5), .val (.double (FP.i2d p1)), .second, .val (.double up0), .second, .val (.double (FP.i2d p4)), .second, .val (.double up1), .second, .val (.ref b1), .val (.ref b4), .val (.ref b8), .val (.ref b14), .unset, .unset] [(.double up0), (.double (FP.i2d p1)), (.int p0)]))
  refine own_static X23 hx hZ hown (hw _ (List.mem_of_getElem? (i := 213) rfl)) (hw _ (List.mem_of_getElem? (i := 214) rfl)) (hw _ (List.mem_of_getElem? (i := 215) rfl)) (hw _ (List.mem_of_getElem? (i := 216) rfl)) (by decide) rfl (argsL := [(.int p0), (.double (FP.i2d p1)), (.double up0)]) (rest := []) (rm10 l Z a0 hw [] p0 (FP.i2d p1) up0 od0 T23.heap n0 Z23 fm0.ne_nan fn0.ne_nan hod0) 0 (by decide) (by decide) (by decide) (by decide) (by rw [hml]; rfl) pd_6 rfl rfl (Nat.le_of_eq rfl) (hb hby at_96) rfl ?_
  intro v24 T24 L24 X24 hQ24
  obtain ⟨r0, rfl, N24q, e24q, hr0⟩ := hQ24
  have N24 := Fr.app N23 N24q
  show own_Go _ _ _ _ _ _ _ (T24.setTop (mkF m 99 #[.val (.int p0), .val (.int p1), .val (.int p2), .val (.int p3), .val (.int p4), .val (.int p5), .val (.double (FP.i2d p1)), .second, .val (.double up0), .second, .val (.double (FP.i2d p4)), .second, .val (.double up1), .second, .val (.ref b1), .val (.ref b4), .val (.ref b8), .val (.ref b14), .unset, .unset] [(.double r0)]))
  have E0_ := own_pick k1_0 k2_0 k3_0 hr0
  refine own_go (fun _ q => XS.iloadN X24.here hx rfl (hb hby at_99) rfl q) ?_
  show own_Go _ _ _ _ _ _ _ (T24.setTop (mkF m 100 #[.val (.int p0), .val (.int p1), .val (.int p2), .val (.int p3), .val (.int p4), .val (.int p5), .val (.double (FP.i2d p1)), .second, .val (.double up0), .second, .val (.double (FP.i2d p4)), .second, .val (.double up1), .second, .val (.ref b1), .val (.ref b4), .val (.ref b8), .val (.ref b14), .unset, .unset] [(.int p3), (.double r0)]))
  refine own_go (fun _ q => XT.dload X24.here hx rfl (hb hby at_100) rfl q) ?_
  show own_Go _ _ _ _ _ _ _ (T24.setTop (mkF m 102 #[.val (.int p0), .val (.int p1), .val (.int p2), .val (.int p3), .val (.int p4), .val (.int p5), .val (.double (FP.i2d p1)), .second, .val (.double up0), .second, .val (.double (FP.i2d p4)), .second, .val (.double up1), .second, .val (.ref b1), .val (.ref b4), .val (.ref b8), .val (.ref b14), .unset, .unset] [(.double (FP.i2d p4)), (.int p3), (.double r0)]))
  refine own_go (fun _ q => XT.dload X24.here hx rfl (hb hby at_102) rfl q) ?_
  show own_Go _ _ _ _ _ _ _ (T24.setTop (mkF m 104 #[.val (.int p0), .val (.int p1), .val (.int p2), .val (.int p3), .val (.int p4), .val (.int p5), .val (.double (FP.i2d p1)), .second, .val (.double up0), .second, .val (.double (FP.i2d p4)), .second, .val (.double up1), .second, .val (.ref b1), .val (.ref b4), .val (.ref b8), .val (.ref b14), .unset, .unset] [(.double up1), (.double (FP.i2d p4)), (.int p3), (.double r0)]))
  refine own_static X24 hx hZ hown (hw _ (List.mem_of_getElem? (i := 213) rfl)) (hw _ (List.mem_of_getElem? (i := 214) rfl)) (hw _ (List.mem_of_getElem? (i := 215) rfl)) (hw _ (List.mem_of_getElem? (i := 216) rfl)) (by decide) e24q (argsL := [(.int p3), (.double (FP.i2d p4)), (.double up1)]) (rest := [(.double r0)]) (rm10 l Z a0 hw [] p3 (FP.i2d p4) up1 od1 T23.heap n0 Z23 fm1.ne_nan fn1.ne_nan hod1) 2 (by decide) (by decide) (by decide) (by decide) (by rw [hml]; rfl) pd_6 rfl rfl (Nat.le_of_eq rfl) (hb hby at_104) rfl ?_
  intro v25 T25 L25 X25 hQ25
  obtain ⟨r1, rfl, N25q, e25q, hr1⟩ := hQ25
  have N25 := Fr.app N24 N25q
  show own_Go _ _ _ _ _ _ _ (T25.setTop (mkF m 107 #[.val (.int p0), .val (.int p1), .val (.int p2), .val (.int p3), .val (.int p4), .val (.int p5), .val (.double (FP.i2d p1)), .second, .val (.double up0), .second, .val (.double (FP.i2d p4)), .second, .val (.double up1), .second, .val (.ref b1), .val (.ref b4), .val (.ref b8), .val (.ref b14), .unset, .unset] [(.double r1), (.double r0)]))
  have E1_ := own_pick k1_1 k2_1 k3_1 hr1
  obtain ⟨t1, t2, t3, t4, t5, t6⟩ := own_sums (FP.Core.i2d_fin p0) (FP.Core.i2d_fin p3) E0_ E1_
  refine own_go (own_dadd X25 hx (g := (mkF m 107 #[.val (.int p0), .val (.int p1), .val (.int p2), .val (.int p3), .val (.int p4), .val (.int p5), .val (.double (FP.i2d p1)), .second, .val (.double up0), .second, .val (.double (FP.i2d p4)), .second, .val (.double up1), .second, .val (.ref b1), .val (.ref b4), .val (.ref b8), .val (.ref b14), .unset, .unset] [(.double r1), (.double r0)])) rfl (hb hby at_107) rfl (own_num t5)) ?_
  show own_Go _ _ _ _ _ _ _ (T25.setTop (mkF m 108 #[.val (.int p0), .val (.int p1), .val (.int p2), .val (.int p3), .val (.int p4), .val (.int p5), .val (.double (FP.i2d p1)), .second, .val (.double up0), .second, .val (.double (FP.i2d p4)), .second, .val (.double up1), .second, .val (.ref b1), .val (.ref b4), .val (.ref b8), .val (.ref b14), .unset, .unset] [(.double (FP.dadd r0 r1))]))
  refine own_go (own_dstore X25 hx (g := (mkF m 108 #[.val (.int p0), .val (.int p1), .val (.int p2), .val (.int p3), .val (.int p4), .val (.int p5), .val (.double (FP.i2d p1)), .second, .val (.double up0), .second, .val (.double (FP.i2d p4)), .second, .val (.double up1), .second, .val (.ref b1), .val (.ref b4), .val (.ref b8), .val (.ref b14), .unset, .unset] [(.double (FP.dadd r0 r1))])) rfl (hb hby at_108) rfl (l' := #[.val (.int p0), .val (.int p1), .val (.int p2), .val (.int p3), .val (.int p4), .val (.int p5), .val (.double (FP.i2d p1)), .second, .val (.double up0), .second, .val (.double (FP.i2d p4)), .second, .val (.double up1), .second, .val (.ref b1), .val (.ref b4), .val (.ref b8), .val (.ref b14), .val (.double (FP.dadd r0 r1)), .second]) rfl) ?_
  show own_Go _ _ _ _ _ _ _ (T25.setTop (mkF m 110 #[.val (.int p0), .val (.int p1), .val (.int p2), .val (.int p3), .val (.int p4), .val (.int p5), .val (.double (FP.i2d p1)), .second, .val (.double up0), .second, .val (.double (FP.i2d p4)), .second, .val (.double up1), .second, .val (.ref b1), .val (.ref b4), .val (.ref b8), .val (.ref b14), .val (.double (FP.dadd r0 r1)), .second] []))
  refine own_go (fun _ q => XS.aload X25.here hx rfl (hb hby at_110) rfl rfl q) ?_
  show own_Go _ _ _ _ _ _ _ (T25.setTop (mkF m 112 #[.val (.int p0), .val (.int p1), .val (.int p2), .val (.int p3), .val (.int p4), .val (.int p5), .val (.double (FP.i2d p1)), .second, .val (.double up0), .second, .val (.double (FP.i2d p4)), .second, .val (.double up1), .second, .val (.ref b1), .val (.ref b4), .val (.ref b8), .val (.ref b14), .val (.double (FP.dadd r0 r1)), .second] [(.ref b14)]))
  refine own_virtual X25 hx hZ hown (hw _ (List.mem_of_getElem? (i := 217) rfl)) (hw _ (List.mem_of_getElem? (i := 218) rfl)) (hw _ (List.mem_of_getElem? (i := 220) rfl)) (hw _ (List.mem_of_getElem? (i := 219) rfl)) (hw _ (List.mem_of_getElem? (i := 4) rfl)) (hw _ (List.mem_of_getElem? (i := 221) rfl)) (by decide) e25q (a := b14) Eo (argsL := []) (rest := []) (rm11 l Z a0 hw [] b14 ca va (FP.dneg (FP.i2d p0)) (FP.dneg (FP.i2d p3)) (own_sel (own_z oc0) (FP.i2d p1) up0) (own_sel (own_z oc1) (FP.i2d p4) up1) _ _ T23.heap n0 Z23 Fcol Fca Fva Ac hc_0 hc_1 Av hv_0 hv_1 t1 t3 t2 t4) 0 (by decide) (by decide) (by decide) (by decide) (by rw [hml]; rfl) pd_7 rfl rfl (Nat.le_of_eq rfl) (hb hby at_112) rfl ?_
  intro v26 T26 L26 X26 hQ26
  obtain ⟨rfl, N26q, e26q⟩ := hQ26
  have N26 := Fr.app N25 N26q
  show own_Go _ _ _ _ _ _ _ (T26.setTop (mkF m 115 #[.val (.int p0), .val (.int p1), .val (.int p2), .val (.int p3), .val (.int p4), .val (.int p5), .val (.double (FP.i2d p1)), .second, .val (.double up0), .second, .val (.double (FP.i2d p4)), .second, .val (.double up1), .second, .val (.ref b1), .val (.ref b4), .val (.ref b8), .val (.ref b14), .val (.double (FP.dadd r0 r1)), .second] [(.double (FP.dsub (FP.dsub FP.dconst0 (FP.dmul (FP.dneg (FP.i2d p0)) (own_sel (own_z oc0) (FP.i2d p1) up0))) (FP.dmul (FP.dneg (FP.i2d p3)) (own_sel (own_z oc1) (FP.i2d p4) up1))))]))
  refine own_go (fun _ q => XT.dload X26.here hx rfl (hb hby at_115) rfl q) ?_
  show own_Go _ _ _ _ _ _ _ (T26.setTop (mkF m 117 #[.val (.int p0), .val (.int p1), .val (.int p2), .val (.int p3), .val (.int p4), .val (.int p5), .val (.double (FP.i2d p1)), .second, .val (.double up0), .second, .val (.double (FP.i2d p4)), .second, .val (.double up1), .second, .val (.ref b1), .val (.ref b4), .val (.ref b8), .val (.ref b14), .val (.double (FP.dadd r0 r1)), .second] [(.double (FP.dadd r0 r1)), (.double (FP.dsub (FP.dsub FP.dconst0 (FP.dmul (FP.dneg (FP.i2d p0)) (own_sel (own_z oc0) (FP.i2d p1) up0))) (FP.dmul (FP.dneg (FP.i2d p3)) (own_sel (own_z oc1) (FP.i2d p4) up1))))]))
  refine own_go (own_dcmp X26 hx (g := (mkF m 117 #[.val (.int p0), .val (.int p1), .val (.int p2), .val (.int p3), .val (.int p4), .val (.int p5), .val (.double (FP.i2d p1)), .second, .val (.double up0), .second, .val (.double (FP.i2d p4)), .second, .val (.double up1), .second, .val (.ref b1), .val (.ref b4), .val (.ref b8), .val (.ref b14), .val (.double (FP.dadd r0 r1)), .second] [(.double (FP.dadd r0 r1)), (.double (FP.dsub (FP.dsub FP.dconst0 (FP.dmul (FP.dneg (FP.i2d p0)) (own_sel (own_z oc0) (FP.i2d p1) up0))) (FP.dmul (FP.dneg (FP.i2d p3)) (own_sel (own_z oc1) (FP.i2d p4) up1))))])) rfl (o := .eq) t6 (hb hby at_117) rfl) ?_
  show own_Go _ _ _ _ _ _ _ (T26.setTop (mkF m 118 #[.val (.int p0), .val (.int p1), .val (.int p2), .val (.int p3), .val (.int p4), .val (.int p5), .val (.double (FP.i2d p1)), .second, .val (.double up0), .second, .val (.double (FP.i2d p4)), .second, .val (.double up1), .second, .val (.ref b1), .val (.ref b4), .val (.ref b8), .val (.ref b14), .val (.double (FP.dadd r0 r1)), .second] [(.int (0 : Int32))]))
  refine own_go (fun _ q => XS.ifNo X26.here hx rfl (hb hby at_118) rfl ((if0 _ _).trans (teq (by decide : (0 : Int32) = (0 : Int32))).2) q) ?_
  show own_Go _ _ _ _ _ _ _ (T26.setTop (mkF m 121 #[.val (.int p0), .val (.int p1), .val (.int p2), .val (.int p3), .val (.int p4), .val (.int p5), .val (.double (FP.i2d p1)), .second, .val (.double up0), .second, .val (.double (FP.i2d p4)), .second, .val (.double up1), .second, .val (.ref b1), .val (.ref b4), .val (.ref b8), .val (.ref b14), .val (.double (FP.dadd r0 r1)), .second] []))
  refine own_go (fun _ q => XS.iconst X26.here hx rfl (hb hby at_121) q) ?_
  show own_Go _ _ _ _ _ _ _ (T26.setTop (mkF m 122 #[.val (.int p0), .val (.int p1), .val (.int p2), .val (.int p3), .val (.int p4), .val (.int p5), .val (.double (FP.i2d p1)), .second, .val (.double up0), .second, .val (.double (FP.i2d p4)), .second, .val (.double up1), .second, .val (.ref b1), .val (.ref b4), .val (.ref b8), .val (.ref b14), .val (.double (FP.dadd r0 r1)), .second] [(.int (1 : Int32))]))
  refine own_go (fun _ q => XS.goto X26.here hx rfl (pc0 := 122) (pc' := 126) rfl (hb hby at_122) (by decide) (by decide) q) ?_
  show own_Go _ _ _ _ _ _ _ (T26.setTop (mkF m 126 #[.val (.int p0), .val (.int p1), .val (.int p2), .val (.int p3), .val (.int p4), .val (.int p5), .val (.double (FP.i2d p1)), .second, .val (.double up0), .second, .val (.double (FP.i2d p4)), .second, .val (.double up1), .second, .val (.ref b1), .val (.ref b4), .val (.ref b8), .val (.ref b14), .val (.double (FP.dadd r0 r1)), .second] [(.int (1 : Int32))]))
  exact own_retZ X26 hx hlk hret (hb hby at_126) (by decide) (by decide) (by decide) ⟨rfl, N26⟩
set_option maxRecDepth 65536 in
set_option maxHeartbeats 40000000 in
theorem comes_1 {Post : Tables → Env → Array Value → State → Outcome → State → Prop} (hpost : ∀ tb e args s v u, (limb_1_1.after args s (.returned v) u = true ∧ limb_1_2.after args s (.returned v) u = true ∧ True) → FrameEnd s (.returned v) u (Jvm.fieldLocs frame_1_writes args s ++ Jvm.arrayLocs frame_1_arrays args s ++ Jvm.staticLocs frame_1_statics s) 176 448 → Post tb e args s (.returned v) u) :
    ArmFor flags0 classFile x code maxLocals ret World_1 tables_1 room_1 Calls_1 rest_1 Pre_1 Post := by
  intro l hfl _ _ p e ha hc hk s m args below hf hA hF happ hP
  obtain ⟨hcalls, hrest, hpre⟩ := hP
  obtain ⟨-, -, -, hnamed, -, -, -, hat⟩ := (Spec.applies_iff hf).mp happ
  obtain ⟨hg, hn⟩ := and_e (Cond.before_iff.mp (show (Jvm.Cond.and given_1 narrow_1).before args s = true from hpre))
  obtain ⟨ga1, gb1⟩ := and_e hg
  obtain ⟨ga2, gb2⟩ := and_e gb1
  obtain ⟨ga3, gb3⟩ := and_e gb2
  obtain ⟨ga4, gb4⟩ := and_e gb3
  obtain ⟨ga5, gb5⟩ := and_e gb4
  obtain ⟨ga6, gb6⟩ := and_e gb5
  obtain ⟨w0, w1, w2, w3, w4, w5, rfl⟩ : ∃ w0 w1 w2 w3 w4 w5 : Value, args = #[w0, w1, w2, w3, w4, w5] := by
    have hs : args.size = 6 := by simpa [Cond.value, given_1] using ga1
    obtain ⟨L⟩ := args
    match L, hs with
    | [w0, w1, w2, w3, w4, w5], _ => exact ⟨w0, w1, w2, w3, w4, w5, rfl⟩
  have hw := fun d (hd : d ∈ tables_1) => atoms_spec (ws := Jvm.Cond.code x code maxLocals ret :: tables_1) hat d (List.mem_cons_of_mem _ hd)
  obtain ⟨i0, ei0⟩ := is_v ga2
  obtain rfl : w0 = (.int i0) := Option.some.inj ei0
  obtain ⟨i1, ei1⟩ := is_v ga3
  obtain rfl : w1 = (.int i1) := Option.some.inj ei1
  obtain ⟨i2, ei2⟩ := is_v ga4
  obtain rfl : w2 = (.int i2) := Option.some.inj ei2
  obtain ⟨i3, ei3⟩ := is_v ga5
  obtain rfl : w3 = (.int i3) := Option.some.inj ei3
  obtain ⟨i4, ei4⟩ := is_v ga6
  obtain rfl : w4 = (.int i4) := Option.some.inj ei4
  obtain ⟨i5, ei5⟩ := is_v gb6
  obtain rfl : w5 = (.int i5) := Option.some.inj ei5
  obtain ⟨n, o, h1, h2, h3, _, L, rfl, ⟨rfl, N⟩, hq⟩ := rm0 l s _ hw tables_1 i0 i1 i2 i3 i4 i5 s.heap s.heap.size (Nat.le_refl _)  p e ha hc hk s m _ below hf ((Spec.applies_iff_loose hf).mp happ).1 ⟨rfl, State.Warmed39.refl s, rfl⟩ trivial
  refine ⟨n, _, h1, h2, h3, hpost _ _ _ _ _ _ ⟨Cond.after_iff.mpr rfl, Cond.after_iff.mpr (eq_i res_at (Term.int_eval (1)) rfl), trivial⟩ ⟨hq.1, hq.2.1, (hq.2.2.sift fun y hy => Or.inr (N y hy)).mono (by decide) (by decide)⟩⟩
theorem main_1_1 : Claimed_1_1 := comes_1 fun _ _ _ _ _ _ h hF => ⟨h.1, hF⟩
theorem main_1_2 : Claimed_1_2 := comes_1 fun _ _ _ _ _ _ h hF => ⟨h.2.1, hF⟩
end Jvm.Pilot.@@N@@
namespace Jvm.Pilot.@@N@@
open Jvm Jvm.ClassFile Sem Op Lib Jvm.Free Jvm.Stand Jvm.Pilot.@@N@@.Jvm.D
/-! MADE BY PROGRAM (witnessworld.py) out of the Statement's table words and the real class files: 25 classes; the members and pool entries that the words name. The judged class is class 1, her method 1. -/
namespace start1
open Jvm.ClassFile
def u (s : String) : CpInfo := .utf8 (stringToUtf16 s)
/-- a pool by its gaps: so many unusable entries, then the entry; so many at the end -/
def gap : Nat → List CpInfo → List CpInfo
  | 0, r => r
  | n + 1, r => .unusable :: gap n r
def poolList (es : List (Nat × CpInfo)) (last : Nat) : List CpInfo := es.foldr (fun e r => gap e.1 (e.2 :: r)) (gap last [])
def pool (es : List (Nat × CpInfo)) (last : Nat) : Array CpInfo := ⟨poolList es last⟩
def fileOf (pool : Array CpInfo) (this : Nat) (attrs : Array Attribute := #[]) (ms : Array MethodInfo := #[]) (fl : Nat := 33) (sup : Nat := 0) (ifs : Array Nat := #[]) (fds : Array FieldInfo := #[]) : ClassFile where
  minorVersion := 0
  majorVersion := 65
  constantPool := pool
  accessFlags := fl
  thisClass := this
  superClass := sup
  interfaces := ifs
  fields := fds
  methods := ms
  attributes := attrs
def plain (name : String) (sup : Option ClassId) : Class where
  name := name
  kind := .ordinary
  loader := none
  accessFlags := 33
  super := sup
  interfaces := #[]
  cf := none
  fields := #[]
  methods := #[]
  instanceTypes := #[]
  staticTypes := #[]
  resolved := #[]
  callSites := []
  init := .initialized
  statics := none
  mirror := none

def pool0 : Array CpInfo := pool [(5, u "<init>"), (0, u "()V"), (1, .class_ 10), (1, u "java/lang/Object"), (85, u "clone"), (0, u "()Ljava/lang/Object;")] 26

def k0c0 : Code := { maxStack := 0, maxLocals := 1, code := object_method_1_code, exceptionTable := #[], attributes := #[] }
def k0m0 : Method := { name := "<init>", desc := "()V", sig := { parameters := [], returnType := none }, accessFlags := 1, code := some k0c0 }
def k0m1 : Method := { name := "clone", desc := "()Ljava/lang/Object;", sig := { parameters := [], returnType := some (.object "java/lang/Object") }, accessFlags := 260, code := none }
/-- java/lang/Object -/
def k0 : Class := { plain "java/lang/Object" none with
  accessFlags := 33
  interfaces := #[]
  cf := some (fileOf pool0 8 #[] #[{ accessFlags := 1, nameIndex := 5, descriptorIndex := 6, attributes := #[] }, { accessFlags := 260, nameIndex := 96, descriptorIndex := 97, attributes := #[] }] 33 0 #[] #[])
  fields := #[]
  methods := #[k0m0, k0m1]
  instanceTypes := #[]
  staticTypes := #[]
  resolved := Array.replicate 124 none
  statics := none }

def pool1 : Array CpInfo := pool [(2, .class_ 4), (1, u "java/lang/Object"), (0, u "<init>"), (0, u "()V"), (0, .integer 2147483647), (0, .class_ 9), (0, u "com/example/slotwright/slotwright/BoundedSimplex"), (0, .methodref 8 11), (0, .nameAndType 5 12), (0, u "([D[D[D)V"), (0, .methodref 14 15), (0, .class_ 16), (0, .nameAndType 17 18), (0, u "com/example/slotwright/slotwright/BoundedSimplexObjectivePinLaw"), (0, u "best"), (0, u "(IDD)D"), (0, .methodref 8 20), (0, .nameAndType 21 22), (0, u "objective"), (0, u "()D"), (2, u "law"), (0, u "(IIIIII)Z")] 5

def k1m0 : Method := { name := "<init>", desc := "()V", sig := { parameters := [], returnType := none }, accessFlags := 2, code := none }
def k1c1 : Code := { maxStack := 7, maxLocals := 20, code := code, exceptionTable := #[], attributes := #[] }
def k1m1 : Method := { name := "law", desc := "(IIIIII)Z", sig := { parameters := [.int, .int, .int, .int, .int, .int], returnType := some .boolean }, accessFlags := 9, code := some k1c1 }
def k1c2 : Code := { maxStack := 4, maxLocals := 9, code := method_3_code, exceptionTable := #[], attributes := #[] }
def k1m2 : Method := { name := "best", desc := "(IDD)D", sig := { parameters := [.int, .double, .double], returnType := some .double }, accessFlags := 10, code := some k1c2 }
/-- com/example/slotwright/slotwright/BoundedSimplexObjectivePinLaw -/
def k1 : Class := { plain "com/example/slotwright/slotwright/BoundedSimplexObjectivePinLaw" (some 0) with
  accessFlags := 49
  interfaces := #[]
  cf := some (fileOf pool1 14 #[] #[{ accessFlags := 2, nameIndex := 5, descriptorIndex := 6, attributes := #[] }, { accessFlags := 9, nameIndex := 25, descriptorIndex := 26, attributes := #[] }, { accessFlags := 10, nameIndex := 17, descriptorIndex := 18, attributes := #[] }] 49 2 #[] #[])
  fields := #[]
  methods := #[k1m0, k1m1, k1m2]
  instanceTypes := #[]
  staticTypes := #[]
  resolved := Array.replicate 32 none
  statics := none }

def pool2 : Array CpInfo := pool [(1, .methodref 2 3), (0, .class_ 4), (0, .nameAndType 5 6), (0, u "java/lang/Object"), (0, u "<init>"), (0, u "()V"), (0, .class_ 8), (0, u "[I"), (0, .fieldref 10 11), (0, .class_ 12), (0, .nameAndType 13 14), (0, u "com/example/slotwright/slotwright/BoundedSimplex"), (0, u "rowColumns"), (0, u "[[I"), (0, .class_ 16), (0, u "[D"), (0, .fieldref 10 18), (0, .nameAndType 19 20), (0, u "rowEntries"), (0, u "[[D"), (0, .fieldref 10 22), (0, .nameAndType 23 16), (0, u "rhs"), (0, .fieldref 10 25), (0, .nameAndType 26 16), (0, u "slack"), (0, .fieldref 10 28), (0, .nameAndType 29 16), (0, u "slackReduced"), (0, .fieldref 10 31), (0, .nameAndType 32 8), (0, u "basis"), (0, .fieldref 10 34), (0, .nameAndType 35 36), (0, u "stale"), (0, u "Z"), (0, .fieldref 10 38), (0, .nameAndType 39 16), (0, u "inverseRow"), (0, .fieldref 10 41), (0, .nameAndType 42 16), (0, u "byRow"), (0, .fieldref 10 44), (0, .nameAndType 45 16), (0, u "change"), (0, .fieldref 10 47), (0, .nameAndType 48 16), (0, u "edgeChange"), (0, .fieldref 10 50), (0, .nameAndType 51 16), (0, u "costs"), (0, .fieldref 10 53), (0, .nameAndType 54 8), (0, u "candidates"), (0, .fieldref 10 56), (0, .nameAndType 57 8), (0, u "candidateVariable"), (0, .fieldref 10 59), (0, .nameAndType 60 16), (0, u "ratios"), (0, .fieldref 10 62), (0, .nameAndType 63 16), (0, u "magnitudes"), (7, .fieldref 10 72), (0, .nameAndType 73 74), (0, u "columns"), (0, u "I"), (0, .fieldref 10 76), (0, .nameAndType 77 16), (0, u "cost"), (0, .fieldref 10 79), (0, .nameAndType 80 16), (0, u "lower"), (0, .fieldref 10 82), (0, .nameAndType 83 16), (0, u "upper"), (0, .fieldref 10 85), (0, .nameAndType 86 16), (0, u "value"), (0, .fieldref 10 88), (0, .nameAndType 89 90), (0, u "atUpper"), (0, u "[Z"), (0, .fieldref 10 92), (0, .nameAndType 93 16), (0, u "reduced"), (0, .fieldref 10 95), (0, .nameAndType 96 14), (0, u "columnRows"), (0, .fieldref 10 98), (0, .nameAndType 99 20), (0, u "columnEntries"), (0, .fieldref 10 101), (0, .nameAndType 102 8), (0, u "columnLength"), (0, .fieldref 10 104), (0, .nameAndType 105 16), (0, u "pivotRow"), (0, .fieldref 10 107), (0, .nameAndType 108 8), (0, u "flipped"), (0, .fieldref 10 110), (0, .nameAndType 111 8), (0, u "position"), (0, .fieldref 10 113), (0, .nameAndType 114 16), (0, u "edges"), (0, .fieldref 10 116), (0, .nameAndType 117 16), (0, u "weights"), (0, .methodref 119 120), (0, .class_ 121), (0, .nameAndType 122 123), (0, u "java/util/Arrays"), (0, u "fill"), (0, u "([II)V"), (0, .methodref 119 125), (0, .nameAndType 122 126), (0, u "([DD)V"), (0, .class_ 128), (0, u "com/example/slotwright/slotwright/SimplexBasis"), (0, .methodref 127 130), (0, .nameAndType 5 131), (0, u "(I[[I[[D[I)V"), (0, .fieldref 10 133), (0, .nameAndType 134 135), (0, u "factor"), (0, u "Lcom/example/slotwright/slotwright/SimplexBasis;"), (0, .methodref 10 137), (0, .nameAndType 138 139), (0, u "setBounds"), (0, u "([D[D)V"), (4, .fieldref 10 145), (0, .nameAndType 146 74), (0, u "rows"), (46, .methodref 194 195), (0, .class_ 196), (0, .nameAndType 197 198), (0, u "java/lang/Double"), (0, u "isFinite"), (0, u "(D)Z"), (128, u "flipCount"), (61, u "FEASIBLE"), (0, u "D"), (1, u "OPTIMAL"), (0, u "PIVOT"), (0, u "DRIFT"), (0, u "REFRESH"), (1, u "REFACTOR"), (1, u "TIE"), (0, u "EDGE"), (0, u "PERTURBATION"), (0, u "([D[D[D)V"), (8, u "objective"), (0, u "()D")] 23

def k2c0 : Code := { maxStack := 7, maxLocals := 5, code := prog_5_method_1_code, exceptionTable := #[], attributes := #[] }
def k2m0 : Method := { name := "<init>", desc := "([D[D[D)V", sig := { parameters := [(.array .double), (.array .double), (.array .double)], returnType := none }, accessFlags := 0, code := some k2c0 }
def k2c1 : Code := { maxStack := 7, maxLocals := 4, code := prog_5_method_7_code, exceptionTable := #[], attributes := #[] }
def k2m1 : Method := { name := "setBounds", desc := "([D[D)V", sig := { parameters := [(.array .double), (.array .double)], returnType := none }, accessFlags := 0, code := some k2c1 }
def k2c2 : Code := { maxStack := 6, maxLocals := 4, code := prog_5_method_9_code, exceptionTable := #[], attributes := #[] }
def k2m2 : Method := { name := "objective", desc := "()D", sig := { parameters := [], returnType := some .double }, accessFlags := 0, code := some k2c2 }
/-- com/example/slotwright/slotwright/BoundedSimplex -/
def k2 : Class := { plain "com/example/slotwright/slotwright/BoundedSimplex" (some 0) with
  accessFlags := 48
  interfaces := #[]
  cf := some (fileOf pool2 10 #[] #[{ accessFlags := 0, nameIndex := 5, descriptorIndex := 402, attributes := #[] }, { accessFlags := 0, nameIndex := 138, descriptorIndex := 139, attributes := #[] }, { accessFlags := 0, nameIndex := 411, descriptorIndex := 412, attributes := #[] }] 48 2 #[] #[{ accessFlags := 26, nameIndex := 389, descriptorIndex := 390, attributes := #[] }, { accessFlags := 26, nameIndex := 392, descriptorIndex := 390, attributes := #[] }, { accessFlags := 26, nameIndex := 393, descriptorIndex := 390, attributes := #[] }, { accessFlags := 26, nameIndex := 394, descriptorIndex := 390, attributes := #[] }, { accessFlags := 26, nameIndex := 395, descriptorIndex := 74, attributes := #[] }, { accessFlags := 26, nameIndex := 397, descriptorIndex := 74, attributes := #[] }, { accessFlags := 26, nameIndex := 399, descriptorIndex := 390, attributes := #[] }, { accessFlags := 26, nameIndex := 400, descriptorIndex := 390, attributes := #[] }, { accessFlags := 26, nameIndex := 401, descriptorIndex := 390, attributes := #[] }, { accessFlags := 18, nameIndex := 73, descriptorIndex := 74, attributes := #[] }, { accessFlags := 18, nameIndex := 77, descriptorIndex := 16, attributes := #[] }, { accessFlags := 18, nameIndex := 80, descriptorIndex := 16, attributes := #[] }, { accessFlags := 18, nameIndex := 83, descriptorIndex := 16, attributes := #[] }, { accessFlags := 18, nameIndex := 86, descriptorIndex := 16, attributes := #[] }, { accessFlags := 18, nameIndex := 89, descriptorIndex := 90, attributes := #[] }, { accessFlags := 18, nameIndex := 93, descriptorIndex := 16, attributes := #[] }, { accessFlags := 18, nameIndex := 96, descriptorIndex := 14, attributes := #[] }, { accessFlags := 18, nameIndex := 99, descriptorIndex := 20, attributes := #[] }, { accessFlags := 18, nameIndex := 102, descriptorIndex := 8, attributes := #[] }, { accessFlags := 2, nameIndex := 146, descriptorIndex := 74, attributes := #[] }, { accessFlags := 2, nameIndex := 13, descriptorIndex := 14, attributes := #[] }, { accessFlags := 2, nameIndex := 19, descriptorIndex := 20, attributes := #[] }, { accessFlags := 2, nameIndex := 23, descriptorIndex := 16, attributes := #[] }, { accessFlags := 2, nameIndex := 26, descriptorIndex := 16, attributes := #[] }, { accessFlags := 2, nameIndex := 29, descriptorIndex := 16, attributes := #[] }, { accessFlags := 2, nameIndex := 32, descriptorIndex := 8, attributes := #[] }, { accessFlags := 2, nameIndex := 111, descriptorIndex := 8, attributes := #[] }, { accessFlags := 18, nameIndex := 134, descriptorIndex := 135, attributes := #[] }, { accessFlags := 2, nameIndex := 35, descriptorIndex := 36, attributes := #[] }, { accessFlags := 2, nameIndex := 114, descriptorIndex := 16, attributes := #[] }, { accessFlags := 2, nameIndex := 117, descriptorIndex := 16, attributes := #[] }, { accessFlags := 18, nameIndex := 105, descriptorIndex := 16, attributes := #[] }, { accessFlags := 2, nameIndex := 39, descriptorIndex := 16, attributes := #[] }, { accessFlags := 2, nameIndex := 42, descriptorIndex := 16, attributes := #[] }, { accessFlags := 2, nameIndex := 45, descriptorIndex := 16, attributes := #[] }, { accessFlags := 2, nameIndex := 48, descriptorIndex := 16, attributes := #[] }, { accessFlags := 2, nameIndex := 51, descriptorIndex := 16, attributes := #[] }, { accessFlags := 2, nameIndex := 54, descriptorIndex := 8, attributes := #[] }, { accessFlags := 2, nameIndex := 57, descriptorIndex := 8, attributes := #[] }, { accessFlags := 2, nameIndex := 60, descriptorIndex := 16, attributes := #[] }, { accessFlags := 2, nameIndex := 63, descriptorIndex := 16, attributes := #[] }, { accessFlags := 18, nameIndex := 108, descriptorIndex := 8, attributes := #[] }, { accessFlags := 2, nameIndex := 327, descriptorIndex := 74, attributes := #[] }])
  fields := #[{ name := "FEASIBLE", type := .double, accessFlags := 26, slot := 0, constantValue := 0 }, { name := "OPTIMAL", type := .double, accessFlags := 26, slot := 1, constantValue := 0 }, { name := "PIVOT", type := .double, accessFlags := 26, slot := 2, constantValue := 0 }, { name := "DRIFT", type := .double, accessFlags := 26, slot := 3, constantValue := 0 }, { name := "REFRESH", type := .int, accessFlags := 26, slot := 4, constantValue := 0 }, { name := "REFACTOR", type := .int, accessFlags := 26, slot := 5, constantValue := 0 }, { name := "TIE", type := .double, accessFlags := 26, slot := 6, constantValue := 0 }, { name := "EDGE", type := .double, accessFlags := 26, slot := 7, constantValue := 0 }, { name := "PERTURBATION", type := .double, accessFlags := 26, slot := 8, constantValue := 0 }, { name := "columns", type := .int, accessFlags := 18, slot := 0, constantValue := 0 }, { name := "cost", type := (.array .double), accessFlags := 18, slot := 1, constantValue := 0 }, { name := "lower", type := (.array .double), accessFlags := 18, slot := 2, constantValue := 0 }, { name := "upper", type := (.array .double), accessFlags := 18, slot := 3, constantValue := 0 }, { name := "value", type := (.array .double), accessFlags := 18, slot := 4, constantValue := 0 }, { name := "atUpper", type := (.array .boolean), accessFlags := 18, slot := 5, constantValue := 0 }, { name := "reduced", type := (.array .double), accessFlags := 18, slot := 6, constantValue := 0 }, { name := "columnRows", type := (.array (.array .int)), accessFlags := 18, slot := 7, constantValue := 0 }, { name := "columnEntries", type := (.array (.array .double)), accessFlags := 18, slot := 8, constantValue := 0 }, { name := "columnLength", type := (.array .int), accessFlags := 18, slot := 9, constantValue := 0 }, { name := "rows", type := .int, accessFlags := 2, slot := 10, constantValue := 0 }, { name := "rowColumns", type := (.array (.array .int)), accessFlags := 2, slot := 11, constantValue := 0 }, { name := "rowEntries", type := (.array (.array .double)), accessFlags := 2, slot := 12, constantValue := 0 }, { name := "rhs", type := (.array .double), accessFlags := 2, slot := 13, constantValue := 0 }, { name := "slack", type := (.array .double), accessFlags := 2, slot := 14, constantValue := 0 }, { name := "slackReduced", type := (.array .double), accessFlags := 2, slot := 15, constantValue := 0 }, { name := "basis", type := (.array .int), accessFlags := 2, slot := 16, constantValue := 0 }, { name := "position", type := (.array .int), accessFlags := 2, slot := 17, constantValue := 0 }, { name := "factor", type := (.object "com/example/slotwright/slotwright/SimplexBasis"), accessFlags := 18, slot := 18, constantValue := 0 }, { name := "stale", type := .boolean, accessFlags := 2, slot := 19, constantValue := 0 }, { name := "edges", type := (.array .double), accessFlags := 2, slot := 20, constantValue := 0 }, { name := "weights", type := (.array .double), accessFlags := 2, slot := 21, constantValue := 0 }, { name := "pivotRow", type := (.array .double), accessFlags := 18, slot := 22, constantValue := 0 }, { name := "inverseRow", type := (.array .double), accessFlags := 2, slot := 23, constantValue := 0 }, { name := "byRow", type := (.array .double), accessFlags := 2, slot := 24, constantValue := 0 }, { name := "change", type := (.array .double), accessFlags := 2, slot := 25, constantValue := 0 }, { name := "edgeChange", type := (.array .double), accessFlags := 2, slot := 26, constantValue := 0 }, { name := "costs", type := (.array .double), accessFlags := 2, slot := 27, constantValue := 0 }, { name := "candidates", type := (.array .int), accessFlags := 2, slot := 28, constantValue := 0 }, { name := "candidateVariable", type := (.array .int), accessFlags := 2, slot := 29, constantValue := 0 }, { name := "ratios", type := (.array .double), accessFlags := 2, slot := 30, constantValue := 0 }, { name := "magnitudes", type := (.array .double), accessFlags := 2, slot := 31, constantValue := 0 }, { name := "flipped", type := (.array .int), accessFlags := 18, slot := 32, constantValue := 0 }, { name := "flipCount", type := .int, accessFlags := 2, slot := 33, constantValue := 0 }]
  methods := #[k2m0, k2m1, k2m2]
  instanceTypes := #[.int, (.array .double), (.array .double), (.array .double), (.array .double), (.array .boolean), (.array .double), (.array (.array .int)), (.array (.array .double)), (.array .int), .int, (.array (.array .int)), (.array (.array .double)), (.array .double), (.array .double), (.array .double), (.array .int), (.array .int), (.object "com/example/slotwright/slotwright/SimplexBasis"), .boolean, (.array .double), (.array .double), (.array .double), (.array .double), (.array .double), (.array .double), (.array .double), (.array .double), (.array .int), (.array .int), (.array .double), (.array .double), (.array .int), .int]
  staticTypes := #[.double, .double, .double, .double, .int, .int, .double, .double, .double]
  resolved := Array.replicate 436 none
  statics := none }

def pool3 : Array CpInfo := pool [(2, .class_ 4), (1, u "java/lang/Object"), (0, u "<init>"), (0, u "()V"), (7, .class_ 16), (1, u "java/util/Arrays"), (57, .class_ 76), (1, u "java/util/Arrays$NaturalOrder"), (36, .class_ 115), (1, u "java/util/Arrays$LegacyMergeSort"), (1, u "Z"), (257, .class_ 376), (0, u "java/util/Arrays$ArrayList"), (68, u "$assertionsDisabled"), (269, u "MIN_ARRAY_SORT_GRAN"), (0, u "I"), (2, u "INSERTIONSORT_THRESHOLD"), (120, u "fill"), (4, u "([II)V"), (8, u "([DD)V"), (120, .class_ 976), (0, u "java/util/Arrays$ArrayItr")] 52

def k3m0 : Method := { name := "<init>", desc := "()V", sig := { parameters := [], returnType := none }, accessFlags := 2, code := none }
def k3c1 : Code := { maxStack := 3, maxLocals := 4, code := jdk_65_method_103_code, exceptionTable := #[], attributes := #[] }
def k3m1 : Method := { name := "fill", desc := "([II)V", sig := { parameters := [(.array .int), .int], returnType := none }, accessFlags := 9, code := some k3c1 }
def k3c2 : Code := { maxStack := 4, maxLocals := 5, code := jdk_65_method_113_code, exceptionTable := #[], attributes := #[] }
def k3m2 : Method := { name := "fill", desc := "([DD)V", sig := { parameters := [(.array .double), .double], returnType := none }, accessFlags := 9, code := some k3c2 }
/-- java/util/Arrays -/
def k3 : Class := { plain "java/util/Arrays" (some 0) with
  accessFlags := 49
  interfaces := #[]
  cf := some (fileOf pool3 14 #[.nestMembers #[975, 375, 113, 74]] #[{ accessFlags := 2, nameIndex := 5, descriptorIndex := 6, attributes := #[] }, { accessFlags := 9, nameIndex := 840, descriptorIndex := 845, attributes := #[] }, { accessFlags := 9, nameIndex := 840, descriptorIndex := 854, attributes := #[] }] 49 2 #[] #[{ accessFlags := 26, nameIndex := 715, descriptorIndex := 716, attributes := #[] }, { accessFlags := 26, nameIndex := 719, descriptorIndex := 716, attributes := #[] }, { accessFlags := 4120, nameIndex := 445, descriptorIndex := 117, attributes := #[] }])
  fields := #[{ name := "MIN_ARRAY_SORT_GRAN", type := .int, accessFlags := 26, slot := 0, constantValue := 0 }, { name := "INSERTIONSORT_THRESHOLD", type := .int, accessFlags := 26, slot := 1, constantValue := 0 }, { name := "$assertionsDisabled", type := .boolean, accessFlags := 4120, slot := 2, constantValue := 0 }]
  methods := #[k3m0, k3m1, k3m2]
  instanceTypes := #[]
  staticTypes := #[.int, .int, .boolean]
  resolved := Array.replicate 1029 none
  statics := none }

def pool4 : Array CpInfo := pool [(1, .methodref 2 3), (0, .class_ 4), (0, .nameAndType 5 6), (0, u "java/lang/Object"), (0, u "<init>"), (0, u "()V"), (0, .fieldref 8 9), (0, .class_ 10), (0, .nameAndType 11 12), (0, u "com/example/slotwright/slotwright/SimplexBasis"), (0, u "positionColumn"), (0, u "[I"), (0, .fieldref 8 14), (0, .nameAndType 15 12), (0, u "positionRow"), (0, .fieldref 8 17), (0, .nameAndType 18 12), (0, u "kernelRow"), (0, .fieldref 8 20), (0, .nameAndType 21 12), (0, u "slackPosition"), (0, .fieldref 8 23), (0, .nameAndType 24 12), (0, u "kernelBasic"), (0, .fieldref 8 26), (0, .nameAndType 27 12), (0, u "kernelPosition"), (0, .fieldref 8 29), (0, .nameAndType 30 12), (0, u "kernelRowOf"), (0, .class_ 12), (0, .fieldref 8 33), (0, .nameAndType 34 35), (0, u "entryColumns"), (0, u "[[I"), (0, .class_ 37), (0, u "[D"), (0, .fieldref 8 39), (0, .nameAndType 40 41), (0, u "entryValues"), (0, u "[[D"), (0, .fieldref 8 43), (0, .nameAndType 44 35), (0, u "entryRows"), (0, .fieldref 8 46), (0, .nameAndType 47 41), (0, u "entryRowValues"), (0, .fieldref 8 49), (0, .nameAndType 50 12), (0, u "backwardRows"), (0, .fieldref 8 52), (0, .nameAndType 53 12), (0, u "backwardColumns"), (0, .fieldref 8 55), (0, .nameAndType 56 37), (0, u "backwardPivots"), (0, .fieldref 8 58), (0, .nameAndType 59 12), (0, u "forwardRows"), (0, .fieldref 8 61), (0, .nameAndType 62 12), (0, u "forwardColumns"), (0, .fieldref 8 64), (0, .nameAndType 65 37), (0, u "forwardPivots"), (0, .fieldref 8 67), (0, .nameAndType 68 12), (0, u "nucleusRows"), (0, .fieldref 8 70), (0, .nameAndType 71 12), (0, u "nucleusColumns"), (0, .class_ 73), (0, u "com/example/slotwright/slotwright/SparseLu"), (0, .methodref 72 75), (0, .nameAndType 5 76), (0, u "([[D)V"), (0, .fieldref 8 78), (0, .nameAndType 79 80), (0, u "nucleusFactors"), (0, u "Lcom/example/slotwright/slotwright/SparseLu;"), (0, .fieldref 8 82), (0, .nameAndType 83 12), (0, u "etaPositions"), (0, .fieldref 8 85), (0, .nameAndType 86 35), (0, u "etaIndex"), (0, .fieldref 8 88), (0, .nameAndType 89 41), (0, u "etaValues"), (0, .fieldref 8 91), (0, .nameAndType 92 37), (0, u "byKernelRow"), (0, .fieldref 8 94), (0, .nameAndType 95 37), (0, u "byKernelColumn"), (0, .fieldref 8 97), (0, .nameAndType 98 37), (0, u "byPositionWork"), (0, .fieldref 8 100), (0, .nameAndType 101 12), (0, u "nucleusColumn"), (0, .fieldref 8 103), (0, .nameAndType 104 12), (0, u "nucleusRow"), (0, .fieldref 8 106), (0, .nameAndType 107 108), (0, u "columns"), (0, u "I"), (0, .fieldref 8 110), (0, .nameAndType 111 35), (0, u "columnRows"), (0, .fieldref 8 113), (0, .nameAndType 114 41), (0, u "columnEntries"), (0, .fieldref 8 116), (0, .nameAndType 117 12), (0, u "columnLength"), (2, u "etas"), (2, u "rows"), (8, u "kernel"), (18, u "forward"), (2, u "backward"), (66, u "SINGULAR"), (0, u "D"), (1, u "DROP"), (0, u "(I[[I[[D[I)V")] 15

def k4c0 : Code := { maxStack := 4, maxLocals := 5, code := prog_35_method_1_code, exceptionTable := #[], attributes := #[] }
def k4m0 : Method := { name := "<init>", desc := "(I[[I[[D[I)V", sig := { parameters := [.int, (.array (.array .int)), (.array (.array .double)), (.array .int)], returnType := none }, accessFlags := 0, code := some k4c0 }
/-- com/example/slotwright/slotwright/SimplexBasis -/
def k4 : Class := { plain "com/example/slotwright/slotwright/SimplexBasis" (some 0) with
  accessFlags := 48
  interfaces := #[]
  cf := some (fileOf pool4 8 #[] #[{ accessFlags := 0, nameIndex := 5, descriptorIndex := 225, attributes := #[] }] 48 2 #[] #[{ accessFlags := 26, nameIndex := 221, descriptorIndex := 222, attributes := #[] }, { accessFlags := 26, nameIndex := 224, descriptorIndex := 222, attributes := #[] }, { accessFlags := 18, nameIndex := 107, descriptorIndex := 108, attributes := #[] }, { accessFlags := 18, nameIndex := 111, descriptorIndex := 35, attributes := #[] }, { accessFlags := 18, nameIndex := 114, descriptorIndex := 41, attributes := #[] }, { accessFlags := 18, nameIndex := 117, descriptorIndex := 12, attributes := #[] }, { accessFlags := 2, nameIndex := 123, descriptorIndex := 108, attributes := #[] }, { accessFlags := 2, nameIndex := 11, descriptorIndex := 12, attributes := #[] }, { accessFlags := 2, nameIndex := 15, descriptorIndex := 12, attributes := #[] }, { accessFlags := 2, nameIndex := 18, descriptorIndex := 12, attributes := #[] }, { accessFlags := 2, nameIndex := 21, descriptorIndex := 12, attributes := #[] }, { accessFlags := 2, nameIndex := 132, descriptorIndex := 108, attributes := #[] }, { accessFlags := 2, nameIndex := 24, descriptorIndex := 12, attributes := #[] }, { accessFlags := 2, nameIndex := 27, descriptorIndex := 12, attributes := #[] }, { accessFlags := 2, nameIndex := 30, descriptorIndex := 12, attributes := #[] }, { accessFlags := 2, nameIndex := 34, descriptorIndex := 35, attributes := #[] }, { accessFlags := 2, nameIndex := 40, descriptorIndex := 41, attributes := #[] }, { accessFlags := 2, nameIndex := 44, descriptorIndex := 35, attributes := #[] }, { accessFlags := 2, nameIndex := 47, descriptorIndex := 41, attributes := #[] }, { accessFlags := 2, nameIndex := 50, descriptorIndex := 12, attributes := #[] }, { accessFlags := 2, nameIndex := 53, descriptorIndex := 12, attributes := #[] }, { accessFlags := 2, nameIndex := 56, descriptorIndex := 37, attributes := #[] }, { accessFlags := 2, nameIndex := 154, descriptorIndex := 108, attributes := #[] }, { accessFlags := 2, nameIndex := 59, descriptorIndex := 12, attributes := #[] }, { accessFlags := 2, nameIndex := 62, descriptorIndex := 12, attributes := #[] }, { accessFlags := 2, nameIndex := 65, descriptorIndex := 37, attributes := #[] }, { accessFlags := 2, nameIndex := 151, descriptorIndex := 108, attributes := #[] }, { accessFlags := 2, nameIndex := 68, descriptorIndex := 12, attributes := #[] }, { accessFlags := 2, nameIndex := 71, descriptorIndex := 12, attributes := #[] }, { accessFlags := 2, nameIndex := 79, descriptorIndex := 80, attributes := #[] }, { accessFlags := 2, nameIndex := 120, descriptorIndex := 108, attributes := #[] }, { accessFlags := 2, nameIndex := 83, descriptorIndex := 12, attributes := #[] }, { accessFlags := 2, nameIndex := 86, descriptorIndex := 35, attributes := #[] }, { accessFlags := 2, nameIndex := 89, descriptorIndex := 41, attributes := #[] }, { accessFlags := 2, nameIndex := 92, descriptorIndex := 37, attributes := #[] }, { accessFlags := 2, nameIndex := 95, descriptorIndex := 37, attributes := #[] }, { accessFlags := 2, nameIndex := 98, descriptorIndex := 37, attributes := #[] }, { accessFlags := 2, nameIndex := 101, descriptorIndex := 12, attributes := #[] }, { accessFlags := 2, nameIndex := 104, descriptorIndex := 12, attributes := #[] }])
  fields := #[{ name := "SINGULAR", type := .double, accessFlags := 26, slot := 0, constantValue := 0 }, { name := "DROP", type := .double, accessFlags := 26, slot := 1, constantValue := 0 }, { name := "columns", type := .int, accessFlags := 18, slot := 0, constantValue := 0 }, { name := "columnRows", type := (.array (.array .int)), accessFlags := 18, slot := 1, constantValue := 0 }, { name := "columnEntries", type := (.array (.array .double)), accessFlags := 18, slot := 2, constantValue := 0 }, { name := "columnLength", type := (.array .int), accessFlags := 18, slot := 3, constantValue := 0 }, { name := "rows", type := .int, accessFlags := 2, slot := 4, constantValue := 0 }, { name := "positionColumn", type := (.array .int), accessFlags := 2, slot := 5, constantValue := 0 }, { name := "positionRow", type := (.array .int), accessFlags := 2, slot := 6, constantValue := 0 }, { name := "kernelRow", type := (.array .int), accessFlags := 2, slot := 7, constantValue := 0 }, { name := "slackPosition", type := (.array .int), accessFlags := 2, slot := 8, constantValue := 0 }, { name := "kernel", type := .int, accessFlags := 2, slot := 9, constantValue := 0 }, { name := "kernelBasic", type := (.array .int), accessFlags := 2, slot := 10, constantValue := 0 }, { name := "kernelPosition", type := (.array .int), accessFlags := 2, slot := 11, constantValue := 0 }, { name := "kernelRowOf", type := (.array .int), accessFlags := 2, slot := 12, constantValue := 0 }, { name := "entryColumns", type := (.array (.array .int)), accessFlags := 2, slot := 13, constantValue := 0 }, { name := "entryValues", type := (.array (.array .double)), accessFlags := 2, slot := 14, constantValue := 0 }, { name := "entryRows", type := (.array (.array .int)), accessFlags := 2, slot := 15, constantValue := 0 }, { name := "entryRowValues", type := (.array (.array .double)), accessFlags := 2, slot := 16, constantValue := 0 }, { name := "backwardRows", type := (.array .int), accessFlags := 2, slot := 17, constantValue := 0 }, { name := "backwardColumns", type := (.array .int), accessFlags := 2, slot := 18, constantValue := 0 }, { name := "backwardPivots", type := (.array .double), accessFlags := 2, slot := 19, constantValue := 0 }, { name := "backward", type := .int, accessFlags := 2, slot := 20, constantValue := 0 }, { name := "forwardRows", type := (.array .int), accessFlags := 2, slot := 21, constantValue := 0 }, { name := "forwardColumns", type := (.array .int), accessFlags := 2, slot := 22, constantValue := 0 }, { name := "forwardPivots", type := (.array .double), accessFlags := 2, slot := 23, constantValue := 0 }, { name := "forward", type := .int, accessFlags := 2, slot := 24, constantValue := 0 }, { name := "nucleusRows", type := (.array .int), accessFlags := 2, slot := 25, constantValue := 0 }, { name := "nucleusColumns", type := (.array .int), accessFlags := 2, slot := 26, constantValue := 0 }, { name := "nucleusFactors", type := (.object "com/example/slotwright/slotwright/SparseLu"), accessFlags := 2, slot := 27, constantValue := 0 }, { name := "etas", type := .int, accessFlags := 2, slot := 28, constantValue := 0 }, { name := "etaPositions", type := (.array .int), accessFlags := 2, slot := 29, constantValue := 0 }, { name := "etaIndex", type := (.array (.array .int)), accessFlags := 2, slot := 30, constantValue := 0 }, { name := "etaValues", type := (.array (.array .double)), accessFlags := 2, slot := 31, constantValue := 0 }, { name := "byKernelRow", type := (.array .double), accessFlags := 2, slot := 32, constantValue := 0 }, { name := "byKernelColumn", type := (.array .double), accessFlags := 2, slot := 33, constantValue := 0 }, { name := "byPositionWork", type := (.array .double), accessFlags := 2, slot := 34, constantValue := 0 }, { name := "nucleusColumn", type := (.array .int), accessFlags := 2, slot := 35, constantValue := 0 }, { name := "nucleusRow", type := (.array .int), accessFlags := 2, slot := 36, constantValue := 0 }]
  methods := #[k4m0]
  instanceTypes := #[.int, (.array (.array .int)), (.array (.array .double)), (.array .int), .int, (.array .int), (.array .int), (.array .int), (.array .int), .int, (.array .int), (.array .int), (.array .int), (.array (.array .int)), (.array (.array .double)), (.array (.array .int)), (.array (.array .double)), (.array .int), (.array .int), (.array .double), .int, (.array .int), (.array .int), (.array .double), .int, (.array .int), (.array .int), (.object "com/example/slotwright/slotwright/SparseLu"), .int, (.array .int), (.array (.array .int)), (.array (.array .double)), (.array .double), (.array .double), (.array .double), (.array .int), (.array .int)]
  staticTypes := #[.double, .double]
  resolved := Array.replicate 241 none
  statics := none }

def pool5 : Array CpInfo := pool [(1, .methodref 2 3), (0, .class_ 4), (0, .nameAndType 5 6), (0, u "java/lang/Object"), (0, u "<init>"), (0, u "()V"), (0, .fieldref 8 9), (0, .class_ 10), (0, .nameAndType 11 12), (0, u "com/example/slotwright/slotwright/SparseLu"), (0, u "size"), (0, u "I"), (0, .fieldref 8 14), (0, .nameAndType 15 16), (0, u "pivotRows"), (0, u "[I"), (0, .fieldref 8 18), (0, .nameAndType 19 16), (0, u "pivotColumns"), (0, .class_ 16), (0, .fieldref 8 22), (0, .nameAndType 23 24), (0, u "lowerRows"), (0, u "[[I"), (0, .class_ 26), (0, u "[D"), (0, .fieldref 8 28), (0, .nameAndType 29 30), (0, u "lowerFactors"), (0, u "[[D"), (0, .fieldref 8 32), (0, .nameAndType 33 24), (0, u "upperColumns"), (0, .fieldref 8 35), (0, .nameAndType 36 30), (0, u "upperValues"), (0, .fieldref 8 38), (0, .nameAndType 39 26), (0, u "pivots"), (4, .methodref 20 45), (0, .nameAndType 46 47), (0, u "clone"), (0, u "()Ljava/lang/Object;"), (0, .class_ 49), (0, u "[[Z"), (10, .double 4442235333156365461), (31, u "THRESHOLD"), (0, u "D"), (1, u "SEARCHED"), (1, u "SINGULAR_MATRIX"), (0, u "Ljava/lang/String;"), (0, u "SINGULAR"), (0, u "([[D)V")] 12

def k5c0 : Code := { maxStack := 8, maxLocals := 28, code := prog_36_method_1_code, exceptionTable := #[], attributes := #[] }
def k5m0 : Method := { name := "<init>", desc := "([[D)V", sig := { parameters := [(.array (.array .double))], returnType := none }, accessFlags := 0, code := some k5c0 }
/-- com/example/slotwright/slotwright/SparseLu -/
def k5 : Class := { plain "com/example/slotwright/slotwright/SparseLu" (some 0) with
  accessFlags := 48
  interfaces := #[]
  cf := some (fileOf pool5 8 #[] #[{ accessFlags := 0, nameIndex := 5, descriptorIndex := 100, attributes := #[] }] 48 2 #[] #[{ accessFlags := 26, nameIndex := 92, descriptorIndex := 93, attributes := #[] }, { accessFlags := 26, nameIndex := 95, descriptorIndex := 12, attributes := #[] }, { accessFlags := 26, nameIndex := 97, descriptorIndex := 98, attributes := #[] }, { accessFlags := 26, nameIndex := 99, descriptorIndex := 93, attributes := #[] }, { accessFlags := 18, nameIndex := 11, descriptorIndex := 12, attributes := #[] }, { accessFlags := 18, nameIndex := 15, descriptorIndex := 16, attributes := #[] }, { accessFlags := 18, nameIndex := 19, descriptorIndex := 16, attributes := #[] }, { accessFlags := 18, nameIndex := 23, descriptorIndex := 24, attributes := #[] }, { accessFlags := 18, nameIndex := 29, descriptorIndex := 30, attributes := #[] }, { accessFlags := 18, nameIndex := 33, descriptorIndex := 24, attributes := #[] }, { accessFlags := 18, nameIndex := 36, descriptorIndex := 30, attributes := #[] }, { accessFlags := 18, nameIndex := 39, descriptorIndex := 26, attributes := #[] }])
  fields := #[{ name := "THRESHOLD", type := .double, accessFlags := 26, slot := 0, constantValue := 0 }, { name := "SEARCHED", type := .int, accessFlags := 26, slot := 1, constantValue := 0 }, { name := "SINGULAR_MATRIX", type := (.object "java/lang/String"), accessFlags := 26, slot := 2, constantValue := 0 }, { name := "SINGULAR", type := .double, accessFlags := 26, slot := 3, constantValue := 0 }, { name := "size", type := .int, accessFlags := 18, slot := 0, constantValue := 0 }, { name := "pivotRows", type := (.array .int), accessFlags := 18, slot := 1, constantValue := 0 }, { name := "pivotColumns", type := (.array .int), accessFlags := 18, slot := 2, constantValue := 0 }, { name := "lowerRows", type := (.array (.array .int)), accessFlags := 18, slot := 3, constantValue := 0 }, { name := "lowerFactors", type := (.array (.array .double)), accessFlags := 18, slot := 4, constantValue := 0 }, { name := "upperColumns", type := (.array (.array .int)), accessFlags := 18, slot := 5, constantValue := 0 }, { name := "upperValues", type := (.array (.array .double)), accessFlags := 18, slot := 6, constantValue := 0 }, { name := "pivots", type := (.array .double), accessFlags := 18, slot := 7, constantValue := 0 }]
  methods := #[k5m0]
  instanceTypes := #[.int, (.array .int), (.array .int), (.array (.array .int)), (.array (.array .double)), (.array (.array .int)), (.array (.array .double)), (.array .double)]
  staticTypes := #[.double, .int, (.object "java/lang/String"), .double]
  resolved := Array.replicate 113 none
  statics := none }

def pool6 : Array CpInfo := pool [(1, .class_ 2), (0, u "java/lang/Cloneable"), (0, .class_ 4), (0, u "java/lang/Object")] 2

/-- java/lang/Cloneable -/
def k6 : Class := { plain "java/lang/Cloneable" (some 0) with
  accessFlags := 1537
  interfaces := #[]
  cf := some (fileOf pool6 1 #[] #[] 1537 3 #[] #[])
  fields := #[]
  methods := #[]
  instanceTypes := #[]
  staticTypes := #[]
  resolved := Array.replicate 7 none
  statics := none }

def pool7 : Array CpInfo := pool [(1, .class_ 2), (0, u "java/io/Serializable"), (0, .class_ 4), (0, u "java/lang/Object")] 2

/-- java/io/Serializable -/
def k7 : Class := { plain "java/io/Serializable" (some 0) with
  accessFlags := 1537
  interfaces := #[]
  cf := some (fileOf pool7 1 #[] #[] 1537 3 #[] #[])
  fields := #[]
  methods := #[]
  instanceTypes := #[]
  staticTypes := #[]
  resolved := Array.replicate 7 none
  statics := none }

def pool8 : Array CpInfo := pool [(2, .class_ 4), (1, u "java/lang/Object"), (0, u "<init>"), (0, u "()V"), (1, .class_ 10), (1, u "java/lang/Number"), (2, .class_ 14), (0, u "java/io/Serializable"), (0, u "serialVersionUID"), (0, u "J")] 20

def k8m0 : Method := { name := "<init>", desc := "()V", sig := { parameters := [], returnType := none }, accessFlags := 1, code := none }
/-- java/lang/Number -/
def k8 : Class := { plain "java/lang/Number" (some 0) with
  accessFlags := 1057
  interfaces := #[7]
  cf := some (fileOf pool8 8 #[] #[{ accessFlags := 1, nameIndex := 5, descriptorIndex := 6, attributes := #[] }] 1057 2 #[13] #[{ accessFlags := 26, nameIndex := 15, descriptorIndex := 16, attributes := #[] }])
  fields := #[{ name := "serialVersionUID", type := .long, accessFlags := 26, slot := 0, constantValue := 0 }]
  methods := #[k8m0]
  instanceTypes := #[]
  staticTypes := #[.long]
  resolved := Array.replicate 37 none
  statics := none }

def pool9 : Array CpInfo := pool [(1, .class_ 2), (0, u "java/lang/Comparable"), (0, .class_ 4), (0, u "java/lang/Object")] 7

/-- java/lang/Comparable -/
def k9 : Class := { plain "java/lang/Comparable" (some 0) with
  accessFlags := 1537
  interfaces := #[]
  cf := some (fileOf pool9 1 #[] #[] 1537 3 #[] #[])
  fields := #[]
  methods := #[]
  instanceTypes := #[]
  staticTypes := #[]
  resolved := Array.replicate 12 none
  statics := none }

def pool10 : Array CpInfo := pool [(1, .class_ 2), (0, u "java/lang/constant/Constable"), (0, .class_ 4), (0, u "java/lang/Object")] 6

/-- java/lang/constant/Constable -/
def k10 : Class := { plain "java/lang/constant/Constable" (some 0) with
  accessFlags := 1537
  interfaces := #[]
  cf := some (fileOf pool10 1 #[] #[] 1537 3 #[] #[])
  fields := #[]
  methods := #[]
  instanceTypes := #[]
  staticTypes := #[]
  resolved := Array.replicate 11 none
  statics := none }

def pool11 : Array CpInfo := pool [(1, .class_ 2), (0, u "java/lang/constant/ConstantDesc"), (0, .class_ 4), (0, u "java/lang/Object")] 32

/-- java/lang/constant/ConstantDesc -/
def k11 : Class := { plain "java/lang/constant/ConstantDesc" (some 0) with
  accessFlags := 1537
  interfaces := #[]
  cf := some (fileOf pool11 1 #[] #[] 1537 3 #[] #[])
  fields := #[]
  methods := #[]
  instanceTypes := #[]
  staticTypes := #[]
  resolved := Array.replicate 37 none
  statics := none }

def pool12 : Array CpInfo := pool [(1, .class_ 2), (0, u "java/lang/Double"), (10, u "isFinite"), (0, u "(D)Z"), (8, .class_ 25), (1, u "java/lang/Math"), (12, .methodref 23 39), (0, .nameAndType 40 41), (0, u "abs"), (0, u "(D)D"), (69, .double 9218868437227405311), (2, .class_ 116), (1, u "java/lang/Number"), (3, u "value"), (0, u "D"), (51, u "TYPE"), (0, u "Ljava/lang/Class;"), (0, .class_ 176), (0, u "java/lang/Comparable"), (0, .class_ 178), (0, u "java/lang/constant/Constable"), (0, .class_ 180), (0, u "java/lang/constant/ConstantDesc"), (0, u "POSITIVE_INFINITY"), (3, u "NEGATIVE_INFINITY"), (2, u "NaN"), (2, u "MAX_VALUE"), (0, u "MIN_NORMAL"), (0, u "MIN_VALUE"), (2, u "SIZE"), (0, u "I"), (1, u "PRECISION"), (1, u "MAX_EXPONENT"), (1, u "MIN_EXPONENT"), (1, u "BYTES"), (3, u "serialVersionUID"), (0, u "J")] 79

def k12c0 : Code := { maxStack := 4, maxLocals := 2, code := jdk_117_method_8_code, exceptionTable := #[], attributes := #[] }
def k12m0 : Method := { name := "isFinite", desc := "(D)Z", sig := { parameters := [.double], returnType := some .boolean }, accessFlags := 9, code := some k12c0 }
/-- java/lang/Double -/
def k12 : Class := { plain "java/lang/Double" (some 8) with
  accessFlags := 49
  interfaces := #[9, 10, 11]
  cf := some (fileOf pool12 1 #[] #[{ accessFlags := 9, nameIndex := 13, descriptorIndex := 14, attributes := #[] }] 49 114 #[175, 177, 179] #[{ accessFlags := 25, nameIndex := 181, descriptorIndex := 121, attributes := #[] }, { accessFlags := 25, nameIndex := 185, descriptorIndex := 121, attributes := #[] }, { accessFlags := 25, nameIndex := 188, descriptorIndex := 121, attributes := #[] }, { accessFlags := 25, nameIndex := 191, descriptorIndex := 121, attributes := #[] }, { accessFlags := 25, nameIndex := 192, descriptorIndex := 121, attributes := #[] }, { accessFlags := 25, nameIndex := 193, descriptorIndex := 121, attributes := #[] }, { accessFlags := 25, nameIndex := 196, descriptorIndex := 197, attributes := #[] }, { accessFlags := 25, nameIndex := 199, descriptorIndex := 197, attributes := #[] }, { accessFlags := 25, nameIndex := 201, descriptorIndex := 197, attributes := #[] }, { accessFlags := 25, nameIndex := 203, descriptorIndex := 197, attributes := #[] }, { accessFlags := 25, nameIndex := 205, descriptorIndex := 197, attributes := #[] }, { accessFlags := 25, nameIndex := 173, descriptorIndex := 174, attributes := #[] }, { accessFlags := 18, nameIndex := 120, descriptorIndex := 121, attributes := #[] }, { accessFlags := 26, nameIndex := 209, descriptorIndex := 210, attributes := #[] }])
  fields := #[{ name := "POSITIVE_INFINITY", type := .double, accessFlags := 25, slot := 0, constantValue := 0 }, { name := "NEGATIVE_INFINITY", type := .double, accessFlags := 25, slot := 1, constantValue := 0 }, { name := "NaN", type := .double, accessFlags := 25, slot := 2, constantValue := 0 }, { name := "MAX_VALUE", type := .double, accessFlags := 25, slot := 3, constantValue := 0 }, { name := "MIN_NORMAL", type := .double, accessFlags := 25, slot := 4, constantValue := 0 }, { name := "MIN_VALUE", type := .double, accessFlags := 25, slot := 5, constantValue := 0 }, { name := "SIZE", type := .int, accessFlags := 25, slot := 6, constantValue := 0 }, { name := "PRECISION", type := .int, accessFlags := 25, slot := 7, constantValue := 0 }, { name := "MAX_EXPONENT", type := .int, accessFlags := 25, slot := 8, constantValue := 0 }, { name := "MIN_EXPONENT", type := .int, accessFlags := 25, slot := 9, constantValue := 0 }, { name := "BYTES", type := .int, accessFlags := 25, slot := 10, constantValue := 0 }, { name := "TYPE", type := (.object "java/lang/Class"), accessFlags := 25, slot := 11, constantValue := 0 }, { name := "value", type := .double, accessFlags := 18, slot := 0, constantValue := 0 }, { name := "serialVersionUID", type := .long, accessFlags := 26, slot := 12, constantValue := 0 }]
  methods := #[k12m0]
  instanceTypes := #[.double]
  staticTypes := #[.double, .double, .double, .double, .double, .double, .int, .int, .int, .int, .int, (.object "java/lang/Class"), .long]
  resolved := Array.replicate 290 none
  statics := none }

def pool13 : Array CpInfo := pool [(1, .class_ 2), (0, u "java/lang/Math"), (1, .class_ 6), (1, u "java/lang/Object"), (0, u "<init>"), (0, u "()V"), (5, u "(D)D"), (83, .class_ 100), (1, u "java/lang/Math$RandomNumberGeneratorHolder"), (23, u "abs"), (47, u "negativeZeroFloatBits"), (0, u "J"), (2, u "negativeZeroDoubleBits"), (68, u "$assertionsDisabled"), (0, u "Z"), (91, u "twoToTheDoubleScaleDown"), (0, u "D"), (4, u "twoToTheDoubleScaleUp"), (9, u "E"), (3, u "PI"), (2, u "TAU"), (2, u "DEGREES_TO_RADIANS"), (0, u "RADIANS_TO_DEGREES")] 94

def k13m0 : Method := { name := "<init>", desc := "()V", sig := { parameters := [], returnType := none }, accessFlags := 2, code := none }
def k13c1 : Code := { maxStack := 4, maxLocals := 2, code := jdk_29_method_64_code, exceptionTable := #[], attributes := #[] }
def k13m1 : Method := { name := "abs", desc := "(D)D", sig := { parameters := [.double], returnType := some .double }, accessFlags := 9, code := some k13c1 }
/-- java/lang/Math -/
def k13 : Class := { plain "java/lang/Math" (some 0) with
  accessFlags := 49
  interfaces := #[]
  cf := some (fileOf pool13 1 #[.nestMembers #[98]] #[{ accessFlags := 2, nameIndex := 7, descriptorIndex := 8, attributes := #[] }, { accessFlags := 9, nameIndex := 124, descriptorIndex := 14, attributes := #[] }] 49 4 #[] #[{ accessFlags := 25, nameIndex := 354, descriptorIndex := 339, attributes := #[] }, { accessFlags := 25, nameIndex := 358, descriptorIndex := 339, attributes := #[] }, { accessFlags := 25, nameIndex := 361, descriptorIndex := 339, attributes := #[] }, { accessFlags := 26, nameIndex := 364, descriptorIndex := 339, attributes := #[] }, { accessFlags := 26, nameIndex := 365, descriptorIndex := 339, attributes := #[] }, { accessFlags := 26, nameIndex := 172, descriptorIndex := 173, attributes := #[] }, { accessFlags := 26, nameIndex := 176, descriptorIndex := 173, attributes := #[] }, { accessFlags := 8, nameIndex := 344, descriptorIndex := 339, attributes := #[] }, { accessFlags := 8, nameIndex := 338, descriptorIndex := 339, attributes := #[] }, { accessFlags := 4120, nameIndex := 245, descriptorIndex := 246, attributes := #[] }])
  fields := #[{ name := "E", type := .double, accessFlags := 25, slot := 0, constantValue := 0 }, { name := "PI", type := .double, accessFlags := 25, slot := 1, constantValue := 0 }, { name := "TAU", type := .double, accessFlags := 25, slot := 2, constantValue := 0 }, { name := "DEGREES_TO_RADIANS", type := .double, accessFlags := 26, slot := 3, constantValue := 0 }, { name := "RADIANS_TO_DEGREES", type := .double, accessFlags := 26, slot := 4, constantValue := 0 }, { name := "negativeZeroFloatBits", type := .long, accessFlags := 26, slot := 5, constantValue := 0 }, { name := "negativeZeroDoubleBits", type := .long, accessFlags := 26, slot := 6, constantValue := 0 }, { name := "twoToTheDoubleScaleUp", type := .double, accessFlags := 8, slot := 7, constantValue := 0 }, { name := "twoToTheDoubleScaleDown", type := .double, accessFlags := 8, slot := 8, constantValue := 0 }, { name := "$assertionsDisabled", type := .boolean, accessFlags := 4120, slot := 9, constantValue := 0 }]
  methods := #[k13m0, k13m1]
  instanceTypes := #[]
  staticTypes := #[.double, .double, .double, .double, .double, .long, .long, .double, .double, .boolean]
  resolved := Array.replicate 460 none
  statics := none }

/-- the primitive boolean -/
def k14 : Class := { plain "boolean" none with kind := .primitive 'Z', accessFlags := 0x411 }
/-- [Z -/
def k15 : Class := { plain "[Z" (some 0) with kind := .array 14 .boolean, interfaces := #[6, 7], accessFlags := 1041 }

/-- the primitive byte -/
def k16 : Class := { plain "byte" none with kind := .primitive 'B', accessFlags := 0x411 }
/-- [B -/
def k17 : Class := { plain "[B" (some 0) with kind := .array 16 .byte, interfaces := #[6, 7], accessFlags := 1041 }

/-- the primitive double -/
def k18 : Class := { plain "double" none with kind := .primitive 'D', accessFlags := 0x411 }
/-- [D -/
def k19 : Class := { plain "[D" (some 0) with kind := .array 18 .double, interfaces := #[6, 7], accessFlags := 1041 }

/-- the primitive int -/
def k20 : Class := { plain "int" none with kind := .primitive 'I', accessFlags := 0x411 }
/-- [I -/
def k21 : Class := { plain "[I" (some 0) with kind := .array 20 .int, interfaces := #[6, 7], accessFlags := 1041 }

/-- [[Z -/
def k22 : Class := { plain "[[Z" (some 0) with kind := .array 15 (.array .boolean), interfaces := #[6, 7], accessFlags := 1041 }

/-- [[D -/
def k23 : Class := { plain "[[D" (some 0) with kind := .array 19 (.array .double), interfaces := #[6, 7], accessFlags := 1041 }

/-- [[I -/
def k24 : Class := { plain "[[I" (some 0) with kind := .array 21 (.array .int), interfaces := #[6, 7], accessFlags := 1041 }

def heap : Heap := #[]
def classes : Array Class := #[k0, k1, k2, k3, k4, k5, k6, k7, k8, k9, k10, k11, k12, k13, k14, k15, k16, k17, k18, k19, k20, k21, k22, k23, k24]
def interned : List (Array UInt16 × Addr) := []
def slotsUsed : Nat := 0
def theMethod : MethodId := ⟨1, 1⟩
def args0 : Array Value := #[.int 3, .int 4, .int 5, .int 6, .int 7, .int 8]
def aboutOver (below : List Frame) : State where
  vm := { classes := classes, interned := interned.toArray }
  heap := heap
  slotsUsed := slotsUsed
  threads := #[{ frames := .invoking theMethod args0 :: below }]
def below0 : List Frame := [.native { method := ⟨0, 0⟩, args := #[] }]
def about1 : State := aboutOver below0
def p0 : Program := .bare "" "" ""
def e0 : Env := launch0.env 0 0 0
theorem w_frames : about1.frames = Frame.invoking theMethod args0 :: below0 := rfl
set_option maxRecDepth 65536 in
theorem w_args : argsFit about1.vm theMethod args0 = true := by decide +kernel
set_option maxRecDepth 65536 in
theorem w_heap : heapFits about1 = true := by decide +kernel
set_option maxRecDepth 65536 in
theorem w_runnable : about1.curStatus? = some .runnable := by decide +kernel
set_option maxRecDepth 65536 in
theorem w_alone : about1.alone = true := by decide +kernel
set_option maxRecDepth 65536 in
theorem w_named : about1.methodNamed? x = some theMethod := by decide +kernel
set_option maxRecDepth 65536 in
theorem w_hears : about1.hears theMethod below0 = true := by decide +kernel
set_option maxRecDepth 65536 in
theorem w_ripe : about1.ripe theMethod args0 below0 = true := by decide +kernel
theorem w_running : about1.status = .running := rfl
set_option maxRecDepth 65536 in
theorem w_room : about1.hasRoom e0.platform room_1 = true :=
  launch0.hasRoom_least _ room_1 (by decide +kernel) (by decide +kernel) (by decide +kernel) (by decide +kernel) (by decide +kernel) (by decide +kernel)
theorem allAtoms_all (ts : List Jvm.Cond) (a : Array Jvm.Value) (st : Jvm.State) : (allAtoms ts).before a st = ts.all (fun c => c.before a st) := by
  induction ts with
  | nil => rfl
  | cons c t ih =>
    show (Jvm.Cond.and c (allAtoms t)).before a st = _
    rw [Jvm.Cond.before_and, ih, List.all_cons]
def words1 : List Jvm.Cond := Jvm.Cond.code x code maxLocals ret :: tables_1
/-- a 'code' word, met by the world's own term for the bytes: nothing is compared byte by byte -/
theorem code_word {y : MethodName} {bytes : ByteArray} {mx : Nat} {rt : Option FieldType} {a : Array Value} {s : State} {m : MethodId} {meth : Method} {c : Code} (h1 : s.methodNamed? y = some m) (h2 : s.vm.method? m = some meth) (h3 : meth.code = some c) (h4 : c.code = bytes)
    (h5 : (c.maxLocals == mx && c.exceptionTable.isEmpty && decide (c.maxStack ≤ mostOperands) && decide (meth.sig.returnType = rt) && !meth.locks && decide (parseMethodDescriptor y.desc = some meth.sig)) = true) : (Jvm.Cond.code y bytes mx rt).before a s = true := by
  simp only [Bool.and_eq_true, beq_iff_eq, Bool.not_eq_true', decide_eq_true_eq] at h5
  obtain ⟨⟨⟨⟨⟨g1, g2⟩, g3⟩, g4⟩, g5⟩, g6⟩ := h5
  simp [Cond.before, Cond.holds, Cond.value, h1, h2, h3, h4, g1, g2, g3, g4, g5, g6]
def isCode : Jvm.Cond → Bool
  | .code _ _ _ _ => true
  | _ => false
theorem all_split {L : List Jvm.Cond} {P : Jvm.Cond → Bool} (h1 : L.all (fun c => isCode c || P c) = true) (h2 : ∀ c ∈ L.filter isCode, P c = true) : L.all P = true := by
  refine List.all_eq_true.mpr fun c hc => ?_
  have h := List.all_eq_true.mp h1 c hc
  rcases Bool.eq_false_or_eq_true (isCode c) with hi | hi
  · exact h2 c (List.mem_filter.mpr ⟨hc, hi⟩)
  · simpa [hi] using h
set_option maxRecDepth 65536 in
theorem w_c0 : (Jvm.Cond.code x code maxLocals ret).before args0 about1 = true := code_word (m := ⟨1, 1⟩) (meth := k1m1) (c := k1c1) (by decide +kernel) rfl rfl rfl (by decide +kernel)
set_option maxRecDepth 65536 in
theorem w_c1 : (Jvm.Cond.code ({ cls := "com/example/slotwright/slotwright/BoundedSimplex", name := "<init>", desc := "([D[D[D)V" } : Jvm.MethodName) prog_5_method_1_code (5 : Nat) (Option.none : Option Jvm.ClassFile.FieldType)).before args0 about1 = true := code_word (m := ⟨2, 0⟩) (meth := k2m0) (c := k2c0) (by decide +kernel) rfl rfl rfl (by decide +kernel)
set_option maxRecDepth 65536 in
theorem w_c2 : (Jvm.Cond.code ({ cls := "java/lang/Object", name := "<init>", desc := "()V" } : Jvm.MethodName) object_method_1_code (1 : Nat) (Option.none : Option Jvm.ClassFile.FieldType)).before args0 about1 = true := code_word (m := ⟨0, 0⟩) (meth := k0m0) (c := k0c0) (by decide +kernel) rfl rfl rfl (by decide +kernel)
set_option maxRecDepth 65536 in
theorem w_c3 : (Jvm.Cond.code ({ cls := "java/util/Arrays", name := "fill", desc := "([II)V" } : Jvm.MethodName) jdk_65_method_103_code (4 : Nat) (Option.none : Option Jvm.ClassFile.FieldType)).before args0 about1 = true := code_word (m := ⟨3, 1⟩) (meth := k3m1) (c := k3c1) (by decide +kernel) rfl rfl rfl (by decide +kernel)
set_option maxRecDepth 65536 in
theorem w_c4 : (Jvm.Cond.code ({ cls := "java/util/Arrays", name := "fill", desc := "([DD)V" } : Jvm.MethodName) jdk_65_method_113_code (5 : Nat) (Option.none : Option Jvm.ClassFile.FieldType)).before args0 about1 = true := code_word (m := ⟨3, 2⟩) (meth := k3m2) (c := k3c2) (by decide +kernel) rfl rfl rfl (by decide +kernel)
set_option maxRecDepth 65536 in
theorem w_c5 : (Jvm.Cond.code ({ cls := "com/example/slotwright/slotwright/SimplexBasis", name := "<init>", desc := "(I[[I[[D[I)V" } : Jvm.MethodName) prog_35_method_1_code (5 : Nat) (Option.none : Option Jvm.ClassFile.FieldType)).before args0 about1 = true := code_word (m := ⟨4, 0⟩) (meth := k4m0) (c := k4c0) (by decide +kernel) rfl rfl rfl (by decide +kernel)
set_option maxRecDepth 65536 in
theorem w_c6 : (Jvm.Cond.code ({ cls := "com/example/slotwright/slotwright/SparseLu", name := "<init>", desc := "([[D)V" } : Jvm.MethodName) prog_36_method_1_code (28 : Nat) (Option.none : Option Jvm.ClassFile.FieldType)).before args0 about1 = true := code_word (m := ⟨5, 0⟩) (meth := k5m0) (c := k5c0) (by decide +kernel) rfl rfl rfl (by decide +kernel)
set_option maxRecDepth 65536 in
theorem w_c7 : (Jvm.Cond.code ({ cls := "com/example/slotwright/slotwright/BoundedSimplex", name := "setBounds", desc := "([D[D)V" } : Jvm.MethodName) prog_5_method_7_code (4 : Nat) (Option.none : Option Jvm.ClassFile.FieldType)).before args0 about1 = true := code_word (m := ⟨2, 1⟩) (meth := k2m1) (c := k2c1) (by decide +kernel) rfl rfl rfl (by decide +kernel)
set_option maxRecDepth 65536 in
theorem w_c8 : (Jvm.Cond.code ({ cls := "java/lang/Double", name := "isFinite", desc := "(D)Z" } : Jvm.MethodName) jdk_117_method_8_code (2 : Nat) (Option.some Jvm.ClassFile.FieldType.boolean)).before args0 about1 = true := code_word (m := ⟨12, 0⟩) (meth := k12m0) (c := k12c0) (by decide +kernel) rfl rfl rfl (by decide +kernel)
set_option maxRecDepth 65536 in
theorem w_c9 : (Jvm.Cond.code ({ cls := "java/lang/Math", name := "abs", desc := "(D)D" } : Jvm.MethodName) jdk_29_method_64_code (2 : Nat) (Option.some Jvm.ClassFile.FieldType.double)).before args0 about1 = true := code_word (m := ⟨13, 1⟩) (meth := k13m1) (c := k13c1) (by decide +kernel) rfl rfl rfl (by decide +kernel)
set_option maxRecDepth 65536 in
theorem w_c10 : (Jvm.Cond.code ({ cls := "com/example/slotwright/slotwright/BoundedSimplexObjectivePinLaw", name := "best", desc := "(IDD)D" } : Jvm.MethodName) method_3_code (9 : Nat) (Option.some Jvm.ClassFile.FieldType.double)).before args0 about1 = true := code_word (m := ⟨1, 2⟩) (meth := k1m2) (c := k1c2) (by decide +kernel) rfl rfl rfl (by decide +kernel)
set_option maxRecDepth 65536 in
theorem w_c11 : (Jvm.Cond.code ({ cls := "com/example/slotwright/slotwright/BoundedSimplex", name := "objective", desc := "()D" } : Jvm.MethodName) prog_5_method_9_code (4 : Nat) (Option.some Jvm.ClassFile.FieldType.double)).before args0 about1 = true := code_word (m := ⟨2, 2⟩) (meth := k2m2) (c := k2c2) (by decide +kernel) rfl rfl rfl (by decide +kernel)
def codes1 : List Jvm.Cond := [Jvm.Cond.code x code maxLocals ret, Jvm.Cond.code ({ cls := "com/example/slotwright/slotwright/BoundedSimplex", name := "<init>", desc := "([D[D[D)V" } : Jvm.MethodName) prog_5_method_1_code (5 : Nat) (Option.none : Option Jvm.ClassFile.FieldType), Jvm.Cond.code ({ cls := "java/lang/Object", name := "<init>", desc := "()V" } : Jvm.MethodName) object_method_1_code (1 : Nat) (Option.none : Option Jvm.ClassFile.FieldType), Jvm.Cond.code ({ cls := "java/util/Arrays", name := "fill", desc := "([II)V" } : Jvm.MethodName) jdk_65_method_103_code (4 : Nat) (Option.none : Option Jvm.ClassFile.FieldType), Jvm.Cond.code ({ cls := "java/util/Arrays", name := "fill", desc := "([DD)V" } : Jvm.MethodName) jdk_65_method_113_code (5 : Nat) (Option.none : Option Jvm.ClassFile.FieldType), Jvm.Cond.code ({ cls := "com/example/slotwright/slotwright/SimplexBasis", name := "<init>", desc := "(I[[I[[D[I)V" } : Jvm.MethodName) prog_35_method_1_code (5 : Nat) (Option.none : Option Jvm.ClassFile.FieldType), Jvm.Cond.code ({ cls := "com/example/slotwright/slotwright/SparseLu", name := "<init>", desc := "([[D)V" } : Jvm.MethodName) prog_36_method_1_code (28 : Nat) (Option.none : Option Jvm.ClassFile.FieldType), Jvm.Cond.code ({ cls := "com/example/slotwright/slotwright/BoundedSimplex", name := "setBounds", desc := "([D[D)V" } : Jvm.MethodName) prog_5_method_7_code (4 : Nat) (Option.none : Option Jvm.ClassFile.FieldType), Jvm.Cond.code ({ cls := "java/lang/Double", name := "isFinite", desc := "(D)Z" } : Jvm.MethodName) jdk_117_method_8_code (2 : Nat) (Option.some Jvm.ClassFile.FieldType.boolean), Jvm.Cond.code ({ cls := "java/lang/Math", name := "abs", desc := "(D)D" } : Jvm.MethodName) jdk_29_method_64_code (2 : Nat) (Option.some Jvm.ClassFile.FieldType.double), Jvm.Cond.code ({ cls := "com/example/slotwright/slotwright/BoundedSimplexObjectivePinLaw", name := "best", desc := "(IDD)D" } : Jvm.MethodName) method_3_code (9 : Nat) (Option.some Jvm.ClassFile.FieldType.double), Jvm.Cond.code ({ cls := "com/example/slotwright/slotwright/BoundedSimplex", name := "objective", desc := "()D" } : Jvm.MethodName) prog_5_method_9_code (4 : Nat) (Option.some Jvm.ClassFile.FieldType.double)]
set_option maxRecDepth 65536 in
theorem codes_eq : words1.filter isCode = codes1 := rfl
theorem w_codes : ∀ c ∈ words1.filter isCode, c.before args0 about1 = true := by
  rw [codes_eq]
  intro c hc
  simp only [codes1, List.mem_cons, List.not_mem_nil, or_false] at hc
  rcases hc with rfl | rfl | rfl | rfl | rfl | rfl | rfl | rfl | rfl | rfl | rfl | rfl
  · exact w_c0
  · exact w_c1
  · exact w_c2
  · exact w_c3
  · exact w_c4
  · exact w_c5
  · exact w_c6
  · exact w_c7
  · exact w_c8
  · exact w_c9
  · exact w_c10
  · exact w_c11
set_option maxRecDepth 65536 in
theorem w_t1 : (words1.take 24).all (fun c => isCode c || c.before args0 about1) = true := by decide +kernel
set_option maxRecDepth 65536 in
theorem w_t2 : ((words1.drop 24).take 24).all (fun c => isCode c || c.before args0 about1) = true := by decide +kernel
set_option maxRecDepth 65536 in
theorem w_t3 : (((words1.drop 24).drop 24).take 24).all (fun c => isCode c || c.before args0 about1) = true := by decide +kernel
set_option maxRecDepth 65536 in
theorem w_t4 : ((((words1.drop 24).drop 24).drop 24).take 24).all (fun c => isCode c || c.before args0 about1) = true := by decide +kernel
set_option maxRecDepth 65536 in
theorem w_t5 : (((((words1.drop 24).drop 24).drop 24).drop 24).take 24).all (fun c => isCode c || c.before args0 about1) = true := by decide +kernel
set_option maxRecDepth 65536 in
theorem w_t6 : ((((((words1.drop 24).drop 24).drop 24).drop 24).drop 24).take 24).all (fun c => isCode c || c.before args0 about1) = true := by decide +kernel
set_option maxRecDepth 65536 in
theorem w_t7 : (((((((words1.drop 24).drop 24).drop 24).drop 24).drop 24).drop 24).take 24).all (fun c => isCode c || c.before args0 about1) = true := by decide +kernel
set_option maxRecDepth 65536 in
theorem w_t8 : ((((((((words1.drop 24).drop 24).drop 24).drop 24).drop 24).drop 24).drop 24).take 24).all (fun c => isCode c || c.before args0 about1) = true := by decide +kernel
set_option maxRecDepth 65536 in
theorem w_t9 : (((((((((words1.drop 24).drop 24).drop 24).drop 24).drop 24).drop 24).drop 24).drop 24).take 24).all (fun c => isCode c || c.before args0 about1) = true := by decide +kernel
set_option maxRecDepth 65536 in
theorem w_t10 : (((((((((words1.drop 24).drop 24).drop 24).drop 24).drop 24).drop 24).drop 24).drop 24).drop 24).all (fun c => isCode c || c.before args0 about1) = true := by decide +kernel
theorem w_tables : (allAtoms (Jvm.Cond.code x code maxLocals ret :: tables_1)).before args0 about1 = true := by
  rw [allAtoms_all]
  show words1.all (fun c => c.before args0 about1) = true
  refine all_split ?_ w_codes
  rw [← List.take_append_drop 24 words1, List.all_append, w_t1, ← List.take_append_drop 24 (words1.drop 24), List.all_append, w_t2, ← List.take_append_drop 24 ((words1.drop 24).drop 24), List.all_append, w_t3, ← List.take_append_drop 24 (((words1.drop 24).drop 24).drop 24), List.all_append, w_t4, ← List.take_append_drop 24 ((((words1.drop 24).drop 24).drop 24).drop 24), List.all_append, w_t5, ← List.take_append_drop 24 (((((words1.drop 24).drop 24).drop 24).drop 24).drop 24), List.all_append, w_t6, ← List.take_append_drop 24 ((((((words1.drop 24).drop 24).drop 24).drop 24).drop 24).drop 24), List.all_append, w_t7, ← List.take_append_drop 24 (((((((words1.drop 24).drop 24).drop 24).drop 24).drop 24).drop 24).drop 24), List.all_append, w_t8, ← List.take_append_drop 24 ((((((((words1.drop 24).drop 24).drop 24).drop 24).drop 24).drop 24).drop 24).drop 24), List.all_append, w_t9, w_t10]
  rfl
set_option maxRecDepth 65536 in
theorem w_case : (Jvm.Cond.and given_1 narrow_1).before args0 about1 = true := by decide +kernel
theorem w_applies : (headSpec (Jvm.Cond.code x code maxLocals ret :: tables_1) room_1).applies x e0.platform about1 = true :=
  (Spec.applies_iff w_frames).mpr ⟨w_running, w_runnable, w_alone, w_named, w_hears, w_ripe, w_room, w_tables⟩
theorem atStart : AtStart classFile x code maxLocals ret World_1 tables_1 room_1 Calls_1 rest_1 Pre_1 launch0 p0 e0 about1 theMethod args0 below0 :=
  ⟨lists_1, trivial, launch0.admits_env _ _ _, launch0.least_env, fairChoices_fair.cas, fairChoices_fair.clock, w_frames, w_args, w_heap, w_applies, trivial, trivial, w_case⟩
end start1
theorem witness_1 : WitnessClaimed_1 := ⟨start1.p0, start1.e0, start1.about1, start1.theMethod, start1.args0, start1.below0, start1.atStart⟩
end Jvm.Pilot.@@N@@
