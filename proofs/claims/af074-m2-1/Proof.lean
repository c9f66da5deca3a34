import JvmDerived
import JvmDerived.Pilot.@@N@@Statement
import JvmDerived.Pilot.@@N@@Code
set_option linter.unusedVariables false
set_option linter.unusedSimpArgs false
namespace Jvm.Pilot.@@N@@
open Jvm Jvm.ClassFile Sem Op Lib Jvm.Free Jvm.Stand Jvm.LawKit Jvm.RoadKit Bundle Jvm.Pilot.@@N@@.Jvm.D
section OwnKit
variable {p : Program} {l : Launch} {e : Env} {R : Room} {s : State} {m : MethodId} {args : Array Value} {below : List Frame} {meth : Method} {c : Code} {T : State} {locs : List Loc} {cells slots : Nat} {Z : State} {a0 : Array Value} {h h' : Heap}
/-- the run from t comes to the method's end, where Q holds -/
def own_Go (p : Program) (e : Env) (below : List Frame) (s : State) (Q : Option Value → Heap → List Loc → Prop) (k n : Nat) (t : State) : Prop :=
  ∃ s₂ o, Steps p.tables e below t s₂ ∧ s₂.status = .running ∧ Ended s₂ below o ∧ ∃ v L, o = .returned v ∧ Q v s₂.heap L ∧ FrameEnd s o s₂ L k n
theorem own_go {Q : Option Value → Heap → List Loc → Prop} {k n : Nat} {t t' : State} (st : ∀ u, Steps p.tables e below t' u → Steps p.tables e below t u) (G : own_Go p e below s Q k n t') : own_Go p e below s Q k n t := by
  obtain ⟨s2, o, h1, r⟩ := G
  exact ⟨s2, o, st _ h1, r⟩
theorem own_ret {Q : Option Value → Heap → List Loc → Prop} {k n : Nat} (X : Stand p l e R s m args below meth c T locs cells slots) (hx : p.tables.exec = Jvm.exec) (hlk : meth.locks = false) {pc : Nat} {Ls : Array Slot} {w : Value} {t : FieldType} {i : Instr} {rest : List Value} (hret : meth.sig.returnType = some t) (hn : narrow t w = w)
    (hi : (i = .ireturn ∧ (t = .int ∨ t = .boolean ∨ t = .byte ∨ t = .char ∨ t = .short) ∧ ∃ z, w = .int z) ∨ (i = .lreturn ∧ t = .long ∧ ∃ z, w = .long z) ∨ (i = .dreturn ∧ t = .double ∧ ∃ z, w = .double z) ∨ (i = .freturn ∧ t = .float ∧ ∃ z, w = .float z) ∨ (i = .areturn ∧ t.isReference = true ∧ w.isRef = true))
    (hd : decode c.code pc = .ok (i, 1)) (hk : cells ≤ k) (hs : slots ≤ n) (hq : Q (some w) T.heap locs) : own_Go p e below s Q k n (T.setTop (mkF m pc Ls (w :: rest))) := by
  obtain ⟨fs, hr, hrun, hended, hW, hsame⟩ := X.leave (v := some w) (fun q => by rw [hret] at q; cases q) hlk
  exact ⟨_, _, retOut X hx hret hn hi hd hr, hrun, hended, _, _, rfl, hq, ⟨_, rfl⟩, hW, hsame.mono hk hs⟩
theorem own_retI {Q : Option Value → Heap → List Loc → Prop} {k n : Nat} (X : Stand p l e R s m args below meth c T locs cells slots) (hx : p.tables.exec = Jvm.exec) (hlk : meth.locks = false) {pc : Nat} {Ls : Array Slot} {z : Int32} {rest : List Value} (hret : meth.sig.returnType = some .int)
    (hd : decode c.code pc = .ok (.ireturn, 1)) (hk : cells ≤ k) (hs : slots ≤ n) (hq : Q (some (.int z)) T.heap locs) : own_Go p e below s Q k n (T.setTop (mkF m pc Ls (.int z :: rest))) :=
  own_ret X hx hlk hret rfl (Or.inl ⟨rfl, Or.inl rfl, z, rfl⟩) hd hk hs hq
theorem own_retZ {Q : Option Value → Heap → List Loc → Prop} {k n : Nat} (X : Stand p l e R s m args below meth c T locs cells slots) (hx : p.tables.exec = Jvm.exec) (hlk : meth.locks = false) {pc : Nat} {Ls : Array Slot} {z : Int32} {rest : List Value} (hret : meth.sig.returnType = some .boolean)
    (hd : decode c.code pc = .ok (.ireturn, 1)) (hz : z = 0 ∨ z = 1) (hk : cells ≤ k) (hs : slots ≤ n) (hq : Q (some (.int z)) T.heap locs) : own_Go p e below s Q k n (T.setTop (mkF m pc Ls (.int z :: rest))) :=
  own_ret X hx hlk hret (by rcases hz with rfl | rfl <;> rfl) (Or.inl ⟨rfl, Or.inr (Or.inl rfl), z, rfl⟩) hd hk hs hq
theorem own_retJ {Q : Option Value → Heap → List Loc → Prop} {k n : Nat} (X : Stand p l e R s m args below meth c T locs cells slots) (hx : p.tables.exec = Jvm.exec) (hlk : meth.locks = false) {pc : Nat} {Ls : Array Slot} {z : Int64} {rest : List Value} (hret : meth.sig.returnType = some .long)
    (hd : decode c.code pc = .ok (.lreturn, 1)) (hk : cells ≤ k) (hs : slots ≤ n) (hq : Q (some (.long z)) T.heap locs) : own_Go p e below s Q k n (T.setTop (mkF m pc Ls (.long z :: rest))) :=
  own_ret X hx hlk hret rfl (Or.inr (Or.inl ⟨rfl, rfl, z, rfl⟩)) hd hk hs hq
theorem own_retR {Q : Option Value → Heap → List Loc → Prop} {k n : Nat} (X : Stand p l e R s m args below meth c T locs cells slots) (hx : p.tables.exec = Jvm.exec) (hlk : meth.locks = false) {pc : Nat} {Ls : Array Slot} {w : Value} {t : FieldType} {rest : List Value} (hret : meth.sig.returnType = some t) (ht : t.isReference = true) (hw : w.isRef = true) (hnr : narrow t w = w)
    (hd : decode c.code pc = .ok (.areturn, 1)) (hk : cells ≤ k) (hs : slots ≤ n) (hq : Q (some w) T.heap locs) : own_Go p e below s Q k n (T.setTop (mkF m pc Ls (w :: rest))) :=
  own_ret X hx hlk hret hnr (Or.inr (Or.inr (Or.inr (Or.inr ⟨rfl, ht, hw⟩)))) hd hk hs hq
theorem own_retV {Q : Option Value → Heap → List Loc → Prop} {k n : Nat} (X : Stand p l e R s m args below meth c T locs cells slots) (hx : p.tables.exec = Jvm.exec) (hlk : meth.locks = false) {pc : Nat} {Ls : Array Slot} (hret : meth.sig.returnType = none)
    (hd : decode c.code pc = .ok (.return_, 1)) (hk : cells ≤ k) (hs : slots ≤ n) (hq : Q none T.heap locs) : own_Go p e below s Q k n (T.setTop (mkF m pc Ls [])) := by
  obtain ⟨fs, hr, hrun, hended, hW, hsame⟩ := X.leave (v := none) (fun _ => rfl) hlk
  exact ⟨_, _, X.returnOut hx hret hd hr, hrun, hended, _, _, rfl, hq, ⟨_, rfl⟩, hW, hsame.mono hk hs⟩
/-- a body's contract: handed as', at a heap h0, it ends as Q says -/
abbrev own_Met (l : Launch) (Z : State) (y : MethodName) (bytes : ByteArray) (maxL : Nat) (ret : Option FieldType) (rm : Room) (ws : List Jvm.Cond) (as' : Array Value) (h0 : Heap) (Q : Option Value → Heap → List Loc → Prop) : Prop :=
  MetFree l y (head1 (Jvm.Cond.code y bytes maxL ret :: ws) rm) (fun a U => a = as' ∧ Z.Warmed39 U.vm ∧ U.heap = h0) (fun _ _ _ _ _ => True) (fun _ U o U' => ∃ v L, o = .returned v ∧ Q v U'.heap L ∧ FrameEnd U o U' L rm.cells rm.slots)
theorem own_enter {y : MethodName} {bytes : ByteArray} {maxL : Nat} {ret : Option FieldType} {rm : Room} {ws : List Jvm.Cond} {as' : Array Value} {h0 : Heap} {Q : Option Value → Heap → List Loc → Prop} (hpl : plainFor y = true)
    (body : ∀ (p : Program) (e : Env) (s : State) (m : MethodId) (below : List Frame) (meth : Method) (c : Code) (s₁ : State), p.tables.exec = Jvm.exec → c.code = bytes → c.maxLocals = maxL → s.vm.findClass y.cls = some m.cls → meth.name = y.name → meth.locks = false → meth.sig.returnType = ret → Z.Warmed39 s.vm →
      Stand p l e rm s m as' below meth c s₁ [] 0 0 → s₁.heap = h0 → own_Go p e below s Q rm.cells rm.slots (s₁.setTop (entryFrame m as' maxL))) : own_Met l Z y bytes maxL ret rm ws as' h0 Q := by
  refine MetFree.of_bodySF hpl hisR ?_
  intro p e s m args below meth c s₁ Bd hml0 hP hK
  obtain ⟨rfl, hZ, hh⟩ := hP
  exact body p e s m below meth c s₁ Bd.exec Bd.bytes hml0 (findClass_of_methodNamed Bd.named) (name_of_methodNamed Bd.named Bd.method).1 Bd.notSynchronized Bd.returns hZ (Stand.of_body Bd) (by rw [← hh, Bd.state]; rfl)
/-- a static call by the callee's contract -/
theorem own_static {Q Q' : Option Value → Heap → List Loc → Prop} {k n : Nat} (X : Stand p l e R s m args below meth c T locs cells slots) (hx : p.tables.exec = Jvm.exec) (hZ : Z.Warmed39 s.vm) {own : String} {index : Nat} {y : MethodName} {bytes : ByteArray} {maxL : Nat} {ret : Option FieldType} {rm : Room}
    (hown : s.vm.findClass own = some m.cls) (w1 : (Cond.methodLink own index y).before a0 Z = true) (w2 : (Cond.static y).before a0 Z = true) (w3 : (Cond.initialized y.cls).before a0 Z = true) (w4 : (Cond.code y bytes maxL ret).before a0 Z = true)
    (hy : y.cls ≠ "java/lang/invoke/MethodHandle" ∧ y.cls ≠ "java/lang/invoke/VarHandle") (eT : T.heap = h) {argsL rest : List Value} (hM : own_Met l Z y bytes maxL ret rm [] argsL.toArray h Q) (W : Nat) (hf : rm.frames + 1 ≤ R.frames) (hl : W + (maxL + 11) + rm.locals ≤ R.locals) (hc : cells + rm.cells ≤ R.cells) (hsl : slots + rm.slots ≤ R.slots)
    {pc pc' : Nat} {Ls : Array Slot} {st : List Value} (hsize : Ls.size = c.maxLocals) {ps : List FieldType} {rt : Option FieldType} (hdesc : parseMethodDescriptor y.desc = some ⟨ps, rt⟩) (hlen : argsL.length = ps.length) (hst : st = argsL.reverse ++ rest) (hW : (rest.map fun v => v.category).sum ≤ W) (hd : decode c.code pc = .ok (.invokestatic index, 3)) (hpc : pc + 3 = pc')
    (go : ∀ (v : Option Value) (T' : State) (L : List Loc), Stand p l e R s m args below meth c T' (locs ++ L) (cells + rm.cells) (slots + rm.slots) → Q v T'.heap L → own_Go p e below s Q' k n (T'.setTop (mkF m pc' Ls (v.toList ++ rest)))) : own_Go p e below s Q' k n (T.setTop (mkF m pc Ls st)) := by
  subst hpc
  obtain ⟨v, _, ⟨T', L', k', n'⟩, -, X', ⟨L, hQ, hl', hk', hn'⟩, stp⟩ := Jvm.LawKit.callS X hx hown (mvT hZ w1) (mvT hZ w2) (mvT hZ w3) (mvT hZ w4) hy (backOf (W := W) hM hZ w4 w3 hf hl) (g := mkF m pc Ls st) rfl hsize (argsL := argsL) (rest := rest) (lenOf hdesc hlen) hst (by show 2 * 0 + _ ≤ _; omega) hd (fun _ _ => ⟨rfl, eT, hc, hsl⟩)
  dsimp only [Pt.U, Pt.locs, Pt.cells, Pt.slots] at X' hl' hk' hn' stp hQ
  subst hl' hk' hn'
  exact own_go stp (go v T' L X' hQ)
/-- a constructor by its contract -/
theorem own_init {Q Q' : Option Value → Heap → List Loc → Prop} {k n : Nat} (X : Stand p l e R s m args below meth c T locs cells slots) (hx : p.tables.exec = Jvm.exec) (hZ : Z.Warmed39 s.vm) {own : String} {index : Nat} {y : MethodName} {bytes : ByteArray} {maxL : Nat} {rm : Room} (hyi : y.name = "<init>")
    (hown : s.vm.findClass own = some m.cls) (w1 : (Cond.methodLink own index y).before a0 Z = true) (w2 : (Cond.instanceMethod y).before a0 Z = true) (w3 : (Cond.initialized y.cls).before a0 Z = true) (w4 : (Cond.code y bytes maxL none).before a0 Z = true)
    (hy : y.cls ≠ "java/lang/invoke/MethodHandle" ∧ y.cls ≠ "java/lang/invoke/VarHandle") (eT : T.heap = h) {a : Addr} {argsL rest : List Value} (hM : own_Met l Z y bytes maxL none rm [] (.ref a :: argsL).toArray h Q) (W : Nat) (hf : rm.frames + 1 ≤ R.frames) (hl : W + (maxL + 11) + rm.locals ≤ R.locals) (hc : cells + rm.cells ≤ R.cells) (hsl : slots + rm.slots ≤ R.slots)
    {pc pc' : Nat} {Ls : Array Slot} {st : List Value} (hsize : Ls.size = c.maxLocals) {ps : List FieldType} {rt : Option FieldType} (hdesc : parseMethodDescriptor y.desc = some ⟨ps, rt⟩) (hlen : argsL.length = ps.length) (hst : st = argsL.reverse ++ .ref a :: rest) (hW : (rest.map fun v => v.category).sum ≤ W) (hd : decode c.code pc = .ok (.invokespecial index, 3)) (hpc : pc + 3 = pc')
    (go : ∀ (v : Option Value) (T' : State) (L : List Loc), Stand p l e R s m args below meth c T' (locs ++ L) (cells + rm.cells) (slots + rm.slots) → Q v T'.heap L → own_Go p e below s Q' k n (T'.setTop (mkF m pc' Ls (v.toList ++ rest)))) : own_Go p e below s Q' k n (T.setTop (mkF m pc Ls st)) := by
  subst hpc
  obtain ⟨v, _, ⟨T', L', k', n'⟩, -, X', ⟨L, hQ, hl', hk', hn'⟩, stp⟩ := X.specialBack hx hyi hown (mvT hZ w1) (mvT hZ w2) (mvT hZ w4) hy (backOf (W := W) hM hZ w4 w3 hf hl) (g := mkF m pc Ls st) rfl hsize (Steps.refl _) (a := a) (argsL := argsL) (rest := rest) (lenOf hdesc hlen) hst (by show 2 * 0 + _ ≤ _; omega) hd (fun _ _ => ⟨rfl, eT, hc, hsl⟩)
  dsimp only [Pt.U, Pt.locs, Pt.cells, Pt.slots] at X' hl' hk' hn' stp hQ
  subst hl' hk' hn'
  exact own_go (fun _ q => stp.trans q) (go v T' L X' hQ)
/-- an instance method by its contract: the receiver is exactly of the class C, which selects z -/
theorem own_virtual {Q Q' : Option Value → Heap → List Loc → Prop} {k n : Nat} (X : Stand p l e R s m args below meth c T locs cells slots) (hx : p.tables.exec = Jvm.exec) (hZ : Z.Warmed39 s.vm) {own C : String} {index : Nat} {y : MethodName} {bytes : ByteArray} {maxL : Nat} {ret : Option FieldType} {rm : Room}
    (hown : s.vm.findClass own = some m.cls) (w1 : (Cond.methodLink own index y).before a0 Z = true) (w2 : (Cond.declares y).before a0 Z = true) (w3 : (Cond.selects C y y).before a0 Z = true) (w5 : (Cond.instanceMethod y).before a0 Z = true) (w6 : (Cond.initialized y.cls).before a0 Z = true) (w4 : (Cond.code y bytes maxL ret).before a0 Z = true)
    (hy : y.cls ≠ "java/lang/invoke/MethodHandle" ∧ y.cls ≠ "java/lang/invoke/VarHandle") (eT : T.heap = h) {a : Addr} (E : Exa Z h a C) {argsL rest : List Value} (hM : own_Met l Z y bytes maxL ret rm [] (.ref a :: argsL).toArray h Q) (W : Nat) (hf : rm.frames + 1 ≤ R.frames) (hl : W + (maxL + 11) + rm.locals ≤ R.locals) (hc : cells + rm.cells ≤ R.cells) (hsl : slots + rm.slots ≤ R.slots)
    {pc pc' : Nat} {Ls : Array Slot} {st : List Value} (hsize : Ls.size = c.maxLocals) {ps : List FieldType} {rt : Option FieldType} (hdesc : parseMethodDescriptor y.desc = some ⟨ps, rt⟩) (hlen : argsL.length = ps.length) (hst : st = argsL.reverse ++ .ref a :: rest) (hW : (rest.map fun v => v.category).sum ≤ W) (hd : decode c.code pc = .ok (.invokevirtual index, 3)) (hpc : pc + 3 = pc')
    (go : ∀ (v : Option Value) (T' : State) (L : List Loc), Stand p l e R s m args below meth c T' (locs ++ L) (cells + rm.cells) (slots + rm.slots) → Q v T'.heap L → own_Go p e below s Q' k n (T'.setTop (mkF m pc' Ls (v.toList ++ rest)))) : own_Go p e below s Q' k n (T.setTop (mkF m pc Ls st)) := by
  subst hpc
  obtain ⟨cq, kq, qa, qb, qc⟩ := isOf hZ eT E
  obtain ⟨v, _, ⟨T', L', k', n'⟩, -, X', ⟨L, hQ, hl', hk', hn'⟩, stp⟩ := X.virtualBack hx (z := y) hown (mvT hZ w1) (mvT hZ w2) (notFace_of_selects (args := #[]) (mvT hZ w3)) (mvT hZ w3) (mvT hZ w5) hy (backOf (W := W) hM hZ w4 w6 hf hl) qa qc (g := mkF m pc Ls st) rfl hsize (Steps.refl _) (argsL := argsL) (rest := rest) (lenOf hdesc hlen) hst (by show 2 * 0 + _ ≤ _; omega) hd (fun _ _ => ⟨rfl, eT, hc, hsl⟩)
  dsimp only [Pt.U, Pt.locs, Pt.cells, Pt.slots] at X' hl' hk' hn' stp hQ
  subst hl' hk' hn'
  exact own_go (fun _ q => stp.trans q) (go v T' L X' hQ)
/-- an array of n places that hold F 0, F 1 .. -/
def own_Ar (Z : State) (h : Heap) (a : Addr) (ty : FieldType) (n : Nat) (F : Nat → Value) : Prop := n < 2 ^ 31 ∧ ∃ c : Cell, Arr Z h a c ty ∧ c.slots.size = n ∧ ∀ j, j < n → c.slots[j]? = some (F j)
section ArFacts
variable {a b : Addr} {ty : FieldType} {F G : Nat → Value} {nn : Nat} {sl : Nat} {v : Value} {ws : List Addr}
theorem own_Ar.lt (A : own_Ar Z h a ty nn F) : a < h.size := by obtain ⟨-, c, A, -⟩ := A; exact A.lt
theorem own_Ar.ext (A : own_Ar Z h a ty nn F) (E : Ext h h') : own_Ar Z h' a ty nn F := by obtain ⟨q, c, A, r⟩ := A; exact ⟨q, c, A.ext E, r⟩
theorem own_Ar.other (A : own_Ar Z h a ty nn F) (W : Wr h h' b sl v) (q : a ≠ b) : own_Ar Z h' a ty nn F := by obtain ⟨q0, c, A, r⟩ := A; exact ⟨q0, c, A.other W q, r⟩
theorem own_Ar.keep (A : own_Ar Z h a ty nn F) (K : Keep h h' ws) (q : a ∉ ws) : own_Ar Z h' a ty nn F := by obtain ⟨q0, c, A, r⟩ := A; exact ⟨q0, c, ⟨K.2.1 a c A.1 q, A.2⟩, r⟩
theorem own_Ar.eqv (A : own_Ar Z h a ty nn F) (q : ∀ j, j < nn → F j = G j) : own_Ar Z h a ty nn G := by obtain ⟨q0, c, A, r, r2⟩ := A; exact ⟨q0, c, A, r, fun j hj => by rw [r2 j hj, q j hj]⟩
theorem own_Ar.set (A : own_Ar Z h a ty nn F) (W : Wr h h' a sl v) : own_Ar Z h' a ty nn (fun j => if j = sl then v else F j) := by
  obtain ⟨q0, c, A, r, r2⟩ := A
  refine ⟨q0, _, A.same W, by rw [sz_set]; exact r, fun j hj => ?_⟩
  by_cases q : j = sl
  · subst q
    simp [Cell.setSlot, r, hj]
  · have q' : sl ≠ j := fun x => q x.symm
    simp only [if_neg q]
    rw [← r2 j hj]
    simp [Cell.setSlot, Array.getElem?_setIfInBounds, q']
theorem own_Ar.new {k : ClassId} {z : Int32} (A : Arr Z h a (newA k ty z) ty) (q : ¬ z < 0) (hz : z.toNatClampNeg = nn) : own_Ar Z h a ty nn (fun _ => defaultValue ty) := by
  subst hz
  refine ⟨(back32 q).2, _, A, sz_new _ _ _, fun j hj => ?_⟩
  simp [newA, hj]
end ArFacts
theorem own_inb {c : Cell} {n i : Nat} {z : Int32} (hs : c.slots.size = n) (hz : z.toInt = (i : Int)) (hi : i < n) : ¬ (z < 0 ∨ c.slots.size ≤ z.toNatClampNeg) ∧ z.toNatClampNeg = i := by
  have h1 : z.toNatClampNeg = i := by rw [Int32.toNatClampNeg, hz]; rfl
  refine ⟨?_, h1⟩
  rintro (q | q)
  · rw [Int32.lt_iff_toInt_lt, hz] at q
    have : (0 : Int32).toInt = 0 := rfl
    omega
  · rw [h1, hs] at q
    omega
theorem own_lt {x y : Int32} (q : x.toInt < y.toInt) : x < y := Int32.lt_iff_toInt_lt.mpr q
theorem own_nlt {x y : Int32} (q : y.toInt ≤ x.toInt) : ¬ x < y := fun r => by rw [Int32.lt_iff_toInt_lt] at r; omega
theorem own_ltI {x y : Int32} (q : x < y) : x.toInt < y.toInt := Int32.lt_iff_toInt_lt.mp q
theorem own_nltI {x y : Int32} (q : ¬ x < y) : y.toInt ≤ x.toInt := by rw [Int32.lt_iff_toInt_lt] at q; omega
theorem own_eq {x y : Int32} (q : x.toInt = y.toInt) : x = y := Int32.toInt_inj.mp q
theorem own_ne {x y : Int32} (q : x.toInt ≠ y.toInt) : ¬ x = y := fun r => q (by rw [r])
theorem own_neI {x y : Int32} (q : ¬ x = y) : x.toInt ≠ y.toInt := fun r => q (own_eq r)
/-- the read of an int out of an array -/
theorem own_iaload {Q : Option Value → Heap → List Loc → Prop} {k n : Nat} (X : Stand p l e R s m args below meth c T locs cells slots) (hx : p.tables.exec = Jvm.exec) (hZ : Z.Warmed39 s.vm) (eT : T.heap = h) {a : Addr} {nn i : Nat} {F : Nat → Value} {x z : Int32} (A : own_Ar Z h a .int nn F) (hz : z.toInt = (i : Int)) (hi : i < nn) (hF : F i = .int x)
    {pc pc' : Nat} {Ls : Array Slot} {rest : List Value} (hd : decode c.code pc = .ok (.iaload, 1)) (hpc : pc + 1 = pc') (go : own_Go p e below s Q k n (T.setTop (mkF m pc' Ls (.int x :: rest)))) : own_Go p e below s Q k n (T.setTop (mkF m pc Ls (.int z :: .ref a :: rest))) := by
  subst hpc
  obtain ⟨-, c, A, r, r2⟩ := A
  obtain ⟨q1, q2⟩ := own_inb r hz hi
  exact own_go (X.iaload hx (j := z) (v := .int x) (by rw [eT]; exact A.1) (State.isArrayOf_alike hZ.alike A.2.1) A.2.2 q1 (by rw [q2, r2 i hi, hF]) (g := mkF m pc Ls (.int z :: .ref a :: rest)) rfl rfl hd) go
theorem own_laload {Q : Option Value → Heap → List Loc → Prop} {k n : Nat} (X : Stand p l e R s m args below meth c T locs cells slots) (hx : p.tables.exec = Jvm.exec) (hZ : Z.Warmed39 s.vm) (eT : T.heap = h) {a : Addr} {nn i : Nat} {F : Nat → Value} {x : Int64} {z : Int32} (A : own_Ar Z h a .long nn F) (hz : z.toInt = (i : Int)) (hi : i < nn) (hF : F i = .long x)
    {pc pc' : Nat} {Ls : Array Slot} {rest : List Value} (hd : decode c.code pc = .ok (.laload, 1)) (hpc : pc + 1 = pc') (go : own_Go p e below s Q k n (T.setTop (mkF m pc' Ls (.long x :: rest)))) : own_Go p e below s Q k n (T.setTop (mkF m pc Ls (.int z :: .ref a :: rest))) := by
  subst hpc
  obtain ⟨-, c, A, r, r2⟩ := A
  obtain ⟨q1, q2⟩ := own_inb r hz hi
  exact own_go (X.laload hx (j := z) (v := .long x) (by rw [eT]; exact A.1) (State.isArrayOf_alike hZ.alike A.2.1) A.2.2 q1 (by rw [q2, r2 i hi, hF]) (g := mkF m pc Ls (.int z :: .ref a :: rest)) rfl rfl hd) go
theorem own_iastore {Q : Option Value → Heap → List Loc → Prop} {k n : Nat} (X : Stand p l e R s m args below meth c T locs cells slots) (hx : p.tables.exec = Jvm.exec) (hZ : Z.Warmed39 s.vm) (eT : T.heap = h) {a : Addr} {nn i : Nat} {F : Nat → Value} {x z : Int32} (A : own_Ar Z h a .int nn F) (hz : z.toInt = (i : Int)) (hi : i < nn)
    {pc pc' : Nat} {Ls : Array Slot} {rest : List Value} (hd : decode c.code pc = .ok (.iastore, 1)) (hpc : pc + 1 = pc') (go : ∀ T' h', Stand p l e R s m args below meth c T' (locs ++ [⟨a, i⟩]) cells slots → T'.heap = h' → Wr h h' a i (.int x) → own_Ar Z h' a .int nn (fun j => if j = i then .int x else F j) → own_Go p e below s Q k n (T'.setTop (mkF m pc' Ls rest))) : own_Go p e below s Q k n (T.setTop (mkF m pc Ls (.int x :: .int z :: .ref a :: rest))) := by
  subst hpc
  have A' := A
  obtain ⟨-, c, A, r, r2⟩ := A
  obtain ⟨q1, q2⟩ := own_inb r hz hi
  obtain ⟨T', h', X', e', W', st⟩ := stI X hx hZ eT A (j := z) (x := x) q1 (g := mkF m pc Ls (.int x :: .int z :: .ref a :: rest)) rfl rfl hd
  rw [q2] at X' W'
  exact own_go st (go T' h' X' e' W' (A'.set W'))
theorem own_lastore {Q : Option Value → Heap → List Loc → Prop} {k n : Nat} (X : Stand p l e R s m args below meth c T locs cells slots) (hx : p.tables.exec = Jvm.exec) (hZ : Z.Warmed39 s.vm) (eT : T.heap = h) {a : Addr} {nn i : Nat} {F : Nat → Value} {x : Int64} {z : Int32} (A : own_Ar Z h a .long nn F) (hz : z.toInt = (i : Int)) (hi : i < nn)
    {pc pc' : Nat} {Ls : Array Slot} {rest : List Value} (hd : decode c.code pc = .ok (.lastore, 1)) (hpc : pc + 1 = pc') (go : ∀ T' h', Stand p l e R s m args below meth c T' (locs ++ [⟨a, i⟩]) cells slots → T'.heap = h' → Wr h h' a i (.long x) → own_Ar Z h' a .long nn (fun j => if j = i then .long x else F j) → own_Go p e below s Q k n (T'.setTop (mkF m pc' Ls rest))) : own_Go p e below s Q k n (T.setTop (mkF m pc Ls (.long x :: .int z :: .ref a :: rest))) := by
  subst hpc
  have A' := A
  obtain ⟨-, c, A, r, r2⟩ := A
  obtain ⟨q1, q2⟩ := own_inb r hz hi
  obtain ⟨T', h', X', e', W', st⟩ := stJ X hx hZ eT A (j := z) (x := x) q1 (g := mkF m pc Ls (.long x :: .int z :: .ref a :: rest)) rfl rfl hd
  rw [q2] at X' W'
  exact own_go st (go T' h' X' e' W' (A'.set W'))
theorem own_length {Q : Option Value → Heap → List Loc → Prop} {k n : Nat} (X : Stand p l e R s m args below meth c T locs cells slots) (hx : p.tables.exec = Jvm.exec) (hZ : Z.Warmed39 s.vm) (eT : T.heap = h) {a : Addr} {nn : Nat} {ty : FieldType} {F : Nat → Value} {z : Int32} (A : own_Ar Z h a ty nn F) (hz : z.toInt = (nn : Int))
    {pc pc' : Nat} {Ls : Array Slot} {rest : List Value} (hd : decode c.code pc = .ok (.arraylength, 1)) (hpc : pc + 1 = pc') (go : own_Go p e below s Q k n (T.setTop (mkF m pc' Ls (.int z :: rest)))) : own_Go p e below s Q k n (T.setTop (mkF m pc Ls (.ref a :: rest))) := by
  subst hpc
  obtain ⟨q, c, A, r, r2⟩ := A
  have hz' : c.slots.size.toInt32 = z := own_eq (by rw [r, hz]; exact len_toInt q)
  subst hz'
  exact own_go (X.arraylength hx (by rw [eT]; exact A.1) (State.isArrayOf_alike hZ.alike A.2.1) (g := mkF m pc Ls (.ref a :: rest)) rfl rfl hd) go
end OwnKit
theorem pd_0 : parseMethodDescriptor "(J)I" = some ⟨[.long], some .int⟩ := by decide +kernel
theorem pd_1 : parseMethodDescriptor "(II)I" = some ⟨[.int, .int], some .int⟩ := by decide +kernel
theorem pd_2 : parseMethodDescriptor "([JI)[J" = some ⟨[(.array .long), .int], some (.array .long)⟩ := by decide +kernel
theorem pd_3 : parseMethodDescriptor "()V" = some ⟨[], none⟩ := by decide +kernel
theorem pd_4 : parseMethodDescriptor "(J)J" = some ⟨[.long], some .long⟩ := by decide +kernel
theorem pd_5 : parseMethodDescriptor "(J)Z" = some ⟨[.long], some .boolean⟩ := by decide +kernel
section OwnPriv
variable {p : Program} {l : Launch} {e : Env} {R : Room} {s : State} {m : MethodId} {args : Array Value} {below : List Frame} {meth : Method} {c : Code} {T : State} {locs : List Loc} {cells slots : Nat} {Z : State} {a0 : Array Value} {h h' : Heap}
/-- a private instance method (invokevirtual) by its contract -/
theorem own_private {Q Q' : Option Value → Heap → List Loc → Prop} {k n : Nat} (X : Stand p l e R s m args below meth c T locs cells slots) (hx : p.tables.exec = Jvm.exec) (hZ : Z.Warmed39 s.vm) {own C : String} {index ni : Nat} {y : MethodName} {bytes : ByteArray} {maxL : Nat} {ret : Option FieldType} {rm : Room}
    (hown : s.vm.findClass own = some m.cls) (w1 : (Cond.methodLink own index y).before a0 Z = true) (w2 : (Cond.instanceMethod y).before a0 Z = true) (w3 : (Cond.privateMethod y).before a0 Z = true) (w5 : (Cond.instantiable y.cls ni).before a0 Z = true) (w6 : (Cond.initialized y.cls).before a0 Z = true) (w4 : (Cond.code y bytes maxL ret).before a0 Z = true)
    (hy : y.cls ≠ "java/lang/invoke/MethodHandle" ∧ y.cls ≠ "java/lang/invoke/VarHandle") (eT : T.heap = h) {a : Addr} (E : Exa Z h a C) {argsL rest : List Value} (hM : own_Met l Z y bytes maxL ret rm [] (.ref a :: argsL).toArray h Q) (W : Nat) (hf : rm.frames + 1 ≤ R.frames) (hl : W + (maxL + 11) + rm.locals ≤ R.locals) (hc : cells + rm.cells ≤ R.cells) (hsl : slots + rm.slots ≤ R.slots)
    {pc pc' : Nat} {Ls : Array Slot} {st : List Value} (hsize : Ls.size = c.maxLocals) {ps : List FieldType} {rt : Option FieldType} (hdesc : parseMethodDescriptor y.desc = some ⟨ps, rt⟩) (hlen : argsL.length = ps.length) (hst : st = argsL.reverse ++ .ref a :: rest) (hW : (rest.map fun v => v.category).sum ≤ W) (hd : decode c.code pc = .ok (.invokevirtual index, 3)) (hpc : pc + 3 = pc')
    (go : ∀ (v : Option Value) (T' : State) (L : List Loc), Stand p l e R s m args below meth c T' (locs ++ L) (cells + rm.cells) (slots + rm.slots) → Q v T'.heap L → own_Go p e below s Q' k n (T'.setTop (mkF m pc' Ls (v.toList ++ rest)))) : own_Go p e below s Q' k n (T.setTop (mkF m pc Ls st)) := by
  subst hpc
  obtain ⟨cq, hq1, hq2⟩ := E.cell
  have hpr : s.PrivateAt y := Cond.privateMethod_at (mvP hZ w3 (args := #[]))
  have hin : (Cond.instanceMethod y).before args s = true := mvT hZ w2
  have hii : (Cond.instantiable y.cls ni).before args s = true := mvT hZ w5
  obtain ⟨ci, ki, i1, i2, -, i4, -⟩ := Cond.instantiable_spec hii
  have hsel : (Cond.selects y.cls y y).before args s = true := Jvm.Stand.selects_self_of_private i1 i2 (by simp only [Bool.or_eq_false_iff] at i4; exact i4.1) hpr hin hy
  obtain ⟨v, _, ⟨T', L', k', n'⟩, -, X', ⟨L, hQ, hl', hk', hn'⟩, stp⟩ := X.privateBack hx hown (mvT hZ w1) hin hsel hpr (mvT hZ w4) hy (backOf (W := W) hM hZ w4 w6 hf hl) (g := mkF m pc Ls st) rfl hsize (Steps.refl _) (a := a) (by rw [eT]; exact hq1) hq2 (argsL := argsL) (rest := rest) (lenOf hdesc hlen) hst (by show 2 * 0 + _ ≤ _; omega) hd (fun _ _ => ⟨rfl, eT, hc, hsl⟩)
  dsimp only [Pt.U, Pt.locs, Pt.cells, Pt.slots] at X' hl' hk' hn' stp hQ
  subst hl' hk' hn'
  exact own_go (fun _ q => stp.trans q) (go v T' L X' hQ)
end OwnPriv
def own_path (L : Nat) (tbl : Nat → Int64) (h : Nat) (t : Int64) (d : Nat) : Prop := ∀ d', d' < d → tbl ((h + d') % L) ≠ 0 ∧ tbl ((h + d') % L) ≠ t
def own_used (tbl : Nat → Int64) : Nat → Nat
  | 0 => 0
  | n + 1 => own_used tbl n + (if tbl n = 0 then 0 else 1)
def own_Inv (L : Nat) (hs : Int64 → Nat) (tbl : Nat → Int64) (S : Int64 → Prop) (k : Nat) : Prop :=
  (∀ i, i < L → tbl i ≠ 0 → ∃ x, S x ∧ tbl i = x + 1) ∧ (∀ x, S x → x + 1 ≠ 0 ∧ ∃ d, d < L ∧ tbl ((hs x + d) % L) = x + 1 ∧ own_path L tbl (hs x) (x + 1) d) ∧ own_used tbl L ≤ k
theorem own_used_le (tbl : Nat → Int64) : ∀ n, (∀ e, e < n → tbl e ≠ 0) → own_used tbl n = n
  | 0, _ => rfl
  | n + 1, h => by
    show own_used tbl n + (if tbl n = 0 then 0 else 1) = n + 1
    rw [own_used_le tbl n fun e he => h e (by omega), if_neg (h n (by omega))]
theorem own_empty {tbl : Nat → Int64} {L : Nat} (h : own_used tbl L < L) : ∃ e, e < L ∧ tbl e = 0 := by
  apply Classical.byContradiction
  intro q
  have := own_used_le tbl L fun e he z => q ⟨e, he, z⟩
  omega
theorem own_used_set (tbl : Nat → Int64) (i : Nat) (t : Int64) : ∀ n, own_used (fun j => if j = i then t else tbl j) n ≤ own_used tbl n + (if i < n then 1 else 0)
  | 0 => by show 0 ≤ _; omega
  | n + 1 => by
    have ih := own_used_set tbl i t n
    show own_used (fun j => if j = i then t else tbl j) n + (if (if n = i then t else tbl n) = 0 then 0 else 1) ≤ own_used tbl n + (if tbl n = 0 then 0 else 1) + _
    by_cases q : n = i
    · subst q
      rw [if_pos rfl, if_pos (Nat.lt_succ_self n)]
      rw [if_neg (Nat.lt_irrefl n)] at ih
      have a : (if t = 0 then 0 else 1 : Nat) ≤ 1 := by split <;> omega
      omega
    · rw [if_neg q]
      by_cases r : i < n
      · rw [if_pos r] at ih; rw [if_pos (show i < n + 1 by omega)]; omega
      · rw [if_neg r] at ih; rw [if_neg (show ¬ i < n + 1 by omega)]; omega
theorem own_used_zero : ∀ n, own_used (fun _ => 0) n = 0
  | 0 => rfl
  | n + 1 => by show own_used (fun _ => 0) n + (if (0 : Int64) = 0 then 0 else 1) = 0; rw [own_used_zero n]; rfl
theorem own_Inv0 (L : Nat) (hs : Int64 → Nat) : own_Inv L hs (fun _ => 0) (fun _ => False) 0 :=
  ⟨fun _ _ q => absurd rfl q, fun _ q => q.elim, by rw [own_used_zero]; exact Nat.le_refl 0⟩
theorem own_add1 {x y : Int64} (h : x + 1 = y + 1) : x = y := by
  have : x + 1 - 1 = y + 1 - 1 := by rw [h]
  rwa [Int64.add_sub_cancel, Int64.add_sub_cancel] at this
theorem own_hit {L k d : Nat} {hs : Int64 → Nat} {tbl : Nat → Int64} {S : Int64 → Prop} {v : Int64} (I : own_Inv L hs tbl S k) (h1 : tbl ((hs v + d) % L) = 0 ∨ tbl ((hs v + d) % L) = v + 1) (hp : own_path L tbl (hs v) (v + 1) d) (hv : S v) : tbl ((hs v + d) % L) = v + 1 := by
  obtain ⟨-, e, -, e2, e3⟩ := I.2.1 v hv
  rcases Nat.lt_trichotomy d e with q | q | q
  · have := e3 d q
    rcases h1 with r | r
    · exact absurd r this.1
    · exact absurd r this.2
  · subst q; exact e2
  · exact absurd e2 (hp e q).2
theorem own_miss {L k i : Nat} {hs : Int64 → Nat} {tbl : Nat → Int64} {S : Int64 → Prop} {v : Int64} (I : own_Inv L hs tbl S k) (hi : i < L) (h1 : tbl i = 0 ∨ tbl i = v + 1) (hv : ¬ S v) : tbl i = 0 := by
  rcases h1 with r | r
  · exact r
  · apply Classical.byContradiction
    intro q
    obtain ⟨x, hx, e⟩ := I.1 i hi q
    exact hv (own_add1 (e.symm.trans r) ▸ hx)
theorem own_insert {L k d : Nat} {hs : Int64 → Nat} {tbl : Nat → Int64} {S : Int64 → Prop} {v : Int64} (I : own_Inv L hs tbl S k) (hd : d < L) (h0 : tbl ((hs v + d) % L) = 0) (hp : own_path L tbl (hs v) (v + 1) d) (hv : v + 1 ≠ 0) :
    own_Inv L hs (fun j => if j = (hs v + d) % L then v + 1 else tbl j) (fun x => S x ∨ x = v) (k + 1) := by
  obtain ⟨i, hi⟩ : ∃ i, i = (hs v + d) % L := ⟨_, rfl⟩
  rw [← hi] at h0 ⊢
  have hiL : i < L := by rw [hi]; exact Nat.mod_lt _ (by omega)
  have path : ∀ {h : Nat} {t : Int64} {d : Nat}, own_path L tbl h t d → own_path L (fun j => if j = i then v + 1 else tbl j) h t d := fun {h t d} q d' hd' => by
    have q' := q d' hd'
    have ne : (h + d') % L ≠ i := fun u => q'.1 (by rw [u]; exact h0)
    simp only [if_neg ne]
    exact q'
  refine ⟨fun j hj hne => ?_, fun x hx => ?_, ?_⟩
  · by_cases q : j = i
    · exact ⟨v, Or.inr rfl, if_pos q⟩
    · simp only [if_neg q] at hne ⊢
      obtain ⟨x, hx, e⟩ := I.1 j hj hne
      exact ⟨x, Or.inl hx, e⟩
  · rcases hx with hx | rfl
    · obtain ⟨a, e, e1, e2, e3⟩ := I.2.1 x hx
      refine ⟨a, e, e1, ?_, path e3⟩
      have ne : (hs x + e) % L ≠ i := fun u => a (by rw [← e2, u]; exact h0)
      simp only [if_neg ne]
      exact e2
    · exact ⟨hv, d, hd, if_pos hi.symm, path hp⟩
  · have := own_used_set tbl i (v + 1) L
    rw [if_pos hiL] at this
    have := I.2.2
    omega
theorem own_reach {L h e : Nat} (hh : h < L) (he : e < L) : ∃ d, d < L ∧ (h + d) % L = e := by
  by_cases q : h ≤ e
  · exact ⟨e - h, by omega, by rw [show h + (e - h) = e by omega]; exact Nat.mod_eq_of_lt he⟩
  · exact ⟨e + L - h, by omega, by rw [show h + (e + L - h) = e + L by omega, Nat.add_mod_right]; exact Nat.mod_eq_of_lt he⟩
theorem own_Inv.mono {L k k' : Nat} {hs : Int64 → Nat} {tbl : Nat → Int64} {S S' : Int64 → Prop} (I : own_Inv L hs tbl S k) (hk : k ≤ k') (hS : ∀ x, S x ↔ S' x) : own_Inv L hs tbl S' k' :=
  ⟨fun i hi q => by obtain ⟨x, hx, e⟩ := I.1 i hi q; exact ⟨x, (hS x).mp hx, e⟩, fun x hx => I.2.1 x ((hS x).mpr hx), Nat.le_trans I.2.2 hk⟩
theorem own_Inv.eqv {L k : Nat} {hs : Int64 → Nat} {tbl tbl' : Nat → Int64} {S : Int64 → Prop} (I : own_Inv L hs tbl S k) (hL : 0 < L) (q : ∀ j, j < L → tbl j = tbl' j) : own_Inv L hs tbl' S k := by
  have ml : ∀ x, x % L < L := fun x => Nat.mod_lt _ hL
  refine ⟨fun i hi r => by rw [← q i hi] at r ⊢; exact I.1 i hi r, fun x hx => ?_, ?_⟩
  · obtain ⟨a, e, e1, e2, e3⟩ := I.2.1 x hx
    exact ⟨a, e, e1, by rw [← q _ (ml _)]; exact e2, fun d' hd' => by rw [← q _ (ml _)]; exact e3 d' hd'⟩
  · have : ∀ n, n ≤ L → own_used tbl' n = own_used tbl n := fun n => by
      induction n with
      | zero => intro _; rfl
      | succ n ih => intro hn; show own_used tbl' n + _ = own_used tbl n + _; rw [ih (by omega), q n (by omega)]
    rw [this L (Nat.le_refl L)]; exact I.2.2
theorem own_inc {z : Int32} {i : Nat} (h : z.toInt = (i : Int)) (hi : i < 1000000) : (z + (1 : Int32)).toInt = ((i + 1 : Nat) : Int) := by
  have h1 := c_iadd z 1
  have h2 := rng32 (z + 1)
  have e1 : (1 : Int32).toInt = 1 := rfl
  rw [h, e1] at h1
  omega
def own_zl (L : Nat) : Int32 := Int32.ofNat L
def own_hz (L : Nat) (x : Int64) : Int32 := (((((x * (-7046029254386353131 : Int64)).toUInt64 >>> ((32 : Int32) &&& 0x3f).toInt64.toUInt64).toInt64).toInt32) &&& (own_zl L - (1 : Int32)))
def own_hash (L : Nat) (x : Int64) : Nat := (own_hz L x).toInt.toNat
theorem own_zl_toInt {L : Nat} (hL : L = 4 ∨ L = 8) : (own_zl L).toInt = (L : Int) := by rcases hL with rfl | rfl <;> rfl
theorem own_zl_toInt2 {L : Nat} (hL : L = 2 ∨ L = 4) : (own_zl L).toInt = (L : Int) := by rcases hL with rfl | rfl <;> rfl
theorem own_hz_rng {L : Nat} (hL : L = 4 ∨ L = 8) (x : Int64) : 0 ≤ (own_hz L x).toInt ∧ (own_hz L x).toInt < L := by
  unfold own_hz
  generalize ((((x * (-7046029254386353131 : Int64)).toUInt64 >>> ((32 : Int32) &&& 0x3f).toInt64.toUInt64).toInt64).toInt32) = y
  rcases hL with rfl | rfl
  · have := c_and y (own_zl 4 - 1) (by decide)
    have e : (own_zl 4 - 1).toInt = 3 := rfl
    omega
  · have := c_and y (own_zl 8 - 1) (by decide)
    have e : (own_zl 8 - 1).toInt = 7 := rfl
    omega
theorem own_hash_lt {L : Nat} (hL : L = 4 ∨ L = 8) (x : Int64) : own_hash L x < L := by
  have := own_hz_rng hL x
  unfold own_hash
  omega
theorem own_hz_toInt {L : Nat} (hL : L = 4 ∨ L = 8) (x : Int64) : (own_hz L x).toInt = (((own_hash L x + 0) % L : Nat) : Int) := by
  have := own_hz_rng hL x
  rw [Nat.add_zero, Nat.mod_eq_of_lt (own_hash_lt hL x)]
  unfold own_hash
  omega
theorem own_next {L H d : Nat} {z : Int32} (hL : L = 4 ∨ L = 8) (h : z.toInt = (((H + d) % L : Nat) : Int)) : ((z + (1 : Int32)) &&& (own_zl L - (1 : Int32))).toInt = (((H + (d + 1)) % L : Nat) : Int) := by
  have h1 := own_inc h (by rcases hL with rfl | rfl <;> omega)
  rcases hL with rfl | rfl
  · rw [c_mask (z + 1) (own_zl 4 - 1) 2 (by decide) rfl, h1]; omega
  · rw [c_mask (z + 1) (own_zl 8 - 1) 3 (by decide) rfl, h1]; omega
theorem own_path_succ {L h d : Nat} {tbl : Nat → Int64} {t : Int64} (hp : own_path L tbl h t d) (h0 : ¬ tbl ((h + d) % L) = 0) (h1 : ¬ tbl ((h + d) % L) = t) : own_path L tbl h t (d + 1) := fun d' hd' => by
  by_cases q : d' = d
  · subst q; exact ⟨h0, h1⟩
  · exact hp d' (by omega)
theorem own_norm1 {y : Int64} (h : y = (9223372036854775807 : Int64)) : y - (1 : Int64) + 1 ≠ 0 := by subst h; decide
theorem own_norm2 {x : Int64} (h : ¬ (x &&& (9223372036854775807 : Int64)) = (9223372036854775807 : Int64)) : (x &&& (9223372036854775807 : Int64)) + 1 ≠ 0 := fun q => by
  have h1 := (c_andSL x 9223372036854775807).2.2 (by decide)
  have h2 := c_ladd (x &&& 9223372036854775807) 1
  have h3 := rng64 (x &&& 9223372036854775807)
  have e1 : (1 : Int64).toInt = 1 := rfl
  have e0 : (0 : Int64).toInt = 0 := rfl
  rw [q] at h2
  omega
theorem own_long_if {g : Nat → Int64} {y : Int64} {i n : Nat} : ∀ j, j < n → (fun j => if j = i then Value.long y else Value.long (g j)) j = (fun j => Value.long (if j = i then y else g j)) j := fun j _ => by
  show (if j = i then Value.long y else Value.long (g j)) = Value.long (if j = i then y else g j)
  by_cases q : j = i
  · rw [if_pos q, if_pos q]
  · rw [if_neg q, if_neg q]
theorem own_upto (add : Nat → Int64) (i : Nat) : ∀ x, ((∃ j, j < i ∧ add j = x) ∨ x = add i) ↔ ∃ j, j < i + 1 ∧ add j = x := fun x => by
  constructor
  · rintro (⟨j, hj, e⟩ | rfl)
    · exact ⟨j, by omega, e⟩
    · exact ⟨i, by omega, rfl⟩
  · rintro ⟨j, hj, e⟩
    by_cases q : j = i
    · subst q; exact Or.inr e.symm
    · exact Or.inl ⟨j, by omega, e⟩
def own_upd (add : Nat → Int64) (i : Nat) (x : Int64) (j : Nat) : Int64 := if j = i then x else add j
def own_cut (add : Nat → Int64) (j : Nat) : Int64 := if j < 2 then add j else 0
def own_LA (sz L AL : Nat) : Prop := (sz ≤ 2 ∧ L = 4 ∧ AL = 2) ∨ (3 ≤ sz ∧ L = 8 ∧ AL = 4)
def own_Add (add : Nat → Int64) (sz : Nat) (S : Int64 → Prop) : Prop := (∀ x, (∃ j, j < sz ∧ add j = x) ↔ S x) ∧ ∀ i j, i < j → j < sz → add i ≠ add j
theorem own_Add0 : own_Add (fun _ => 0) 0 (fun _ => False) := ⟨fun _ => ⟨fun ⟨j, q, _⟩ => absurd q (Nat.not_lt_zero j), fun q => q.elim⟩, fun i j _ q => absurd q (Nat.not_lt_zero j)⟩
theorem own_Add_dup {add : Nat → Int64} {sz : Nat} {S : Int64 → Prop} {x : Int64} (h : own_Add add sz S) (hS : S x) : own_Add add sz (fun y => S y ∨ y = x) := ⟨fun y => (h.1 y).trans ⟨Or.inl, fun q => q.elim id fun u => u ▸ hS⟩, h.2⟩
theorem own_Add_cut {add : Nat → Int64} {S : Int64 → Prop} (h : own_Add add 2 S) : own_Add (own_cut add) 2 S := by
  have e : ∀ j, j < 2 → own_cut add j = add j := fun j hj => if_pos hj
  refine ⟨fun x => ?_, fun i j hi hj => by rw [e i (by omega), e j hj]; exact h.2 i j hi hj⟩
  rw [← h.1 x]
  exact ⟨fun ⟨j, hj, q⟩ => ⟨j, hj, by rw [← e j hj]; exact q⟩, fun ⟨j, hj, q⟩ => ⟨j, hj, by rw [e j hj]; exact q⟩⟩
theorem own_Add_new {add : Nat → Int64} {sz : Nat} {S : Int64 → Prop} {x : Int64} (h : own_Add add sz S) (hS : ¬ S x) : own_Add (own_upd add sz x) (sz + 1) (fun y => S y ∨ y = x) := by
  have e : ∀ j, j < sz → own_upd add sz x j = add j := fun j hj => if_neg (by omega)
  have e' : own_upd add sz x sz = x := if_pos rfl
  refine ⟨fun y => ⟨?_, ?_⟩, fun i j hi hj => ?_⟩
  · rintro ⟨j, hj, q⟩
    by_cases r : j = sz
    · subst r; exact Or.inr (q.symm.trans e')
    · exact Or.inl ((h.1 y).mp ⟨j, by omega, by rw [← e j (by omega)]; exact q⟩)
  · rintro (q | rfl)
    · obtain ⟨j, hj, r⟩ := (h.1 y).mpr q
      exact ⟨j, by omega, by rw [e j hj]; exact r⟩
    · exact ⟨sz, by omega, e'⟩
  · by_cases r : j = sz
    · subst r
      rw [e', e i hi]
      exact fun q => hS ((h.1 x).mp ⟨i, hi, q⟩)
    · rw [e j (by omega), e i (by omega)]
      exact h.2 i j hi (by omega)
theorem own_nz {add : Nat → Int64} {sz L k : Nat} {hs : Int64 → Nat} {tbl : Nat → Int64} {S : Int64 → Prop} {x : Int64} (h : own_Add (own_upd add sz x) (sz + 1) (fun y => S y ∨ y = x)) (I : own_Inv L hs tbl S k) (hx : x + 1 ≠ 0) : ∀ j, j < sz + 1 → own_upd add sz x j + 1 ≠ 0 := fun j hj => by
  rcases (h.1 _).mp ⟨j, hj, rfl⟩ with q | q
  · exact (I.2.1 _ q).1
  · rw [q]; exact hx
theorem own_nogrow {zs : Int32} {sz L AL : Nat} (hzs : zs.toInt = (sz : Int)) (hLA : own_LA sz L AL) (h2 : ¬ sz = 2) (hk : sz ≤ 3) : ¬ own_zl L < (2 : Int32) * (zs + (1 : Int32)) := by
  have h1 := own_inc hzs (by omega)
  have h3 := c_imul 2 (zs + 1)
  have h4 := rng32 (2 * (zs + 1))
  have e2 : (2 : Int32).toInt = 2 := rfl
  rw [h1, e2] at h3
  refine own_nlt ?_
  rcases hLA with ⟨a, rfl, -⟩ | ⟨a, rfl, -⟩
  · have : (own_zl 4).toInt = 4 := rfl
    omega
  · have : (own_zl 8).toInt = 8 := rfl
    omega
def own_Set (Z : State) (h : Heap) (n0 : Nat) (o : Addr) (k : Nat) (S : Int64 → Prop) : Prop :=
  ∃ (tb ad : Addr) (L AL sz : Nat) (tbl add : Nat → Int64) (zs : Int32), Exa Z h o "com/example/concept_reasoner/conceptreasoner/engine/LongSet" ∧ Fld Z h o "com/example/concept_reasoner/conceptreasoner/engine/LongSet" "table" "[J" (.ref tb) ∧ Fld Z h o "com/example/concept_reasoner/conceptreasoner/engine/LongSet" "added" "[J" (.ref ad) ∧ Fld Z h o "com/example/concept_reasoner/conceptreasoner/engine/LongSet" "size" "I" (.int zs) ∧
    own_Ar Z h tb .long L (fun j => .long (tbl j)) ∧ own_Ar Z h ad .long AL (fun j => .long (add j)) ∧ n0 ≤ o ∧ n0 ≤ tb ∧ n0 ≤ ad ∧ tb ≠ ad ∧ o ≠ tb ∧ o ≠ ad ∧ zs.toInt = (sz : Int) ∧ sz ≤ k ∧ own_LA sz L AL ∧ own_Inv L (own_hash L) tbl S sz ∧ own_Add add sz S
theorem own_Set.mono {Z : State} {h : Heap} {n0 k k' : Nat} {o : Addr} {S : Int64 → Prop} (q : own_Set Z h n0 o k S) (hk : k ≤ k') : own_Set Z h n0 o k' S := by
  obtain ⟨tb, ad, L, AL, sz, tbl, add, zs, a1, a2, a3, a4, a5, a6, a7, a8, a9, a10, a11, a12, a13, a14, a15⟩ := q
  exact ⟨tb, ad, L, AL, sz, tbl, add, zs, a1, a2, a3, a4, a5, a6, a7, a8, a9, a10, a11, a12, a13, Nat.le_trans a14 hk, a15⟩
theorem own_five' (x : Int32) : ((x &&& (7 : Int32)) % (5 : Int32)) = 0 ∨ ((x &&& (7 : Int32)) % (5 : Int32)) = 1 ∨ ((x &&& (7 : Int32)) % (5 : Int32)) = 2 ∨ ((x &&& (7 : Int32)) % (5 : Int32)) = 3 ∨ ((x &&& (7 : Int32)) % (5 : Int32)) = 4 := by
  have h := c_and x 7 (by decide)
  have r := (c_iremV (x &&& 7) 5).1 h.1 (by decide)
  have e5 : (5 : Int32).toInt = 5 := rfl
  generalize ((x &&& (7 : Int32)) % (5 : Int32)) = y at *
  have : y.toInt = 0 ∨ y.toInt = 1 ∨ y.toInt = 2 ∨ y.toInt = 3 ∨ y.toInt = 4 := by omega
  rcases this with q | q | q | q | q
  · exact Or.inl (own_eq q)
  · exact Or.inr (Or.inl (own_eq q))
  · exact Or.inr (Or.inr (Or.inl (own_eq q)))
  · exact Or.inr (Or.inr (Or.inr (Or.inl (own_eq q))))
  · exact Or.inr (Or.inr (Or.inr (Or.inr (own_eq q))))
theorem own_arv2 {Z : State} {h : Heap} {a : Addr} {f : Nat → Int64} (A : own_Ar Z h a .long 2 (fun j => .long (f j))) : ∃ k, Arv Z h a k .long (2 : Int32) [.long (f 0), .long (f 1)] (.long 0) := by
  obtain ⟨-, c, A, r, r2⟩ := A
  refine ⟨c.cls, c, A, rfl, r, by decide, fun k hk => ?_, fun i hi => ?_⟩
  · rw [r] at hk
    have : k = 0 ∨ k = 1 := by omega
    rcases this with rfl | rfl
    · exact r2 0 (by decide)
    · exact r2 1 (by decide)
  · rw [r] at hi
    have : i = 0 ∨ i = 1 := by omega
    rcases this with rfl | rfl <;> rfl
theorem own_arv4 {Z : State} {h : Heap} {a : Addr} (A : own_Ar Z h a .long 4 (fun _ => .long 0)) : ∃ k, Arv Z h a k .long (4 : Int32) [.long 0, .long 0, .long 0, .long 0] (.long 0) := by
  obtain ⟨-, c, A, r, r2⟩ := A
  have e : ∀ i, i < 4 → ([.long 0, .long 0, .long 0, .long 0] : List Value).getD i (.long 0) = .long 0 := fun i hi => by
    have : i = 0 ∨ i = 1 ∨ i = 2 ∨ i = 3 := by omega
    rcases this with rfl | rfl | rfl | rfl <;> rfl
  refine ⟨c.cls, c, A, rfl, r, by decide, fun k hk => ?_, fun i hi => ?_⟩
  · rw [r] at hk
    rw [e k hk]
    exact r2 k hk
  · rw [r] at hi
    rw [e i hi]; rfl
theorem own_arv_back {Z : State} {h : Heap} {a : Addr} {k : ClassId} {f : Nat → Int64} {vs : List Value} (A : Arv Z h a k .long (4 : Int32) vs (.long 0)) (hv : vs = [.long (f 0), .long (f 1), .long 0, .long 0]) : own_Ar Z h a .long 4 (fun j => .long (own_cut f j)) := by
  obtain ⟨c, A, -, r, -, H, -⟩ := A
  subst hv
  refine ⟨by decide, c, A, r, fun j hj => ?_⟩
  rw [H j (by rw [r]; exact hj)]
  have : j = 0 ∨ j = 1 ∨ j = 2 ∨ j = 3 := by omega
  rcases this with rfl | rfl | rfl | rfl <;> rfl
theorem d1_0 : decode method_2_code 0 = .ok (.lload_n 0, 1) := by decide +kernel
theorem d1_1 : decode method_2_code 1 = .ok (.ldc2_w 9, 3) := by decide +kernel
theorem d1_4 : decode method_2_code 4 = .ok (.land, 1) := by decide +kernel
theorem d1_5 : decode method_2_code 5 = .ok (.lstore_n 2, 1) := by decide +kernel
theorem d1_6 : decode method_2_code 6 = .ok (.lload_n 2, 1) := by decide +kernel
theorem d1_7 : decode method_2_code 7 = .ok (.ldc2_w 9, 3) := by decide +kernel
theorem d1_10 : decode method_2_code 10 = .ok (.lcmp, 1) := by decide +kernel
theorem d1_11 : decode method_2_code 11 = .ok (.ifCond .ne 7, 3) := by decide +kernel
theorem d1_14 : decode method_2_code 14 = .ok (.lload_n 2, 1) := by decide +kernel
theorem d1_15 : decode method_2_code 15 = .ok (.lconst 1, 1) := by decide +kernel
theorem d1_16 : decode method_2_code 16 = .ok (.lsub, 1) := by decide +kernel
theorem d1_17 : decode method_2_code 17 = .ok (.lreturn, 1) := by decide +kernel
theorem d1_18 : decode method_2_code 18 = .ok (.lload_n 2, 1) := by decide +kernel
theorem d1_19 : decode method_2_code 19 = .ok (.lreturn, 1) := by decide +kernel
def Q1 (Z : State) (x : Int64) (h0 : Heap) (n0 : Nat) (v : Option Value) (h : Heap) (L : List Loc) : Prop := ∃ y : Int64, v = some (.long y) ∧ Fr n0 L ∧ h = h0 ∧ y + 1 ≠ 0
theorem ef_1 (m : MethodId) (x0 : Int64) : entryFrame m #[(.long x0)] 4 = mkF m 0 #[.val (.long x0), .second, .unset, .unset] [] := by first | (simp [entryFrame, mkF, argsToLocals, Value.category]; done) | rfl
set_option maxRecDepth 65536 in
set_option maxHeartbeats 40000000 in
theorem rm1 (l : Launch) (Z : State) (a0 : Array Value) (hw : ∀ d ∈ tables_1, d.before a0 Z = true) (ws : List Jvm.Cond) (x : Int64) (h0 : Heap) (n0 : Nat) (Z0 : n0 ≤ h0.size)  :
    own_Met l Z (⟨"com/example/concept_reasoner/conceptreasoner/engine/LongSetContainsPinLaw", "norm", "(J)J"⟩ : MethodName) method_2_code 4 (some .long) ({ frames := 0, cells := 0, slots := 0, locals := 0 } : Room) ws #[(.long x)] h0 (Q1 Z x h0 n0) := by
  refine own_enter (plainFor_of_name (by first | (simp [plainName, overriddenIn]; done) | decide +kernel)) ?_
  intro p e s m below meth c s₁ hx hby hml hown hnm hlk hret hZ X0 e0
  have N0 := Fr.nil n0
  refine own_go (fun _ q => castTop (ef_1 m x) q) ?_
  show own_Go _ _ _ _ _ _ _ (s₁.setTop (mkF m 0 #[.val (.long x), .second, .unset, .unset] []))
  refine own_go (fun _ q => XS.lloadN X0.here hx rfl (hb hby d1_0) rfl q) ?_
  show own_Go _ _ _ _ _ _ _ (s₁.setTop (mkF m 1 #[.val (.long x), .second, .unset, .unset] [(.long x)]))
  refine own_go (X0.ldc2Long hx hown (mvT hZ (hw _ (List.mem_of_getElem? (i := 4) rfl))) (g := (mkF m 1 #[.val (.long x), .second, .unset, .unset] [(.long x)])) rfl (hb hby d1_1)) ?_
  show own_Go _ _ _ _ _ _ _ (s₁.setTop (mkF m 4 #[.val (.long x), .second, .unset, .unset] [(.long (9223372036854775807 : Int64)), (.long x)]))
  refine own_go (fun _ q => XS.land X0.here hx rfl (hb hby d1_4) rfl q) ?_
  show own_Go _ _ _ _ _ _ _ (s₁.setTop (mkF m 5 #[.val (.long x), .second, .unset, .unset] [(.long (x &&& (9223372036854775807 : Int64)))]))
  refine own_go (fun _ q => XS.lstoreN X0.here hx rfl (hb hby d1_5) rfl (l' := #[.val (.long x), .second, .val (.long (x &&& (9223372036854775807 : Int64))), .second]) rfl q) ?_
  show own_Go _ _ _ _ _ _ _ (s₁.setTop (mkF m 6 #[.val (.long x), .second, .val (.long (x &&& (9223372036854775807 : Int64))), .second] []))
  refine own_go (fun _ q => XS.lloadN X0.here hx rfl (hb hby d1_6) rfl q) ?_
  show own_Go _ _ _ _ _ _ _ (s₁.setTop (mkF m 7 #[.val (.long x), .second, .val (.long (x &&& (9223372036854775807 : Int64))), .second] [(.long (x &&& (9223372036854775807 : Int64)))]))
  refine own_go (X0.ldc2Long hx hown (mvT hZ (hw _ (List.mem_of_getElem? (i := 4) rfl))) (g := (mkF m 7 #[.val (.long x), .second, .val (.long (x &&& (9223372036854775807 : Int64))), .second] [(.long (x &&& (9223372036854775807 : Int64)))])) rfl (hb hby d1_7)) ?_
  show own_Go _ _ _ _ _ _ _ (s₁.setTop (mkF m 10 #[.val (.long x), .second, .val (.long (x &&& (9223372036854775807 : Int64))), .second] [(.long (9223372036854775807 : Int64)), (.long (x &&& (9223372036854775807 : Int64)))]))
  refine own_go (fun _ q => XS.lcmp X0.here hx rfl (hb hby d1_10) rfl q) ?_
  show own_Go _ _ _ _ _ _ _ (s₁.setTop (mkF m 11 #[.val (.long x), .second, .val (.long (x &&& (9223372036854775807 : Int64))), .second] [(.int (lcmpW (x &&& (9223372036854775807 : Int64)) (9223372036854775807 : Int64)))]))
  by_cases hm : (x &&& (9223372036854775807 : Int64)) = (9223372036854775807 : Int64)
  · refine own_go (fun _ q => XS.ifNo X0.here hx rfl (hb hby d1_11) rfl ((if0 _ _).trans (teq ((lw_eq _ _).mpr hm)).2) q) ?_
    show own_Go _ _ _ _ _ _ _ (s₁.setTop (mkF m 14 #[.val (.long x), .second, .val (.long (x &&& (9223372036854775807 : Int64))), .second] []))
    refine own_go (fun _ q => XS.lloadN X0.here hx rfl (hb hby d1_14) rfl q) ?_
    show own_Go _ _ _ _ _ _ _ (s₁.setTop (mkF m 15 #[.val (.long x), .second, .val (.long (x &&& (9223372036854775807 : Int64))), .second] [(.long (x &&& (9223372036854775807 : Int64)))]))
    refine own_go (fun _ q => XS.lconst X0.here hx rfl (hb hby d1_15) q) ?_
    show own_Go _ _ _ _ _ _ _ (s₁.setTop (mkF m 16 #[.val (.long x), .second, .val (.long (x &&& (9223372036854775807 : Int64))), .second] [(.long (1 : Int64)), (.long (x &&& (9223372036854775807 : Int64)))]))
    refine own_go (fun _ q => XS.lsub X0.here hx rfl (hb hby d1_16) rfl q) ?_
    show own_Go _ _ _ _ _ _ _ (s₁.setTop (mkF m 17 #[.val (.long x), .second, .val (.long (x &&& (9223372036854775807 : Int64))), .second] [(.long ((x &&& (9223372036854775807 : Int64)) - (1 : Int64)))]))
    exact own_retJ X0 hx hlk hret (hb hby d1_17) (by decide) (by decide) ⟨_, rfl, N0, e0, own_norm1 hm⟩
  · refine own_go (fun _ q => XS.ifYes X0.here hx rfl (pc0 := 11) (pc' := 18) rfl (hb hby d1_11) rfl ((if0 _ _).trans (feq (fun q => hm ((lw_eq _ _).mp q))).2) (by decide) (by decide) q) ?_
    show own_Go _ _ _ _ _ _ _ (s₁.setTop (mkF m 18 #[.val (.long x), .second, .val (.long (x &&& (9223372036854775807 : Int64))), .second] []))
    refine own_go (fun _ q => XS.lloadN X0.here hx rfl (hb hby d1_18) rfl q) ?_
    show own_Go _ _ _ _ _ _ _ (s₁.setTop (mkF m 19 #[.val (.long x), .second, .val (.long (x &&& (9223372036854775807 : Int64))), .second] [(.long (x &&& (9223372036854775807 : Int64)))]))
    exact own_retJ X0 hx hlk hret (hb hby d1_19) (by decide) (by decide) ⟨_, rfl, N0, e0, own_norm2 hm⟩
theorem d5_0 : decode prog_38_method_6_code 0 = .ok (.aload_n 0, 1) := by decide +kernel
theorem d5_1 : decode prog_38_method_6_code 1 = .ok (.getfield 7, 3) := by decide +kernel
theorem d5_4 : decode prog_38_method_6_code 4 = .ok (.arraylength, 1) := by decide +kernel
theorem d5_5 : decode prog_38_method_6_code 5 = .ok (.iconst 1, 1) := by decide +kernel
theorem d5_6 : decode prog_38_method_6_code 6 = .ok (.isub, 1) := by decide +kernel
theorem d5_7 : decode prog_38_method_6_code 7 = .ok (.istore_n 3, 1) := by decide +kernel
theorem d5_8 : decode prog_38_method_6_code 8 = .ok (.lload_n 1, 1) := by decide +kernel
theorem d5_9 : decode prog_38_method_6_code 9 = .ok (.ldc2_w 33, 3) := by decide +kernel
theorem d5_12 : decode prog_38_method_6_code 12 = .ok (.lmul, 1) := by decide +kernel
theorem d5_13 : decode prog_38_method_6_code 13 = .ok (.bipush 32, 2) := by decide +kernel
theorem d5_15 : decode prog_38_method_6_code 15 = .ok (.lushr, 1) := by decide +kernel
theorem d5_16 : decode prog_38_method_6_code 16 = .ok (.l2i, 1) := by decide +kernel
theorem d5_17 : decode prog_38_method_6_code 17 = .ok (.iload_n 3, 1) := by decide +kernel
theorem d5_18 : decode prog_38_method_6_code 18 = .ok (.iand, 1) := by decide +kernel
theorem d5_19 : decode prog_38_method_6_code 19 = .ok (.istore 4, 2) := by decide +kernel
theorem d5_21 : decode prog_38_method_6_code 21 = .ok (.aload_n 0, 1) := by decide +kernel
theorem d5_22 : decode prog_38_method_6_code 22 = .ok (.getfield 7, 3) := by decide +kernel
theorem d5_25 : decode prog_38_method_6_code 25 = .ok (.iload 4, 2) := by decide +kernel
theorem d5_27 : decode prog_38_method_6_code 27 = .ok (.laload, 1) := by decide +kernel
theorem d5_28 : decode prog_38_method_6_code 28 = .ok (.lconst 0, 1) := by decide +kernel
theorem d5_29 : decode prog_38_method_6_code 29 = .ok (.lcmp, 1) := by decide +kernel
theorem d5_30 : decode prog_38_method_6_code 30 = .ok (.ifCond .eq 28, 3) := by decide +kernel
theorem d5_33 : decode prog_38_method_6_code 33 = .ok (.aload_n 0, 1) := by decide +kernel
theorem d5_34 : decode prog_38_method_6_code 34 = .ok (.getfield 7, 3) := by decide +kernel
theorem d5_37 : decode prog_38_method_6_code 37 = .ok (.iload 4, 2) := by decide +kernel
theorem d5_39 : decode prog_38_method_6_code 39 = .ok (.laload, 1) := by decide +kernel
theorem d5_40 : decode prog_38_method_6_code 40 = .ok (.lload_n 1, 1) := by decide +kernel
theorem d5_41 : decode prog_38_method_6_code 41 = .ok (.lconst 1, 1) := by decide +kernel
theorem d5_42 : decode prog_38_method_6_code 42 = .ok (.ladd, 1) := by decide +kernel
theorem d5_43 : decode prog_38_method_6_code 43 = .ok (.lcmp, 1) := by decide +kernel
theorem d5_44 : decode prog_38_method_6_code 44 = .ok (.ifCond .eq 14, 3) := by decide +kernel
theorem d5_47 : decode prog_38_method_6_code 47 = .ok (.iload 4, 2) := by decide +kernel
theorem d5_49 : decode prog_38_method_6_code 49 = .ok (.iconst 1, 1) := by decide +kernel
theorem d5_50 : decode prog_38_method_6_code 50 = .ok (.iadd, 1) := by decide +kernel
theorem d5_51 : decode prog_38_method_6_code 51 = .ok (.iload_n 3, 1) := by decide +kernel
theorem d5_52 : decode prog_38_method_6_code 52 = .ok (.iand, 1) := by decide +kernel
theorem d5_53 : decode prog_38_method_6_code 53 = .ok (.istore 4, 2) := by decide +kernel
theorem d5_55 : decode prog_38_method_6_code 55 = .ok (.goto (-34), 3) := by decide +kernel
theorem d5_58 : decode prog_38_method_6_code 58 = .ok (.iload 4, 2) := by decide +kernel
theorem d5_60 : decode prog_38_method_6_code 60 = .ok (.ireturn, 1) := by decide +kernel
def Q5 (Z : State) (o : Addr) (tb : Addr) (L : Nat) (tbl : Nat → Int64) (x : Int64) (h0 : Heap) (n0 : Nat) (v : Option Value) (h : Heap) (LL : List Loc) : Prop := ∃ (r : Int32) (d : Nat), v = some (.int r) ∧ Fr n0 LL ∧ h = h0 ∧ d < L ∧ r.toInt = (((own_hash L x + d) % L : Nat) : Int) ∧ (tbl ((own_hash L x + d) % L) = 0 ∨ tbl ((own_hash L x + d) % L) = x + 1) ∧ own_path L tbl (own_hash L x) (x + 1) d
theorem ef_5 (m : MethodId) (x0 : Addr) (x1 : Int64) : entryFrame m #[(.ref x0), (.long x1)] 5 = mkF m 0 #[.val (.ref x0), .val (.long x1), .second, .unset, .unset] [] := by first | (simp [entryFrame, mkF, argsToLocals, Value.category]; done) | rfl
set_option maxRecDepth 65536 in
set_option maxHeartbeats 40000000 in
theorem rm5 (l : Launch) (Z : State) (a0 : Array Value) (hw : ∀ d ∈ tables_1, d.before a0 Z = true) (ws : List Jvm.Cond) (o : Addr) (tb : Addr) (L : Nat) (tbl : Nat → Int64) (x : Int64) (h0 : Heap) (n0 : Nat) (Z0 : n0 ≤ h0.size) (Ft : Fld Z h0 o "com/example/concept_reasoner/conceptreasoner/engine/LongSet" "table" "[J" (.ref tb)) (At : own_Ar Z h0 tb .long L (fun j => .long (tbl j))) (hL : L = 4 ∨ L = 8) (hem : ∃ e, e < L ∧ tbl e = 0) :
    own_Met l Z (⟨"com/example/concept_reasoner/conceptreasoner/engine/LongSet", "slotOf", "(J)I"⟩ : MethodName) prog_38_method_6_code 5 (some .int) ({ frames := 0, cells := 0, slots := 0, locals := 0 } : Room) ws #[(.ref o), (.long x)] h0 (Q5 Z o tb L tbl x h0 n0) := by
  refine own_enter (plainFor_of_name (by first | (simp [plainName, overriddenIn]; done) | decide +kernel)) ?_
  intro p e s m below meth c s₁ hx hby hml hown hnm hlk hret hZ X0 e0
  have N0 := Fr.nil n0
  refine own_go (fun _ q => castTop (ef_5 m o x) q) ?_
  show own_Go _ _ _ _ _ _ _ (s₁.setTop (mkF m 0 #[.val (.ref o), .val (.long x), .second, .unset, .unset] []))
  refine own_go (fun _ q => XS.aloadN X0.here hx rfl (hb hby d5_0) rfl rfl q) ?_
  show own_Go _ _ _ _ _ _ _ (s₁.setTop (mkF m 1 #[.val (.ref o), .val (.long x), .second, .unset, .unset] [(.ref o)]))
  obtain ⟨T1, X1, e1, st1⟩ := getF X0 hx hZ hown (host := "") (Or.inl (hw _ (List.mem_of_getElem? (i := 15) rfl))) Via.refl e0 Ft (g := (mkF m 1 #[.val (.ref o), .val (.long x), .second, .unset, .unset] [(.ref o)])) rfl rfl (hb hby d5_1)
  refine own_go st1 ?_
  show own_Go _ _ _ _ _ _ _ (T1.setTop (mkF m 4 #[.val (.ref o), .val (.long x), .second, .unset, .unset] [(.ref tb)]))
  refine own_length (z := (own_zl L)) X1 hx hZ e1 At (own_zl_toInt hL) (hb hby d5_4) rfl ?_
  show own_Go _ _ _ _ _ _ _ (T1.setTop (mkF m 5 #[.val (.ref o), .val (.long x), .second, .unset, .unset] [(.int (own_zl L))]))
  refine own_go (fun _ q => XS.iconst X1.here hx rfl (hb hby d5_5) q) ?_
  show own_Go _ _ _ _ _ _ _ (T1.setTop (mkF m 6 #[.val (.ref o), .val (.long x), .second, .unset, .unset] [(.int (1 : Int32)), (.int (own_zl L))]))
  refine own_go (fun _ q => XS.isub X1.here hx rfl (hb hby d5_6) rfl q) ?_
  show own_Go _ _ _ _ _ _ _ (T1.setTop (mkF m 7 #[.val (.ref o), .val (.long x), .second, .unset, .unset] [(.int ((own_zl L) - (1 : Int32)))]))
  refine own_go (fun _ q => XS.istoreN X1.here hx rfl (hb hby d5_7) rfl (l' := #[.val (.ref o), .val (.long x), .second, .val (.int ((own_zl L) - (1 : Int32))), .unset]) rfl q) ?_
  show own_Go _ _ _ _ _ _ _ (T1.setTop (mkF m 8 #[.val (.ref o), .val (.long x), .second, .val (.int ((own_zl L) - (1 : Int32))), .unset] []))
  refine own_go (fun _ q => XS.lloadN X1.here hx rfl (hb hby d5_8) rfl q) ?_
  show own_Go _ _ _ _ _ _ _ (T1.setTop (mkF m 9 #[.val (.ref o), .val (.long x), .second, .val (.int ((own_zl L) - (1 : Int32))), .unset] [(.long x)]))
  refine own_go (X1.ldc2Long hx hown (mvT hZ (hw _ (List.mem_of_getElem? (i := 28) rfl))) (g := (mkF m 9 #[.val (.ref o), .val (.long x), .second, .val (.int ((own_zl L) - (1 : Int32))), .unset] [(.long x)])) rfl (hb hby d5_9)) ?_
  show own_Go _ _ _ _ _ _ _ (T1.setTop (mkF m 12 #[.val (.ref o), .val (.long x), .second, .val (.int ((own_zl L) - (1 : Int32))), .unset] [(.long (-7046029254386353131 : Int64)), (.long x)]))
  refine own_go (fun _ q => XS.lmul X1.here hx rfl (hb hby d5_12) rfl q) ?_
  show own_Go _ _ _ _ _ _ _ (T1.setTop (mkF m 13 #[.val (.ref o), .val (.long x), .second, .val (.int ((own_zl L) - (1 : Int32))), .unset] [(.long (x * (-7046029254386353131 : Int64)))]))
  refine own_go (fun _ q => XS.bipush X1.here hx rfl (hb hby d5_13) q) ?_
  show own_Go _ _ _ _ _ _ _ (T1.setTop (mkF m 15 #[.val (.ref o), .val (.long x), .second, .val (.int ((own_zl L) - (1 : Int32))), .unset] [(.int (32 : Int32)), (.long (x * (-7046029254386353131 : Int64)))]))
  refine own_go (fun _ q => XS.lushr X1.here hx rfl (hb hby d5_15) rfl q) ?_
  show own_Go _ _ _ _ _ _ _ (T1.setTop (mkF m 16 #[.val (.ref o), .val (.long x), .second, .val (.int ((own_zl L) - (1 : Int32))), .unset] [(.long (((x * (-7046029254386353131 : Int64)).toUInt64 >>> ((32 : Int32) &&& 0x3f).toInt64.toUInt64).toInt64))]))
  refine own_go (fun _ q => XS.l2i X1.here hx rfl (hb hby d5_16) rfl q) ?_
  show own_Go _ _ _ _ _ _ _ (T1.setTop (mkF m 17 #[.val (.ref o), .val (.long x), .second, .val (.int ((own_zl L) - (1 : Int32))), .unset] [(.int ((((x * (-7046029254386353131 : Int64)).toUInt64 >>> ((32 : Int32) &&& 0x3f).toInt64.toUInt64).toInt64).toInt32))]))
  refine own_go (fun _ q => XS.iloadN X1.here hx rfl (hb hby d5_17) rfl q) ?_
  show own_Go _ _ _ _ _ _ _ (T1.setTop (mkF m 18 #[.val (.ref o), .val (.long x), .second, .val (.int ((own_zl L) - (1 : Int32))), .unset] [(.int ((own_zl L) - (1 : Int32))), (.int ((((x * (-7046029254386353131 : Int64)).toUInt64 >>> ((32 : Int32) &&& 0x3f).toInt64.toUInt64).toInt64).toInt32))]))
  refine own_go (fun _ q => XS.iand X1.here hx rfl (hb hby d5_18) rfl q) ?_
  show own_Go _ _ _ _ _ _ _ (T1.setTop (mkF m 19 #[.val (.ref o), .val (.long x), .second, .val (.int ((own_zl L) - (1 : Int32))), .unset] [(.int (((((x * (-7046029254386353131 : Int64)).toUInt64 >>> ((32 : Int32) &&& 0x3f).toInt64.toUInt64).toInt64).toInt32) &&& ((own_zl L) - (1 : Int32))))]))
  refine own_go (fun _ q => XS.istore X1.here hx rfl (hb hby d5_19) rfl (l' := #[.val (.ref o), .val (.long x), .second, .val (.int ((own_zl L) - (1 : Int32))), .val (.int (((((x * (-7046029254386353131 : Int64)).toUInt64 >>> ((32 : Int32) &&& 0x3f).toInt64.toUInt64).toInt64).toInt32) &&& ((own_zl L) - (1 : Int32))))]) rfl q) ?_
  show own_Go _ _ _ _ _ _ _ (T1.setTop (mkF m 21 #[.val (.ref o), .val (.long x), .second, .val (.int ((own_zl L) - (1 : Int32))), .val (.int (((((x * (-7046029254386353131 : Int64)).toUInt64 >>> ((32 : Int32) &&& 0x3f).toInt64.toUInt64).toInt64).toInt32) &&& ((own_zl L) - (1 : Int32))))] []))
  show own_Go _ _ _ _ _ _ _ (T1.setTop (mkF m 21 #[.val (.ref o), .val (.long x), .second, .val (.int ((own_zl L) - (1 : Int32))), .val (.int (own_hz L x))] []))
  obtain ⟨ee, he, hz⟩ := hem
  obtain ⟨de, hde, hdee⟩ := own_reach (own_hash_lt hL x) he
  rw [← hdee] at hz
  have loop : ∀ (k d : Nat) (zi : Int32) (T : State), d + k = de → zi.toInt = (((own_hash L x + d) % L : Nat) : Int) → own_path L tbl (own_hash L x) (x + 1) d → Stand p l e ({ frames := 0, cells := 0, slots := 0, locals := 0 } : Room) s m #[(.ref o), (.long x)] below meth c T [] 0 0 → T.heap = h0 → own_Go p e below s (Q5 Z o tb L tbl x h0 n0) 0 0 (T.setTop (mkF m 21 #[.val (.ref o), .val (.long x), .second, .val (.int ((own_zl L) - (1 : Int32))), .val (.int zi)] [])) := by
    intro k
    induction k with
    | zero =>
      intro d zi T hd hzi hp X eT
      obtain rfl : d = de := by omega
      refine own_go (fun _ q => XS.aloadN X.here hx rfl (hb hby d5_21) rfl rfl q) ?_
      show own_Go _ _ _ _ _ _ _ (T.setTop (mkF m 22 #[.val (.ref o), .val (.long x), .second, .val (.int ((own_zl L) - (1 : Int32))), .val (.int zi)] [(.ref o)]))
      obtain ⟨T2, X2, e2, st2⟩ := getF X hx hZ hown (host := "") (Or.inl (hw _ (List.mem_of_getElem? (i := 15) rfl))) Via.refl eT Ft (g := (mkF m 22 #[.val (.ref o), .val (.long x), .second, .val (.int ((own_zl L) - (1 : Int32))), .val (.int zi)] [(.ref o)])) rfl rfl (hb hby d5_22)
      refine own_go st2 ?_
      show own_Go _ _ _ _ _ _ _ (T2.setTop (mkF m 25 #[.val (.ref o), .val (.long x), .second, .val (.int ((own_zl L) - (1 : Int32))), .val (.int zi)] [(.ref tb)]))
      refine own_go (fun _ q => XS.iload X2.here hx rfl (hb hby d5_25) rfl q) ?_
      show own_Go _ _ _ _ _ _ _ (T2.setTop (mkF m 27 #[.val (.ref o), .val (.long x), .second, .val (.int ((own_zl L) - (1 : Int32))), .val (.int zi)] [(.int zi), (.ref tb)]))
      refine own_laload X2 hx hZ e2 At hzi (Nat.mod_lt _ (by rcases hL with rfl | rfl <;> decide)) rfl (hb hby d5_27) rfl ?_
      show own_Go _ _ _ _ _ _ _ (T2.setTop (mkF m 28 #[.val (.ref o), .val (.long x), .second, .val (.int ((own_zl L) - (1 : Int32))), .val (.int zi)] [(.long (tbl ((own_hash L x + d) % L)))]))
      refine own_go (fun _ q => XS.lconst X2.here hx rfl (hb hby d5_28) q) ?_
      show own_Go _ _ _ _ _ _ _ (T2.setTop (mkF m 29 #[.val (.ref o), .val (.long x), .second, .val (.int ((own_zl L) - (1 : Int32))), .val (.int zi)] [(.long (0 : Int64)), (.long (tbl ((own_hash L x + d) % L)))]))
      refine own_go (fun _ q => XS.lcmp X2.here hx rfl (hb hby d5_29) rfl q) ?_
      show own_Go _ _ _ _ _ _ _ (T2.setTop (mkF m 30 #[.val (.ref o), .val (.long x), .second, .val (.int ((own_zl L) - (1 : Int32))), .val (.int zi)] [(.int (lcmpW (tbl ((own_hash L x + d) % L)) (0 : Int64)))]))
      refine own_go (fun _ q => XS.ifYes X2.here hx rfl (pc0 := 30) (pc' := 58) rfl (hb hby d5_30) rfl ((if0 _ _).trans (teq ((lw_eq _ _).mpr hz)).1) (by decide) (by decide) q) ?_
      show own_Go _ _ _ _ _ _ _ (T2.setTop (mkF m 58 #[.val (.ref o), .val (.long x), .second, .val (.int ((own_zl L) - (1 : Int32))), .val (.int zi)] []))
      refine own_go (fun _ q => XS.iload X2.here hx rfl (hb hby d5_58) rfl q) ?_
      show own_Go _ _ _ _ _ _ _ (T2.setTop (mkF m 60 #[.val (.ref o), .val (.long x), .second, .val (.int ((own_zl L) - (1 : Int32))), .val (.int zi)] [(.int zi)]))
      exact own_retI X2 hx hlk hret (hb hby d5_60) (by decide) (by decide) ⟨_, d, rfl, N0, e2, hde, hzi, Or.inl hz, hp⟩
    | succ k ih =>
      intro d zi T hd hzi hp X eT
      refine own_go (fun _ q => XS.aloadN X.here hx rfl (hb hby d5_21) rfl rfl q) ?_
      show own_Go _ _ _ _ _ _ _ (T.setTop (mkF m 22 #[.val (.ref o), .val (.long x), .second, .val (.int ((own_zl L) - (1 : Int32))), .val (.int zi)] [(.ref o)]))
      obtain ⟨T3, X3, e3, st3⟩ := getF X hx hZ hown (host := "") (Or.inl (hw _ (List.mem_of_getElem? (i := 15) rfl))) Via.refl eT Ft (g := (mkF m 22 #[.val (.ref o), .val (.long x), .second, .val (.int ((own_zl L) - (1 : Int32))), .val (.int zi)] [(.ref o)])) rfl rfl (hb hby d5_22)
      refine own_go st3 ?_
      show own_Go _ _ _ _ _ _ _ (T3.setTop (mkF m 25 #[.val (.ref o), .val (.long x), .second, .val (.int ((own_zl L) - (1 : Int32))), .val (.int zi)] [(.ref tb)]))
      refine own_go (fun _ q => XS.iload X3.here hx rfl (hb hby d5_25) rfl q) ?_
      show own_Go _ _ _ _ _ _ _ (T3.setTop (mkF m 27 #[.val (.ref o), .val (.long x), .second, .val (.int ((own_zl L) - (1 : Int32))), .val (.int zi)] [(.int zi), (.ref tb)]))
      refine own_laload X3 hx hZ e3 At hzi (Nat.mod_lt _ (by rcases hL with rfl | rfl <;> decide)) rfl (hb hby d5_27) rfl ?_
      show own_Go _ _ _ _ _ _ _ (T3.setTop (mkF m 28 #[.val (.ref o), .val (.long x), .second, .val (.int ((own_zl L) - (1 : Int32))), .val (.int zi)] [(.long (tbl ((own_hash L x + d) % L)))]))
      refine own_go (fun _ q => XS.lconst X3.here hx rfl (hb hby d5_28) q) ?_
      show own_Go _ _ _ _ _ _ _ (T3.setTop (mkF m 29 #[.val (.ref o), .val (.long x), .second, .val (.int ((own_zl L) - (1 : Int32))), .val (.int zi)] [(.long (0 : Int64)), (.long (tbl ((own_hash L x + d) % L)))]))
      refine own_go (fun _ q => XS.lcmp X3.here hx rfl (hb hby d5_29) rfl q) ?_
      show own_Go _ _ _ _ _ _ _ (T3.setTop (mkF m 30 #[.val (.ref o), .val (.long x), .second, .val (.int ((own_zl L) - (1 : Int32))), .val (.int zi)] [(.int (lcmpW (tbl ((own_hash L x + d) % L)) (0 : Int64)))]))
      by_cases he0 : (tbl ((own_hash L x + d) % L)) = (0 : Int64)
      · refine own_go (fun _ q => XS.ifYes X3.here hx rfl (pc0 := 30) (pc' := 58) rfl (hb hby d5_30) rfl ((if0 _ _).trans (teq ((lw_eq _ _).mpr he0)).1) (by decide) (by decide) q) ?_
        show own_Go _ _ _ _ _ _ _ (T3.setTop (mkF m 58 #[.val (.ref o), .val (.long x), .second, .val (.int ((own_zl L) - (1 : Int32))), .val (.int zi)] []))
        refine own_go (fun _ q => XS.iload X3.here hx rfl (hb hby d5_58) rfl q) ?_
        show own_Go _ _ _ _ _ _ _ (T3.setTop (mkF m 60 #[.val (.ref o), .val (.long x), .second, .val (.int ((own_zl L) - (1 : Int32))), .val (.int zi)] [(.int zi)]))
        exact own_retI X3 hx hlk hret (hb hby d5_60) (by decide) (by decide) ⟨_, d, rfl, N0, e3, by omega, hzi, Or.inl he0, hp⟩
      · refine own_go (fun _ q => XS.ifNo X3.here hx rfl (hb hby d5_30) rfl ((if0 _ _).trans (feq (fun q => he0 ((lw_eq _ _).mp q))).1) q) ?_
        show own_Go _ _ _ _ _ _ _ (T3.setTop (mkF m 33 #[.val (.ref o), .val (.long x), .second, .val (.int ((own_zl L) - (1 : Int32))), .val (.int zi)] []))
        refine own_go (fun _ q => XS.aloadN X3.here hx rfl (hb hby d5_33) rfl rfl q) ?_
        show own_Go _ _ _ _ _ _ _ (T3.setTop (mkF m 34 #[.val (.ref o), .val (.long x), .second, .val (.int ((own_zl L) - (1 : Int32))), .val (.int zi)] [(.ref o)]))
        obtain ⟨T4, X4, e4, st4⟩ := getF X3 hx hZ hown (host := "") (Or.inl (hw _ (List.mem_of_getElem? (i := 15) rfl))) Via.refl e3 Ft (g := (mkF m 34 #[.val (.ref o), .val (.long x), .second, .val (.int ((own_zl L) - (1 : Int32))), .val (.int zi)] [(.ref o)])) rfl rfl (hb hby d5_34)
        refine own_go st4 ?_
        show own_Go _ _ _ _ _ _ _ (T4.setTop (mkF m 37 #[.val (.ref o), .val (.long x), .second, .val (.int ((own_zl L) - (1 : Int32))), .val (.int zi)] [(.ref tb)]))
        refine own_go (fun _ q => XS.iload X4.here hx rfl (hb hby d5_37) rfl q) ?_
        show own_Go _ _ _ _ _ _ _ (T4.setTop (mkF m 39 #[.val (.ref o), .val (.long x), .second, .val (.int ((own_zl L) - (1 : Int32))), .val (.int zi)] [(.int zi), (.ref tb)]))
        refine own_laload X4 hx hZ e4 At hzi (Nat.mod_lt _ (by rcases hL with rfl | rfl <;> decide)) rfl (hb hby d5_39) rfl ?_
        show own_Go _ _ _ _ _ _ _ (T4.setTop (mkF m 40 #[.val (.ref o), .val (.long x), .second, .val (.int ((own_zl L) - (1 : Int32))), .val (.int zi)] [(.long (tbl ((own_hash L x + d) % L)))]))
        refine own_go (fun _ q => XS.lloadN X4.here hx rfl (hb hby d5_40) rfl q) ?_
        show own_Go _ _ _ _ _ _ _ (T4.setTop (mkF m 41 #[.val (.ref o), .val (.long x), .second, .val (.int ((own_zl L) - (1 : Int32))), .val (.int zi)] [(.long x), (.long (tbl ((own_hash L x + d) % L)))]))
        refine own_go (fun _ q => XS.lconst X4.here hx rfl (hb hby d5_41) q) ?_
        show own_Go _ _ _ _ _ _ _ (T4.setTop (mkF m 42 #[.val (.ref o), .val (.long x), .second, .val (.int ((own_zl L) - (1 : Int32))), .val (.int zi)] [(.long (1 : Int64)), (.long x), (.long (tbl ((own_hash L x + d) % L)))]))
        refine own_go (fun _ q => XS.ladd X4.here hx rfl (hb hby d5_42) rfl q) ?_
        show own_Go _ _ _ _ _ _ _ (T4.setTop (mkF m 43 #[.val (.ref o), .val (.long x), .second, .val (.int ((own_zl L) - (1 : Int32))), .val (.int zi)] [(.long (x + (1 : Int64))), (.long (tbl ((own_hash L x + d) % L)))]))
        refine own_go (fun _ q => XS.lcmp X4.here hx rfl (hb hby d5_43) rfl q) ?_
        show own_Go _ _ _ _ _ _ _ (T4.setTop (mkF m 44 #[.val (.ref o), .val (.long x), .second, .val (.int ((own_zl L) - (1 : Int32))), .val (.int zi)] [(.int (lcmpW (tbl ((own_hash L x + d) % L)) (x + (1 : Int64))))]))
        by_cases he1 : (tbl ((own_hash L x + d) % L)) = (x + (1 : Int64))
        · refine own_go (fun _ q => XS.ifYes X4.here hx rfl (pc0 := 44) (pc' := 58) rfl (hb hby d5_44) rfl ((if0 _ _).trans (teq ((lw_eq _ _).mpr he1)).1) (by decide) (by decide) q) ?_
          show own_Go _ _ _ _ _ _ _ (T4.setTop (mkF m 58 #[.val (.ref o), .val (.long x), .second, .val (.int ((own_zl L) - (1 : Int32))), .val (.int zi)] []))
          refine own_go (fun _ q => XS.iload X4.here hx rfl (hb hby d5_58) rfl q) ?_
          show own_Go _ _ _ _ _ _ _ (T4.setTop (mkF m 60 #[.val (.ref o), .val (.long x), .second, .val (.int ((own_zl L) - (1 : Int32))), .val (.int zi)] [(.int zi)]))
          exact own_retI X4 hx hlk hret (hb hby d5_60) (by decide) (by decide) ⟨_, d, rfl, N0, e4, by omega, hzi, Or.inr he1, hp⟩
        · refine own_go (fun _ q => XS.ifNo X4.here hx rfl (hb hby d5_44) rfl ((if0 _ _).trans (feq (fun q => he1 ((lw_eq _ _).mp q))).1) q) ?_
          show own_Go _ _ _ _ _ _ _ (T4.setTop (mkF m 47 #[.val (.ref o), .val (.long x), .second, .val (.int ((own_zl L) - (1 : Int32))), .val (.int zi)] []))
          refine own_go (fun _ q => XS.iload X4.here hx rfl (hb hby d5_47) rfl q) ?_
          show own_Go _ _ _ _ _ _ _ (T4.setTop (mkF m 49 #[.val (.ref o), .val (.long x), .second, .val (.int ((own_zl L) - (1 : Int32))), .val (.int zi)] [(.int zi)]))
          refine own_go (fun _ q => XS.iconst X4.here hx rfl (hb hby d5_49) q) ?_
          show own_Go _ _ _ _ _ _ _ (T4.setTop (mkF m 50 #[.val (.ref o), .val (.long x), .second, .val (.int ((own_zl L) - (1 : Int32))), .val (.int zi)] [(.int (1 : Int32)), (.int zi)]))
          refine own_go (fun _ q => XS.iadd X4.here hx rfl (hb hby d5_50) rfl q) ?_
          show own_Go _ _ _ _ _ _ _ (T4.setTop (mkF m 51 #[.val (.ref o), .val (.long x), .second, .val (.int ((own_zl L) - (1 : Int32))), .val (.int zi)] [(.int (zi + (1 : Int32)))]))
          refine own_go (fun _ q => XS.iloadN X4.here hx rfl (hb hby d5_51) rfl q) ?_
          show own_Go _ _ _ _ _ _ _ (T4.setTop (mkF m 52 #[.val (.ref o), .val (.long x), .second, .val (.int ((own_zl L) - (1 : Int32))), .val (.int zi)] [(.int ((own_zl L) - (1 : Int32))), (.int (zi + (1 : Int32)))]))
          refine own_go (fun _ q => XS.iand X4.here hx rfl (hb hby d5_52) rfl q) ?_
          show own_Go _ _ _ _ _ _ _ (T4.setTop (mkF m 53 #[.val (.ref o), .val (.long x), .second, .val (.int ((own_zl L) - (1 : Int32))), .val (.int zi)] [(.int ((zi + (1 : Int32)) &&& ((own_zl L) - (1 : Int32))))]))
          refine own_go (fun _ q => XS.istore X4.here hx rfl (hb hby d5_53) rfl (l' := #[.val (.ref o), .val (.long x), .second, .val (.int ((own_zl L) - (1 : Int32))), .val (.int ((zi + (1 : Int32)) &&& ((own_zl L) - (1 : Int32))))]) rfl q) ?_
          show own_Go _ _ _ _ _ _ _ (T4.setTop (mkF m 55 #[.val (.ref o), .val (.long x), .second, .val (.int ((own_zl L) - (1 : Int32))), .val (.int ((zi + (1 : Int32)) &&& ((own_zl L) - (1 : Int32))))] []))
          refine own_go (fun _ q => XS.goto X4.here hx rfl (pc0 := 55) (pc' := 21) rfl (hb hby d5_55) (by decide) (by decide) q) ?_
          show own_Go _ _ _ _ _ _ _ (T4.setTop (mkF m 21 #[.val (.ref o), .val (.long x), .second, .val (.int ((own_zl L) - (1 : Int32))), .val (.int ((zi + (1 : Int32)) &&& ((own_zl L) - (1 : Int32))))] []))
          exact ih (d + 1) _ _ (by omega) (own_next hL hzi) (own_path_succ hp he0 he1) X4 e4
  exact loop de 0 _ _ (by omega) (own_hz_toInt hL x) (fun _ q => absurd q (Nat.not_lt_zero _)) X1 e1
theorem d6_0 : decode prog_38_method_3_code 0 = .ok (.aload_n 0, 1) := by decide +kernel
theorem d6_1 : decode prog_38_method_3_code 1 = .ok (.getfield 7, 3) := by decide +kernel
theorem d6_4 : decode prog_38_method_3_code 4 = .ok (.aload_n 0, 1) := by decide +kernel
theorem d6_5 : decode prog_38_method_3_code 5 = .ok (.lload_n 1, 1) := by decide +kernel
theorem d6_6 : decode prog_38_method_3_code 6 = .ok (.invokevirtual 16, 3) := by decide +kernel
theorem d6_9 : decode prog_38_method_3_code 9 = .ok (.laload, 1) := by decide +kernel
theorem d6_10 : decode prog_38_method_3_code 10 = .ok (.lconst 0, 1) := by decide +kernel
theorem d6_11 : decode prog_38_method_3_code 11 = .ok (.lcmp, 1) := by decide +kernel
theorem d6_12 : decode prog_38_method_3_code 12 = .ok (.ifCond .eq 7, 3) := by decide +kernel
theorem d6_15 : decode prog_38_method_3_code 15 = .ok (.iconst 1, 1) := by decide +kernel
theorem d6_16 : decode prog_38_method_3_code 16 = .ok (.goto 4, 3) := by decide +kernel
theorem d6_19 : decode prog_38_method_3_code 19 = .ok (.iconst 0, 1) := by decide +kernel
theorem d6_20 : decode prog_38_method_3_code 20 = .ok (.ireturn, 1) := by decide +kernel
def Q6 (Z : State) (o : Addr) (tb : Addr) (L : Nat) (tbl : Nat → Int64) (x : Int64) (S : Int64 → Prop) (k : Nat) (h0 : Heap) (n0 : Nat) (v : Option Value) (h : Heap) (LL : List Loc) : Prop := ∃ r : Int32, v = some (.int r) ∧ Fr n0 LL ∧ h = h0 ∧ ((r = 1 ∧ S x) ∨ (r = 0 ∧ ¬ S x))
theorem ef_6 (m : MethodId) (x0 : Addr) (x1 : Int64) : entryFrame m #[(.ref x0), (.long x1)] 3 = mkF m 0 #[.val (.ref x0), .val (.long x1), .second] [] := by first | (simp [entryFrame, mkF, argsToLocals, Value.category]; done) | rfl
set_option maxRecDepth 65536 in
set_option maxHeartbeats 40000000 in
theorem rm6 (l : Launch) (Z : State) (a0 : Array Value) (hw : ∀ d ∈ tables_1, d.before a0 Z = true) (ws : List Jvm.Cond) (o : Addr) (tb : Addr) (L : Nat) (tbl : Nat → Int64) (x : Int64) (S : Int64 → Prop) (k : Nat) (h0 : Heap) (n0 : Nat) (Z0 : n0 ≤ h0.size) (E : Exa Z h0 o "com/example/concept_reasoner/conceptreasoner/engine/LongSet") (Ft : Fld Z h0 o "com/example/concept_reasoner/conceptreasoner/engine/LongSet" "table" "[J" (.ref tb)) (At : own_Ar Z h0 tb .long L (fun j => .long (tbl j))) (hL : L = 4 ∨ L = 8) (hem : own_used tbl L < L) (I : own_Inv L (own_hash L) tbl S k) :
    own_Met l Z (⟨"com/example/concept_reasoner/conceptreasoner/engine/LongSet", "contains", "(J)Z"⟩ : MethodName) prog_38_method_3_code 3 (some .boolean) ({ frames := 1, cells := 0, slots := 0, locals := 17 } : Room) ws #[(.ref o), (.long x)] h0 (Q6 Z o tb L tbl x S k h0 n0) := by
  refine own_enter (plainFor_of_name (by first | (simp [plainName, overriddenIn]; done) | decide +kernel)) ?_
  intro p e s m below meth c s₁ hx hby hml hown hnm hlk hret hZ X0 e0
  have N0 := Fr.nil n0
  refine own_go (fun _ q => castTop (ef_6 m o x) q) ?_
  show own_Go _ _ _ _ _ _ _ (s₁.setTop (mkF m 0 #[.val (.ref o), .val (.long x), .second] []))
  refine own_go (fun _ q => XS.aloadN X0.here hx rfl (hb hby d6_0) rfl rfl q) ?_
  show own_Go _ _ _ _ _ _ _ (s₁.setTop (mkF m 1 #[.val (.ref o), .val (.long x), .second] [(.ref o)]))
  obtain ⟨T1, X1, e1, st1⟩ := getF X0 hx hZ hown (host := "") (Or.inl (hw _ (List.mem_of_getElem? (i := 15) rfl))) Via.refl e0 Ft (g := (mkF m 1 #[.val (.ref o), .val (.long x), .second] [(.ref o)])) rfl rfl (hb hby d6_1)
  refine own_go st1 ?_
  show own_Go _ _ _ _ _ _ _ (T1.setTop (mkF m 4 #[.val (.ref o), .val (.long x), .second] [(.ref tb)]))
  refine own_go (fun _ q => XS.aloadN X1.here hx rfl (hb hby d6_4) rfl rfl q) ?_
  show own_Go _ _ _ _ _ _ _ (T1.setTop (mkF m 5 #[.val (.ref o), .val (.long x), .second] [(.ref o), (.ref tb)]))
  refine own_go (fun _ q => XS.lloadN X1.here hx rfl (hb hby d6_5) rfl q) ?_
  show own_Go _ _ _ _ _ _ _ (T1.setTop (mkF m 6 #[.val (.ref o), .val (.long x), .second] [(.long x), (.ref o), (.ref tb)]))
  refine own_private X1 hx hZ hown (hw _ (List.mem_of_getElem? (i := 24) rfl)) (hw _ (List.mem_of_getElem? (i := 25) rfl)) (hw _ (List.mem_of_getElem? (i := 26) rfl)) (hw _ (List.mem_of_getElem? (i := 6) rfl)) (hw _ (List.mem_of_getElem? (i := 7) rfl)) (hw _ (List.mem_of_getElem? (i := 27) rfl)) (by decide) e1 (a := o) E (argsL := [(.long x)]) (rest := [(.ref tb)]) (rm5 l Z a0 hw [] o tb L tbl x h0 n0 Z0 Ft At hL (own_empty hem)) 1 (by decide) (by decide) (by decide) (by decide) (by rw [hml]; rfl) pd_0 rfl rfl (Nat.le_of_eq rfl) (hb hby d6_6) rfl ?_
  intro v2 T2 L2 X2 hQ2
  obtain ⟨r, d, rfl, N2q, e2q, hd, hr, hor, hp⟩ := hQ2
  have N2 := Fr.app N0 N2q
  show own_Go _ _ _ _ _ _ _ (T2.setTop (mkF m 9 #[.val (.ref o), .val (.long x), .second] [(.int r), (.ref tb)]))
  refine own_laload X2 hx hZ e2q At hr (Nat.mod_lt _ (by rcases hL with rfl | rfl <;> decide)) rfl (hb hby d6_9) rfl ?_
  show own_Go _ _ _ _ _ _ _ (T2.setTop (mkF m 10 #[.val (.ref o), .val (.long x), .second] [(.long (tbl ((own_hash L x + d) % L)))]))
  refine own_go (fun _ q => XS.lconst X2.here hx rfl (hb hby d6_10) q) ?_
  show own_Go _ _ _ _ _ _ _ (T2.setTop (mkF m 11 #[.val (.ref o), .val (.long x), .second] [(.long (0 : Int64)), (.long (tbl ((own_hash L x + d) % L)))]))
  refine own_go (fun _ q => XS.lcmp X2.here hx rfl (hb hby d6_11) rfl q) ?_
  show own_Go _ _ _ _ _ _ _ (T2.setTop (mkF m 12 #[.val (.ref o), .val (.long x), .second] [(.int (lcmpW (tbl ((own_hash L x + d) % L)) (0 : Int64)))]))
  by_cases hz : (tbl ((own_hash L x + d) % L)) = (0 : Int64)
  · refine own_go (fun _ q => XS.ifYes X2.here hx rfl (pc0 := 12) (pc' := 19) rfl (hb hby d6_12) rfl ((if0 _ _).trans (teq ((lw_eq _ _).mpr hz)).1) (by decide) (by decide) q) ?_
    show own_Go _ _ _ _ _ _ _ (T2.setTop (mkF m 19 #[.val (.ref o), .val (.long x), .second] []))
    refine own_go (fun _ q => XS.iconst X2.here hx rfl (hb hby d6_19) q) ?_
    show own_Go _ _ _ _ _ _ _ (T2.setTop (mkF m 20 #[.val (.ref o), .val (.long x), .second] [(.int (0 : Int32))]))
    exact own_retZ X2 hx hlk hret (hb hby d6_20) (by decide) (by decide) (by decide) ⟨_, rfl, N2, e2q, Or.inr ⟨rfl, fun q => absurd ((own_hit I hor hp q).symm.trans hz) (I.2.1 x q).1⟩⟩
  · refine own_go (fun _ q => XS.ifNo X2.here hx rfl (hb hby d6_12) rfl ((if0 _ _).trans (feq (fun q => hz ((lw_eq _ _).mp q))).1) q) ?_
    show own_Go _ _ _ _ _ _ _ (T2.setTop (mkF m 15 #[.val (.ref o), .val (.long x), .second] []))
    refine own_go (fun _ q => XS.iconst X2.here hx rfl (hb hby d6_15) q) ?_
    show own_Go _ _ _ _ _ _ _ (T2.setTop (mkF m 16 #[.val (.ref o), .val (.long x), .second] [(.int (1 : Int32))]))
    refine own_go (fun _ q => XS.goto X2.here hx rfl (pc0 := 16) (pc' := 20) rfl (hb hby d6_16) (by decide) (by decide) q) ?_
    show own_Go _ _ _ _ _ _ _ (T2.setTop (mkF m 20 #[.val (.ref o), .val (.long x), .second] [(.int (1 : Int32))]))
    exact own_retZ X2 hx hlk hret (hb hby d6_20) (by decide) (by decide) (by decide) ⟨_, rfl, N2, e2q, Or.inl ⟨rfl, Classical.byContradiction fun q => hz (own_miss I (Nat.mod_lt _ (by rcases hL with rfl | rfl <;> decide)) hor q)⟩⟩
theorem d8_0 : decode jdk_29_method_69_code 0 = .ok (.iload_n 0, 1) := by decide +kernel
theorem d8_1 : decode jdk_29_method_69_code 1 = .ok (.iload_n 1, 1) := by decide +kernel
theorem d8_2 : decode jdk_29_method_69_code 2 = .ok (.if_icmp .gt 7, 3) := by decide +kernel
theorem d8_5 : decode jdk_29_method_69_code 5 = .ok (.iload_n 0, 1) := by decide +kernel
theorem d8_6 : decode jdk_29_method_69_code 6 = .ok (.goto 4, 3) := by decide +kernel
theorem d8_9 : decode jdk_29_method_69_code 9 = .ok (.iload_n 1, 1) := by decide +kernel
theorem d8_10 : decode jdk_29_method_69_code 10 = .ok (.ireturn, 1) := by decide +kernel
def Q8 (Z : State) (x : Int32) (y : Int32) (h0 : Heap) (n0 : Nat) (v : Option Value) (h : Heap) (L : List Loc) : Prop := v = some (.int (if y < x then y else x)) ∧ Fr n0 L ∧ h = h0
theorem ef_8 (m : MethodId) (x0 : Int32) (x1 : Int32) : entryFrame m #[(.int x0), (.int x1)] 2 = mkF m 0 #[.val (.int x0), .val (.int x1)] [] := by first | (simp [entryFrame, mkF, argsToLocals, Value.category]; done) | rfl
set_option maxRecDepth 65536 in
set_option maxHeartbeats 40000000 in
theorem rm8 (l : Launch) (Z : State) (a0 : Array Value) (hw : ∀ d ∈ tables_1, d.before a0 Z = true) (ws : List Jvm.Cond) (x : Int32) (y : Int32) (h0 : Heap) (n0 : Nat) (Z0 : n0 ≤ h0.size)  :
    own_Met l Z (⟨"java/lang/Math", "min", "(II)I"⟩ : MethodName) jdk_29_method_69_code 2 (some .int) ({ frames := 0, cells := 0, slots := 0, locals := 0 } : Room) ws #[(.int x), (.int y)] h0 (Q8 Z x y h0 n0) := by
  refine own_enter (Jvm.Free.JP.mathPlain rfl (by decide +kernel)) ?_
  intro p e s m below meth c s₁ hx hby hml hown hnm hlk hret hZ X0 e0
  have N0 := Fr.nil n0
  refine own_go (fun _ q => castTop (ef_8 m x y) q) ?_
  show own_Go _ _ _ _ _ _ _ (s₁.setTop (mkF m 0 #[.val (.int x), .val (.int y)] []))
  refine own_go (fun _ q => XS.iloadN X0.here hx rfl (hb hby d8_0) rfl q) ?_
  show own_Go _ _ _ _ _ _ _ (s₁.setTop (mkF m 1 #[.val (.int x), .val (.int y)] [(.int x)]))
  refine own_go (fun _ q => XS.iloadN X0.here hx rfl (hb hby d8_1) rfl q) ?_
  show own_Go _ _ _ _ _ _ _ (s₁.setTop (mkF m 2 #[.val (.int x), .val (.int y)] [(.int y), (.int x)]))
  by_cases hc2_1 : y < x
  · refine own_go (fun _ q => XS.icmpYes X0.here hx rfl (pc0 := 2) (pc' := 9) rfl (hb hby d8_2) rfl (tlt hc2_1).2.2.1 (by decide) (by decide) q) ?_
    show own_Go _ _ _ _ _ _ _ (s₁.setTop (mkF m 9 #[.val (.int x), .val (.int y)] []))
    refine own_go (fun _ q => XS.iloadN X0.here hx rfl (hb hby d8_9) rfl q) ?_
    show own_Go _ _ _ _ _ _ _ (s₁.setTop (mkF m 10 #[.val (.int x), .val (.int y)] [(.int y)]))
    exact own_retI X0 hx hlk hret (hb hby d8_10) (by decide) (by decide) ⟨by simp [*], N0, e0⟩
  · refine own_go (fun _ q => XS.icmpNo X0.here hx rfl (hb hby d8_2) rfl (flt hc2_1).2.2.1 q) ?_
    show own_Go _ _ _ _ _ _ _ (s₁.setTop (mkF m 5 #[.val (.int x), .val (.int y)] []))
    refine own_go (fun _ q => XS.iloadN X0.here hx rfl (hb hby d8_5) rfl q) ?_
    show own_Go _ _ _ _ _ _ _ (s₁.setTop (mkF m 6 #[.val (.int x), .val (.int y)] [(.int x)]))
    refine own_go (fun _ q => XS.goto X0.here hx rfl (pc0 := 6) (pc' := 10) rfl (hb hby d8_6) (by decide) (by decide) q) ?_
    show own_Go _ _ _ _ _ _ _ (s₁.setTop (mkF m 10 #[.val (.int x), .val (.int y)] [(.int x)]))
    exact own_retI X0 hx hlk hret (hb hby d8_10) (by decide) (by decide) ⟨by simp [*], N0, e0⟩
theorem d7_0 : decode jdk_65_method_124_code 0 = .ok (.iload_n 1, 1) := by decide +kernel
theorem d7_1 : decode jdk_65_method_124_code 1 = .ok (.aload_n 0, 1) := by decide +kernel
theorem d7_2 : decode jdk_65_method_124_code 2 = .ok (.arraylength, 1) := by decide +kernel
theorem d7_3 : decode jdk_65_method_124_code 3 = .ok (.if_icmp .ne 11, 3) := by decide +kernel
theorem d7_6 : decode jdk_65_method_124_code 6 = .ok (.aload_n 0, 1) := by decide +kernel
theorem d7_7 : decode jdk_65_method_124_code 7 = .ok (.invokevirtual 319, 3) := by decide +kernel
theorem d7_10 : decode jdk_65_method_124_code 10 = .ok (.checkcast 320, 3) := by decide +kernel
theorem d7_13 : decode jdk_65_method_124_code 13 = .ok (.areturn, 1) := by decide +kernel
theorem d7_14 : decode jdk_65_method_124_code 14 = .ok (.iload_n 1, 1) := by decide +kernel
theorem d7_15 : decode jdk_65_method_124_code 15 = .ok (.newarray .long, 2) := by decide +kernel
theorem d7_17 : decode jdk_65_method_124_code 17 = .ok (.astore_n 2, 1) := by decide +kernel
theorem d7_18 : decode jdk_65_method_124_code 18 = .ok (.aload_n 0, 1) := by decide +kernel
theorem d7_19 : decode jdk_65_method_124_code 19 = .ok (.iconst 0, 1) := by decide +kernel
theorem d7_20 : decode jdk_65_method_124_code 20 = .ok (.aload_n 2, 1) := by decide +kernel
theorem d7_21 : decode jdk_65_method_124_code 21 = .ok (.iconst 0, 1) := by decide +kernel
theorem d7_22 : decode jdk_65_method_124_code 22 = .ok (.aload_n 0, 1) := by decide +kernel
theorem d7_23 : decode jdk_65_method_124_code 23 = .ok (.arraylength, 1) := by decide +kernel
theorem d7_24 : decode jdk_65_method_124_code 24 = .ok (.iload_n 1, 1) := by decide +kernel
theorem d7_25 : decode jdk_65_method_124_code 25 = .ok (.invokestatic 304, 3) := by decide +kernel
theorem d7_28 : decode jdk_65_method_124_code 28 = .ok (.invokestatic 150, 3) := by decide +kernel
theorem d7_31 : decode jdk_65_method_124_code 31 = .ok (.aload_n 2, 1) := by decide +kernel
theorem d7_32 : decode jdk_65_method_124_code 32 = .ok (.areturn, 1) := by decide +kernel
def Q7 (Z : State) (a : Addr) (f : Nat → Int64) (h0 : Heap) (n0 : Nat) (v : Option Value) (h : Heap) (L : List Loc) : Prop := ∃ b : Addr, v = some (.ref b) ∧ Fr n0 L ∧ Keep h0 h [] ∧ n0 ≤ b ∧ h0.size ≤ b ∧ own_Ar Z h b .long 4 (fun j => .long (own_cut f j))
theorem ef_7 (m : MethodId) (x0 : Addr) (x1 : Int32) : entryFrame m #[(.ref x0), (.int x1)] 3 = mkF m 0 #[.val (.ref x0), .val (.int x1), .unset] [] := by first | (simp [entryFrame, mkF, argsToLocals, Value.category]; done) | rfl
set_option maxRecDepth 65536 in
set_option maxHeartbeats 40000000 in
theorem rm7 (l : Launch) (Z : State) (a0 : Array Value) (hw : ∀ d ∈ tables_1, d.before a0 Z = true) (ws : List Jvm.Cond) (a : Addr) (f : Nat → Int64) (h0 : Heap) (n0 : Nat) (Z0 : n0 ≤ h0.size) (A : own_Ar Z h0 a .long 2 (fun j => .long (f j))) :
    own_Met l Z (⟨"java/util/Arrays", "copyOf", "([JI)[J"⟩ : MethodName) jdk_65_method_124_code 3 (some (.array .long)) ({ frames := 1, cells := 1, slots := 4, locals := 40 } : Room) ws #[(.ref a), (.int (4 : Int32))] h0 (Q7 Z a f h0 n0) := by
  refine own_enter (plainFor_of_name (by first | (simp [plainName, overriddenIn]; done) | decide +kernel)) ?_
  intro p e s m below meth c s₁ hx hby hml hown hnm hlk hret hZ X0 e0
  have N0 := Fr.nil n0
  refine own_go (fun _ q => castTop (ef_7 m a (4 : Int32)) q) ?_
  show own_Go _ _ _ _ _ _ _ (s₁.setTop (mkF m 0 #[.val (.ref a), .val (.int (4 : Int32)), .unset] []))
  refine own_go (fun _ q => XS.iloadN X0.here hx rfl (hb hby d7_0) rfl q) ?_
  show own_Go _ _ _ _ _ _ _ (s₁.setTop (mkF m 1 #[.val (.ref a), .val (.int (4 : Int32)), .unset] [(.int (4 : Int32))]))
  refine own_go (fun _ q => XS.aloadN X0.here hx rfl (hb hby d7_1) rfl rfl q) ?_
  show own_Go _ _ _ _ _ _ _ (s₁.setTop (mkF m 2 #[.val (.ref a), .val (.int (4 : Int32)), .unset] [(.ref a), (.int (4 : Int32))]))
  refine own_length (z := (2 : Int32)) X0 hx hZ e0 A rfl (hb hby d7_2) rfl ?_
  show own_Go _ _ _ _ _ _ _ (s₁.setTop (mkF m 3 #[.val (.ref a), .val (.int (4 : Int32)), .unset] [(.int (2 : Int32)), (.int (4 : Int32))]))
  refine own_go (fun _ q => XS.icmpYes X0.here hx rfl (pc0 := 3) (pc' := 14) rfl (hb hby d7_3) rfl (feq (by decide : ¬ ((4 : Int32) = (2 : Int32)))).2 (by decide) (by decide) q) ?_
  show own_Go _ _ _ _ _ _ _ (s₁.setTop (mkF m 14 #[.val (.ref a), .val (.int (4 : Int32)), .unset] []))
  refine own_go (fun _ q => XS.iloadN X0.here hx rfl (hb hby d7_14) rfl q) ?_
  show own_Go _ _ _ _ _ _ _ (s₁.setTop (mkF m 15 #[.val (.ref a), .val (.int (4 : Int32)), .unset] [(.int (4 : Int32))]))
  obtain ⟨T1, h1, k1, X1, e1, E1, Aw1, st1⟩ := newP X0 hx hZ (hw _ (List.mem_of_getElem? (i := 14) rfl)) e0 (g := (mkF m 15 #[.val (.ref a), .val (.int (4 : Int32)), .unset] [(.int (4 : Int32))])) rfl (hb hby d7_15) rfl (by decide) (cap := 4) (by decide) (by decide) (by decide) (by decide)
  obtain ⟨b1, g1⟩ : ∃ z, z = h0.size := ⟨_, rfl⟩
  rw [← g1] at Aw1 st1
  have A1 := own_Ar.new (nn := 4) Aw1 (by decide) rfl
  have G1 : n0 ≤ b1 := by have := Z0; omega
  have Z1 : n0 ≤ h1.size := Nat.le_trans Z0 E1.1
  refine own_go st1 ?_
  show own_Go _ _ _ _ _ _ _ (T1.setTop (mkF m 17 #[.val (.ref a), .val (.int (4 : Int32)), .unset] [(.ref b1)]))
  refine own_go (fun _ q => XS.astoreN X1.here hx rfl (hb hby d7_17) rfl rfl (l' := #[.val (.ref a), .val (.int (4 : Int32)), .val (.ref b1)]) rfl q) ?_
  show own_Go _ _ _ _ _ _ _ (T1.setTop (mkF m 18 #[.val (.ref a), .val (.int (4 : Int32)), .val (.ref b1)] []))
  refine own_go (fun _ q => XS.aloadN X1.here hx rfl (hb hby d7_18) rfl rfl q) ?_
  show own_Go _ _ _ _ _ _ _ (T1.setTop (mkF m 19 #[.val (.ref a), .val (.int (4 : Int32)), .val (.ref b1)] [(.ref a)]))
  refine own_go (fun _ q => XS.iconst X1.here hx rfl (hb hby d7_19) q) ?_
  show own_Go _ _ _ _ _ _ _ (T1.setTop (mkF m 20 #[.val (.ref a), .val (.int (4 : Int32)), .val (.ref b1)] [(.int (0 : Int32)), (.ref a)]))
  refine own_go (fun _ q => XS.aloadN X1.here hx rfl (hb hby d7_20) rfl rfl q) ?_
  show own_Go _ _ _ _ _ _ _ (T1.setTop (mkF m 21 #[.val (.ref a), .val (.int (4 : Int32)), .val (.ref b1)] [(.ref b1), (.int (0 : Int32)), (.ref a)]))
  refine own_go (fun _ q => XS.iconst X1.here hx rfl (hb hby d7_21) q) ?_
  show own_Go _ _ _ _ _ _ _ (T1.setTop (mkF m 22 #[.val (.ref a), .val (.int (4 : Int32)), .val (.ref b1)] [(.int (0 : Int32)), (.ref b1), (.int (0 : Int32)), (.ref a)]))
  refine own_go (fun _ q => XS.aloadN X1.here hx rfl (hb hby d7_22) rfl rfl q) ?_
  show own_Go _ _ _ _ _ _ _ (T1.setTop (mkF m 23 #[.val (.ref a), .val (.int (4 : Int32)), .val (.ref b1)] [(.ref a), (.int (0 : Int32)), (.ref b1), (.int (0 : Int32)), (.ref a)]))
  refine own_length (z := (2 : Int32)) X1 hx hZ e1 (A.ext E1) rfl (hb hby d7_23) rfl ?_
  show own_Go _ _ _ _ _ _ _ (T1.setTop (mkF m 24 #[.val (.ref a), .val (.int (4 : Int32)), .val (.ref b1)] [(.int (2 : Int32)), (.int (0 : Int32)), (.ref b1), (.int (0 : Int32)), (.ref a)]))
  refine own_go (fun _ q => XS.iloadN X1.here hx rfl (hb hby d7_24) rfl q) ?_
  show own_Go _ _ _ _ _ _ _ (T1.setTop (mkF m 25 #[.val (.ref a), .val (.int (4 : Int32)), .val (.ref b1)] [(.int (4 : Int32)), (.int (2 : Int32)), (.int (0 : Int32)), (.ref b1), (.int (0 : Int32)), (.ref a)]))
  refine own_static X1 hx hZ hown (hw _ (List.mem_of_getElem? (i := 40) rfl)) (hw _ (List.mem_of_getElem? (i := 41) rfl)) (hw _ (List.mem_of_getElem? (i := 42) rfl)) (hw _ (List.mem_of_getElem? (i := 43) rfl)) (by decide) e1 (argsL := [(.int (2 : Int32)), (.int (4 : Int32))]) (rest := [(.int (0 : Int32)), (.ref b1), (.int (0 : Int32)), (.ref a)]) (rm8 l Z a0 hw [] (2 : Int32) (4 : Int32) h1 n0 Z1) 4 (by decide) (by decide) (by decide) (by decide) (by rw [hml]; rfl) pd_1 rfl rfl (Nat.le_of_eq rfl) (hb hby d7_25) rfl ?_
  intro v2 T2 L2 X2 hQ2
  obtain ⟨rfl, N2q, e2q⟩ := hQ2
  have N2 := Fr.app N0 N2q
  show own_Go _ _ _ _ _ _ _ (T2.setTop (mkF m 28 #[.val (.ref a), .val (.int (4 : Int32)), .val (.ref b1)] [(.int (2 : Int32)), (.int (0 : Int32)), (.ref b1), (.int (0 : Int32)), (.ref a)]))
  obtain ⟨ka, Va⟩ := own_arv2 (A.ext E1)
  obtain ⟨kb, Vb⟩ := own_arv4 A1
  obtain ⟨T3, h3, L3, X3, e3, N3, K3, V3, st3⟩ := cpA X2 hx hZ hown (hw _ (List.mem_of_getElem? (i := 44) rfl)) (hw _ (List.mem_of_getElem? (i := 47) rfl)) (hw _ (List.mem_of_getElem? (i := 45) rfl)) (hw _ (List.mem_of_getElem? (i := 46) rfl)) e2q (us := [.long (f 0), .long (f 1)]) Va Vb (Or.inl ⟨rfl, rfl⟩) (sp := 0) (dp := 0) (nn := 2) (by decide) (by decide) (by decide) (by decide) (by decide) rfl (by decide) N2 G1 (g := (mkF m 28 #[.val (.ref a), .val (.int (4 : Int32)), .val (.ref b1)] [(.int (2 : Int32)), (.int (0 : Int32)), (.ref b1), (.int (0 : Int32)), (.ref a)])) rfl (by rw [hml]; rfl) (rest := []) rfl (hb hby d7_28) (by decide) (W := 0) (by show 2 * 0 + _ ≤ _; exact Nat.le_of_eq rfl) (by decide)
  refine own_go st3 ?_
  show own_Go _ _ _ _ _ _ _ (T3.setTop (mkF m 31 #[.val (.ref a), .val (.int (4 : Int32)), .val (.ref b1)] []))
  refine own_go (fun _ q => XS.aloadN X3.here hx rfl (hb hby d7_31) rfl rfl q) ?_
  show own_Go _ _ _ _ _ _ _ (T3.setTop (mkF m 32 #[.val (.ref a), .val (.int (4 : Int32)), .val (.ref b1)] [(.ref b1)]))
  have K : Keep h0 h3 [] := ((Keep.refl h0 []).ext E1).trans K3 (fun x hx => Or.inr (by cases List.mem_singleton.mp hx; exact Nat.le_of_eq g1.symm))
  subst e3
  exact own_retR X3 hx hlk hret rfl rfl rfl (hb hby d7_32) (by decide) (by decide) ⟨b1, rfl, N3, K, G1, Nat.le_of_eq g1.symm, own_arv_back V3 rfl⟩
theorem d9_0 : decode prog_38_method_7_code 0 = .ok (.aload_n 0, 1) := by decide +kernel
theorem d9_1 : decode prog_38_method_7_code 1 = .ok (.iconst 2, 1) := by decide +kernel
theorem d9_2 : decode prog_38_method_7_code 2 = .ok (.aload_n 0, 1) := by decide +kernel
theorem d9_3 : decode prog_38_method_7_code 3 = .ok (.getfield 7, 3) := by decide +kernel
theorem d9_6 : decode prog_38_method_7_code 6 = .ok (.arraylength, 1) := by decide +kernel
theorem d9_7 : decode prog_38_method_7_code 7 = .ok (.imul, 1) := by decide +kernel
theorem d9_8 : decode prog_38_method_7_code 8 = .ok (.newarray .long, 2) := by decide +kernel
theorem d9_10 : decode prog_38_method_7_code 10 = .ok (.putfield 7, 3) := by decide +kernel
theorem d9_13 : decode prog_38_method_7_code 13 = .ok (.iconst 0, 1) := by decide +kernel
theorem d9_14 : decode prog_38_method_7_code 14 = .ok (.istore_n 1, 1) := by decide +kernel
theorem d9_15 : decode prog_38_method_7_code 15 = .ok (.iload_n 1, 1) := by decide +kernel
theorem d9_16 : decode prog_38_method_7_code 16 = .ok (.aload_n 0, 1) := by decide +kernel
theorem d9_17 : decode prog_38_method_7_code 17 = .ok (.getfield 20, 3) := by decide +kernel
theorem d9_20 : decode prog_38_method_7_code 20 = .ok (.if_icmp .ge 32, 3) := by decide +kernel
theorem d9_23 : decode prog_38_method_7_code 23 = .ok (.aload_n 0, 1) := by decide +kernel
theorem d9_24 : decode prog_38_method_7_code 24 = .ok (.getfield 7, 3) := by decide +kernel
theorem d9_27 : decode prog_38_method_7_code 27 = .ok (.aload_n 0, 1) := by decide +kernel
theorem d9_28 : decode prog_38_method_7_code 28 = .ok (.aload_n 0, 1) := by decide +kernel
theorem d9_29 : decode prog_38_method_7_code 29 = .ok (.getfield 13, 3) := by decide +kernel
theorem d9_32 : decode prog_38_method_7_code 32 = .ok (.iload_n 1, 1) := by decide +kernel
theorem d9_33 : decode prog_38_method_7_code 33 = .ok (.laload, 1) := by decide +kernel
theorem d9_34 : decode prog_38_method_7_code 34 = .ok (.invokevirtual 16, 3) := by decide +kernel
theorem d9_37 : decode prog_38_method_7_code 37 = .ok (.aload_n 0, 1) := by decide +kernel
theorem d9_38 : decode prog_38_method_7_code 38 = .ok (.getfield 13, 3) := by decide +kernel
theorem d9_41 : decode prog_38_method_7_code 41 = .ok (.iload_n 1, 1) := by decide +kernel
theorem d9_42 : decode prog_38_method_7_code 42 = .ok (.laload, 1) := by decide +kernel
theorem d9_43 : decode prog_38_method_7_code 43 = .ok (.lconst 1, 1) := by decide +kernel
theorem d9_44 : decode prog_38_method_7_code 44 = .ok (.ladd, 1) := by decide +kernel
theorem d9_45 : decode prog_38_method_7_code 45 = .ok (.lastore, 1) := by decide +kernel
theorem d9_46 : decode prog_38_method_7_code 46 = .ok (.iinc 1 1, 3) := by decide +kernel
theorem d9_49 : decode prog_38_method_7_code 49 = .ok (.goto (-34), 3) := by decide +kernel
theorem d9_52 : decode prog_38_method_7_code 52 = .ok (.return_, 1) := by decide +kernel
def Q9 (Z : State) (o : Addr) (tb : Addr) (ad : Addr) (tbl0 : Nat → Int64) (add : Nat → Int64) (h0 : Heap) (n0 : Nat) (v : Option Value) (h : Heap) (L : List Loc) : Prop := v = none ∧ Fr n0 L ∧ Keep h0 h [o] ∧ Exa Z h o "com/example/concept_reasoner/conceptreasoner/engine/LongSet" ∧ ∃ (tb' : Addr) (tbl : Nat → Int64), n0 ≤ tb' ∧ h0.size ≤ tb' ∧ Fld Z h o "com/example/concept_reasoner/conceptreasoner/engine/LongSet" "table" "[J" (.ref tb') ∧ Fld Z h o "com/example/concept_reasoner/conceptreasoner/engine/LongSet" "added" "[J" (.ref ad) ∧ Fld Z h o "com/example/concept_reasoner/conceptreasoner/engine/LongSet" "size" "I" (.int 3) ∧ own_Ar Z h tb' .long 8 (fun j => .long (tbl j)) ∧ own_Inv 8 (own_hash 8) tbl (fun x => ∃ j, j < 3 ∧ add j = x) 3
theorem ef_9 (m : MethodId) (x0 : Addr) : entryFrame m #[(.ref x0)] 2 = mkF m 0 #[.val (.ref x0), .unset] [] := by first | (simp [entryFrame, mkF, argsToLocals, Value.category]; done) | rfl
set_option maxRecDepth 65536 in
set_option maxHeartbeats 40000000 in
theorem rm9 (l : Launch) (Z : State) (a0 : Array Value) (hw : ∀ d ∈ tables_1, d.before a0 Z = true) (ws : List Jvm.Cond) (o : Addr) (tb : Addr) (ad : Addr) (tbl0 : Nat → Int64) (add : Nat → Int64) (h0 : Heap) (n0 : Nat) (Z0 : n0 ≤ h0.size) (E : Exa Z h0 o "com/example/concept_reasoner/conceptreasoner/engine/LongSet") (Ft : Fld Z h0 o "com/example/concept_reasoner/conceptreasoner/engine/LongSet" "table" "[J" (.ref tb)) (Fa : Fld Z h0 o "com/example/concept_reasoner/conceptreasoner/engine/LongSet" "added" "[J" (.ref ad)) (Fs : Fld Z h0 o "com/example/concept_reasoner/conceptreasoner/engine/LongSet" "size" "I" (.int 3)) (At : own_Ar Z h0 tb .long 4 (fun j => .long (tbl0 j))) (Aa : own_Ar Z h0 ad .long 4 (fun j => .long (add j))) (go : n0 ≤ o) (neoa : o ≠ ad) (hdis : ∀ i j, i < j → j < 3 → add i ≠ add j) (hnz : ∀ j, j < 3 → add j + 1 ≠ 0) :
    own_Met l Z (⟨"com/example/concept_reasoner/conceptreasoner/engine/LongSet", "grow", "()V"⟩ : MethodName) prog_38_method_7_code 2 none ({ frames := 1, cells := 1, slots := 8, locals := 17 } : Room) ws #[(.ref o)] h0 (Q9 Z o tb ad tbl0 add h0 n0) := by
  refine own_enter (plainFor_of_name (by first | (simp [plainName, overriddenIn]; done) | decide +kernel)) ?_
  intro p e s m below meth c s₁ hx hby hml hown hnm hlk hret hZ X0 e0
  have N0 := Fr.nil n0
  refine own_go (fun _ q => castTop (ef_9 m o) q) ?_
  show own_Go _ _ _ _ _ _ _ (s₁.setTop (mkF m 0 #[.val (.ref o), .unset] []))
  refine own_go (fun _ q => XS.aloadN X0.here hx rfl (hb hby d9_0) rfl rfl q) ?_
  show own_Go _ _ _ _ _ _ _ (s₁.setTop (mkF m 1 #[.val (.ref o), .unset] [(.ref o)]))
  refine own_go (fun _ q => XS.iconst X0.here hx rfl (hb hby d9_1) q) ?_
  show own_Go _ _ _ _ _ _ _ (s₁.setTop (mkF m 2 #[.val (.ref o), .unset] [(.int (2 : Int32)), (.ref o)]))
  refine own_go (fun _ q => XS.aloadN X0.here hx rfl (hb hby d9_2) rfl rfl q) ?_
  show own_Go _ _ _ _ _ _ _ (s₁.setTop (mkF m 3 #[.val (.ref o), .unset] [(.ref o), (.int (2 : Int32)), (.ref o)]))
  obtain ⟨T1, X1, e1, st1⟩ := getF X0 hx hZ hown (host := "") (Or.inl (hw _ (List.mem_of_getElem? (i := 15) rfl))) Via.refl e0 Ft (g := (mkF m 3 #[.val (.ref o), .unset] [(.ref o), (.int (2 : Int32)), (.ref o)])) rfl rfl (hb hby d9_3)
  refine own_go st1 ?_
  show own_Go _ _ _ _ _ _ _ (T1.setTop (mkF m 6 #[.val (.ref o), .unset] [(.ref tb), (.int (2 : Int32)), (.ref o)]))
  refine own_length (z := (4 : Int32)) X1 hx hZ e1 At rfl (hb hby d9_6) rfl ?_
  show own_Go _ _ _ _ _ _ _ (T1.setTop (mkF m 7 #[.val (.ref o), .unset] [(.int (4 : Int32)), (.int (2 : Int32)), (.ref o)]))
  refine own_go (fun _ q => XS.imul X1.here hx rfl (hb hby d9_7) rfl q) ?_
  show own_Go _ _ _ _ _ _ _ (T1.setTop (mkF m 8 #[.val (.ref o), .unset] [(.int ((2 : Int32) * (4 : Int32))), (.ref o)]))
  obtain ⟨T2, h2, k2, X2, e2, E2, Aw2, st2⟩ := newP X1 hx hZ (hw _ (List.mem_of_getElem? (i := 14) rfl)) e1 (g := (mkF m 8 #[.val (.ref o), .unset] [(.int ((2 : Int32) * (4 : Int32))), (.ref o)])) rfl (hb hby d9_8) rfl (by decide) (cap := 8) (by decide) (by decide) (by decide) (by decide)
  obtain ⟨b2, g2⟩ : ∃ z, z = h0.size := ⟨_, rfl⟩
  rw [← g2] at Aw2 st2
  have A2 := own_Ar.new (nn := 8) Aw2 (by decide) rfl
  have ne3 : ad ≠ b2 := Nat.ne_of_lt (Nat.lt_of_lt_of_eq (Aa).lt g2.symm)
  have ne4 : o ≠ b2 := Nat.ne_of_lt (Nat.lt_of_lt_of_eq (E).lt g2.symm)
  have G2 : n0 ≤ b2 := by have := Z0; omega
  have Z2 : n0 ≤ h2.size := Nat.le_trans Z0 E2.1
  refine own_go st2 ?_
  show own_Go _ _ _ _ _ _ _ (T2.setTop (mkF m 10 #[.val (.ref o), .unset] [(.ref b2), (.ref o)]))
  have f6 := (Ft.ext E2)
  have f7 := (E.ext E2)
  obtain ⟨T5, h5, X5, e5, W5, st5⟩ := putF X2 hx hZ hown (host := "") (Or.inl (hw _ (List.mem_of_getElem? (i := 15) rfl))) Via.refl e2 f6 f7 (Or.inl (hw _ (List.mem_of_getElem? (i := 16) rfl))) (hw _ (List.mem_of_getElem? (i := 6) rfl)) (ty := (.array .long)) (by decide) rfl rfl (g := (mkF m 10 #[.val (.ref o), .unset] [(.ref b2), (.ref o)])) rfl rfl (hb hby d9_10)
  have N5 := Fr.snoc X5 N0 go
  have Fw5 := f6.same W5
  have Z5 : n0 ≤ h5.size := by rw [W5.size]; exact Z2
  refine own_go st5 ?_
  show own_Go _ _ _ _ _ _ _ (T5.setTop (mkF m 13 #[.val (.ref o), .unset] []))
  have K : Keep h0 h5 [o] := (((Keep.refl h0 [o]).ext E2).wr W5 (Or.inl (List.mem_singleton.mpr rfl)))
  refine own_go (fun _ q => XS.iconst X5.here hx rfl (hb hby d9_13) q) ?_
  show own_Go _ _ _ _ _ _ _ (T5.setTop (mkF m 14 #[.val (.ref o), .unset] [(.int (0 : Int32))]))
  refine own_go (fun _ q => XS.istoreN X5.here hx rfl (hb hby d9_14) rfl (l' := #[.val (.ref o), .val (.int (0 : Int32))]) rfl q) ?_
  show own_Go _ _ _ _ _ _ _ (T5.setTop (mkF m 15 #[.val (.ref o), .val (.int (0 : Int32))] []))
  have f8 := (f7.wr W5)
  have f9 := ((Fa.ext E2).other W5 (Or.inr (slot_ne (Or.inl (hw _ (List.mem_of_getElem? (i := 18) rfl))) (Or.inl (hw _ (List.mem_of_getElem? (i := 16) rfl))) (by decide) (t := (.array .long)) (t' := (.array .long)) (by decide) (by decide))))
  have f10 := ((Fs.ext E2).other W5 (Or.inr (slot_ne (Or.inl (hw _ (List.mem_of_getElem? (i := 30) rfl))) (Or.inl (hw _ (List.mem_of_getElem? (i := 16) rfl))) (by decide) (t := .int) (t' := (.array .long)) (by decide) (by decide))))
  have f11 := (A2.other W5 (Ne.symm ne4))
  have f12 := ((Aa.ext E2).other W5 (Ne.symm neoa))
  have sz2 : h0.size ≤ b2 := Nat.le_of_eq g2.symm
  have loop : ∀ (k i : Nat) (zi : Int32) (T : State) (h : Heap) (locs : List Loc) (tbl : Nat → Int64), i + k = 3 → zi.toInt = (i : Int) → Stand p l e ({ frames := 1, cells := 1, slots := 8, locals := 17 } : Room) s m #[(.ref o)] below meth c T locs 1 8 → T.heap = h → Fr n0 locs → n0 ≤ h.size → Keep h0 h [o] → Exa Z h o "com/example/concept_reasoner/conceptreasoner/engine/LongSet" → Fld Z h o "com/example/concept_reasoner/conceptreasoner/engine/LongSet" "table" "[J" (.ref b2) → Fld Z h o "com/example/concept_reasoner/conceptreasoner/engine/LongSet" "added" "[J" (.ref ad) → Fld Z h o "com/example/concept_reasoner/conceptreasoner/engine/LongSet" "size" "I" (.int 3) → own_Ar Z h b2 .long 8 (fun j => .long (tbl j)) → own_Ar Z h ad .long 4 (fun j => .long (add j)) → own_Inv 8 (own_hash 8) tbl (fun x => ∃ j, j < i ∧ add j = x) i → own_Go p e below s (Q9 Z o tb ad tbl0 add h0 n0) 1 8 (T.setTop (mkF m 15 #[.val (.ref o), .val (.int zi)] [])) := by
    intro k
    induction k with
    | zero =>
      intro i zi T h locs tbl hik hzi X eT N Zh Kh E' Ft' Fa' Fs' At' Aa' I
      refine own_go (fun _ q => XS.iloadN X.here hx rfl (hb hby d9_15) rfl q) ?_
      show own_Go _ _ _ _ _ _ _ (T.setTop (mkF m 16 #[.val (.ref o), .val (.int zi)] [(.int zi)]))
      refine own_go (fun _ q => XS.aloadN X.here hx rfl (hb hby d9_16) rfl rfl q) ?_
      show own_Go _ _ _ _ _ _ _ (T.setTop (mkF m 17 #[.val (.ref o), .val (.int zi)] [(.ref o), (.int zi)]))
      obtain ⟨T13, X13, e13, st13⟩ := getF X hx hZ hown (host := "") (Or.inl (hw _ (List.mem_of_getElem? (i := 29) rfl))) Via.refl eT Fs' (g := (mkF m 17 #[.val (.ref o), .val (.int zi)] [(.ref o), (.int zi)])) rfl rfl (hb hby d9_17)
      refine own_go st13 ?_
      show own_Go _ _ _ _ _ _ _ (T13.setTop (mkF m 20 #[.val (.ref o), .val (.int zi)] [(.int (3 : Int32)), (.int zi)]))
      refine own_go (fun _ q => XS.icmpYes X13.here hx rfl (pc0 := 20) (pc' := 52) rfl (hb hby d9_20) rfl (flt (own_nlt (x := zi) (y := 3) (by have : (3 : Int32).toInt = 3 := rfl; omega))).2.1 (by decide) (by decide) q) ?_
      show own_Go _ _ _ _ _ _ _ (T13.setTop (mkF m 52 #[.val (.ref o), .val (.int zi)] []))
      obtain rfl : i = 3 := by omega
      subst e13
      exact own_retV X13 hx hlk hret (hb hby d9_52) (Nat.le_refl _) (Nat.le_refl _) ⟨rfl, N, Kh, E', b2, tbl, G2, sz2, Ft', Fa', Fs', At', I⟩
    | succ k ih =>
      intro i zi T h locs tbl hik hzi X eT N Zh Kh E' Ft' Fa' Fs' At' Aa' I
      refine own_go (fun _ q => XS.iloadN X.here hx rfl (hb hby d9_15) rfl q) ?_
      show own_Go _ _ _ _ _ _ _ (T.setTop (mkF m 16 #[.val (.ref o), .val (.int zi)] [(.int zi)]))
      refine own_go (fun _ q => XS.aloadN X.here hx rfl (hb hby d9_16) rfl rfl q) ?_
      show own_Go _ _ _ _ _ _ _ (T.setTop (mkF m 17 #[.val (.ref o), .val (.int zi)] [(.ref o), (.int zi)]))
      obtain ⟨T14, X14, e14, st14⟩ := getF X hx hZ hown (host := "") (Or.inl (hw _ (List.mem_of_getElem? (i := 29) rfl))) Via.refl eT Fs' (g := (mkF m 17 #[.val (.ref o), .val (.int zi)] [(.ref o), (.int zi)])) rfl rfl (hb hby d9_17)
      refine own_go st14 ?_
      show own_Go _ _ _ _ _ _ _ (T14.setTop (mkF m 20 #[.val (.ref o), .val (.int zi)] [(.int (3 : Int32)), (.int zi)]))
      refine own_go (fun _ q => XS.icmpNo X14.here hx rfl (hb hby d9_20) rfl (tlt (own_lt (x := zi) (y := 3) (by have : (3 : Int32).toInt = 3 := rfl; omega))).2.1 q) ?_
      show own_Go _ _ _ _ _ _ _ (T14.setTop (mkF m 23 #[.val (.ref o), .val (.int zi)] []))
      refine own_go (fun _ q => XS.aloadN X14.here hx rfl (hb hby d9_23) rfl rfl q) ?_
      show own_Go _ _ _ _ _ _ _ (T14.setTop (mkF m 24 #[.val (.ref o), .val (.int zi)] [(.ref o)]))
      obtain ⟨T15, X15, e15, st15⟩ := getF X14 hx hZ hown (host := "") (Or.inl (hw _ (List.mem_of_getElem? (i := 15) rfl))) Via.refl e14 Ft' (g := (mkF m 24 #[.val (.ref o), .val (.int zi)] [(.ref o)])) rfl rfl (hb hby d9_24)
      refine own_go st15 ?_
      show own_Go _ _ _ _ _ _ _ (T15.setTop (mkF m 27 #[.val (.ref o), .val (.int zi)] [(.ref b2)]))
      refine own_go (fun _ q => XS.aloadN X15.here hx rfl (hb hby d9_27) rfl rfl q) ?_
      show own_Go _ _ _ _ _ _ _ (T15.setTop (mkF m 28 #[.val (.ref o), .val (.int zi)] [(.ref o), (.ref b2)]))
      refine own_go (fun _ q => XS.aloadN X15.here hx rfl (hb hby d9_28) rfl rfl q) ?_
      show own_Go _ _ _ _ _ _ _ (T15.setTop (mkF m 29 #[.val (.ref o), .val (.int zi)] [(.ref o), (.ref o), (.ref b2)]))
      obtain ⟨T16, X16, e16, st16⟩ := getF X15 hx hZ hown (host := "") (Or.inl (hw _ (List.mem_of_getElem? (i := 17) rfl))) Via.refl e15 Fa' (g := (mkF m 29 #[.val (.ref o), .val (.int zi)] [(.ref o), (.ref o), (.ref b2)])) rfl rfl (hb hby d9_29)
      refine own_go st16 ?_
      show own_Go _ _ _ _ _ _ _ (T16.setTop (mkF m 32 #[.val (.ref o), .val (.int zi)] [(.ref ad), (.ref o), (.ref b2)]))
      refine own_go (fun _ q => XS.iloadN X16.here hx rfl (hb hby d9_32) rfl q) ?_
      show own_Go _ _ _ _ _ _ _ (T16.setTop (mkF m 33 #[.val (.ref o), .val (.int zi)] [(.int zi), (.ref ad), (.ref o), (.ref b2)]))
      refine own_laload X16 hx hZ e16 Aa' hzi (by omega) rfl (hb hby d9_33) rfl ?_
      show own_Go _ _ _ _ _ _ _ (T16.setTop (mkF m 34 #[.val (.ref o), .val (.int zi)] [(.long (add i)), (.ref o), (.ref b2)]))
      refine own_private X16 hx hZ hown (hw _ (List.mem_of_getElem? (i := 24) rfl)) (hw _ (List.mem_of_getElem? (i := 25) rfl)) (hw _ (List.mem_of_getElem? (i := 26) rfl)) (hw _ (List.mem_of_getElem? (i := 6) rfl)) (hw _ (List.mem_of_getElem? (i := 7) rfl)) (hw _ (List.mem_of_getElem? (i := 27) rfl)) (by decide) e16 (a := o) E' (argsL := [(.long (add i))]) (rest := [(.ref b2)]) (rm5 l Z a0 hw [] o b2 8 tbl (add i) h n0 Zh Ft' At' (Or.inr rfl) (own_empty (by have := I.2.2; omega))) 1 (by decide) (by decide) (by decide) (by decide) (by rw [hml]; rfl) pd_0 rfl rfl (Nat.le_of_eq rfl) (hb hby d9_34) rfl ?_
      intro v17 T17 L17 X17 hQ17
      obtain ⟨r, dd, rfl, N17q, e17q, hd, hr, hor, hp⟩ := hQ17
      have N17 := Fr.app N N17q
      show own_Go _ _ _ _ _ _ _ (T17.setTop (mkF m 37 #[.val (.ref o), .val (.int zi)] [(.int r), (.ref b2)]))
      refine own_go (fun _ q => XS.aloadN X17.here hx rfl (hb hby d9_37) rfl rfl q) ?_
      show own_Go _ _ _ _ _ _ _ (T17.setTop (mkF m 38 #[.val (.ref o), .val (.int zi)] [(.ref o), (.int r), (.ref b2)]))
      obtain ⟨T18, X18, e18, st18⟩ := getF X17 hx hZ hown (host := "") (Or.inl (hw _ (List.mem_of_getElem? (i := 17) rfl))) Via.refl e17q Fa' (g := (mkF m 38 #[.val (.ref o), .val (.int zi)] [(.ref o), (.int r), (.ref b2)])) rfl rfl (hb hby d9_38)
      refine own_go st18 ?_
      show own_Go _ _ _ _ _ _ _ (T18.setTop (mkF m 41 #[.val (.ref o), .val (.int zi)] [(.ref ad), (.int r), (.ref b2)]))
      refine own_go (fun _ q => XS.iloadN X18.here hx rfl (hb hby d9_41) rfl q) ?_
      show own_Go _ _ _ _ _ _ _ (T18.setTop (mkF m 42 #[.val (.ref o), .val (.int zi)] [(.int zi), (.ref ad), (.int r), (.ref b2)]))
      refine own_laload X18 hx hZ e18 Aa' hzi (by omega) rfl (hb hby d9_42) rfl ?_
      show own_Go _ _ _ _ _ _ _ (T18.setTop (mkF m 43 #[.val (.ref o), .val (.int zi)] [(.long (add i)), (.int r), (.ref b2)]))
      refine own_go (fun _ q => XS.lconst X18.here hx rfl (hb hby d9_43) q) ?_
      show own_Go _ _ _ _ _ _ _ (T18.setTop (mkF m 44 #[.val (.ref o), .val (.int zi)] [(.long (1 : Int64)), (.long (add i)), (.int r), (.ref b2)]))
      refine own_go (fun _ q => XS.ladd X18.here hx rfl (hb hby d9_44) rfl q) ?_
      show own_Go _ _ _ _ _ _ _ (T18.setTop (mkF m 45 #[.val (.ref o), .val (.int zi)] [(.long ((add i) + (1 : Int64))), (.int r), (.ref b2)]))
      have hz0 := own_miss I (Nat.mod_lt _ (by decide)) hor (fun ⟨j, hj, hje⟩ => hdis j i hj (by omega) hje)
      refine own_lastore X18 hx hZ e18 (i := ((own_hash 8 (add i) + dd) % 8)) At' hr (Nat.mod_lt _ (by decide)) (hb hby d9_45) rfl ?_
      intro T19 h19 X19 e19 W19 A19
      have N19 := Fr.snoc X19 N17 G2
      have Z19 : n0 ≤ h19.size := by rw [W19.size]; exact Zh
      show own_Go _ _ _ _ _ _ _ (T19.setTop (mkF m 46 #[.val (.ref o), .val (.int zi)] []))
      refine own_go (fun _ q => XS.iinc X19.here hx rfl (hb hby d9_46) rfl (l' := #[.val (.ref o), .val (.int (zi + (1 : Int32)))]) rfl q) ?_
      show own_Go _ _ _ _ _ _ _ (T19.setTop (mkF m 49 #[.val (.ref o), .val (.int (zi + (1 : Int32)))] []))
      refine own_go (fun _ q => XS.goto X19.here hx rfl (pc0 := 49) (pc' := 15) rfl (hb hby d9_49) (by decide) (by decide) q) ?_
      show own_Go _ _ _ _ _ _ _ (T19.setTop (mkF m 15 #[.val (.ref o), .val (.int (zi + (1 : Int32)))] []))
      have f20 := (E'.wr W19)
      have f21 := (Ft'.other W19 (Or.inl ne4))
      have f22 := (Fa'.other W19 (Or.inl ne4))
      have f23 := (Fs'.other W19 (Or.inl ne4))
      have f24 := (Aa'.other W19 ne3)
      exact ih (i + 1) _ _ _ _ (fun j => if j = (own_hash 8 (add i) + dd) % 8 then add i + 1 else tbl j) (by omega) (own_inc hzi (by omega)) X19 e19 N19 Z19 (Kh.wr W19 (Or.inr sz2)) f20 f21 f22 f23 (A19.eqv own_long_if) f24 ((own_insert I hd hz0 hp (hnz i (by omega))).mono (Nat.le_refl _) (own_upto add i))
  exact loop 3 0 _ _ _ _ (fun _ => 0) rfl rfl X5 e5 N5 Z5 K f8 Fw5 f9 f10 (f11.eqv fun _ _ => rfl) f12 ((own_Inv0 8 (own_hash 8)).mono (Nat.le_refl _) (fun x => ⟨fun q => q.elim, fun ⟨j, q, _⟩ => absurd q (Nat.not_lt_zero j)⟩))
theorem d4_0 : decode prog_38_method_2_code 0 = .ok (.aload_n 0, 1) := by decide +kernel
theorem d4_1 : decode prog_38_method_2_code 1 = .ok (.lload_n 1, 1) := by decide +kernel
theorem d4_2 : decode prog_38_method_2_code 2 = .ok (.invokevirtual 16, 3) := by decide +kernel
theorem d4_5 : decode prog_38_method_2_code 5 = .ok (.istore_n 3, 1) := by decide +kernel
theorem d4_6 : decode prog_38_method_2_code 6 = .ok (.aload_n 0, 1) := by decide +kernel
theorem d4_7 : decode prog_38_method_2_code 7 = .ok (.getfield 7, 3) := by decide +kernel
theorem d4_10 : decode prog_38_method_2_code 10 = .ok (.iload_n 3, 1) := by decide +kernel
theorem d4_11 : decode prog_38_method_2_code 11 = .ok (.laload, 1) := by decide +kernel
theorem d4_12 : decode prog_38_method_2_code 12 = .ok (.lconst 0, 1) := by decide +kernel
theorem d4_13 : decode prog_38_method_2_code 13 = .ok (.lcmp, 1) := by decide +kernel
theorem d4_14 : decode prog_38_method_2_code 14 = .ok (.ifCond .eq 5, 3) := by decide +kernel
theorem d4_17 : decode prog_38_method_2_code 17 = .ok (.iconst 0, 1) := by decide +kernel
theorem d4_18 : decode prog_38_method_2_code 18 = .ok (.ireturn, 1) := by decide +kernel
theorem d4_19 : decode prog_38_method_2_code 19 = .ok (.aload_n 0, 1) := by decide +kernel
theorem d4_20 : decode prog_38_method_2_code 20 = .ok (.getfield 7, 3) := by decide +kernel
theorem d4_23 : decode prog_38_method_2_code 23 = .ok (.iload_n 3, 1) := by decide +kernel
theorem d4_24 : decode prog_38_method_2_code 24 = .ok (.lload_n 1, 1) := by decide +kernel
theorem d4_25 : decode prog_38_method_2_code 25 = .ok (.lconst 1, 1) := by decide +kernel
theorem d4_26 : decode prog_38_method_2_code 26 = .ok (.ladd, 1) := by decide +kernel
theorem d4_27 : decode prog_38_method_2_code 27 = .ok (.lastore, 1) := by decide +kernel
theorem d4_28 : decode prog_38_method_2_code 28 = .ok (.aload_n 0, 1) := by decide +kernel
theorem d4_29 : decode prog_38_method_2_code 29 = .ok (.getfield 20, 3) := by decide +kernel
theorem d4_32 : decode prog_38_method_2_code 32 = .ok (.aload_n 0, 1) := by decide +kernel
theorem d4_33 : decode prog_38_method_2_code 33 = .ok (.getfield 13, 3) := by decide +kernel
theorem d4_36 : decode prog_38_method_2_code 36 = .ok (.arraylength, 1) := by decide +kernel
theorem d4_37 : decode prog_38_method_2_code 37 = .ok (.if_icmp .ne 20, 3) := by decide +kernel
theorem d4_40 : decode prog_38_method_2_code 40 = .ok (.aload_n 0, 1) := by decide +kernel
theorem d4_41 : decode prog_38_method_2_code 41 = .ok (.aload_n 0, 1) := by decide +kernel
theorem d4_42 : decode prog_38_method_2_code 42 = .ok (.getfield 13, 3) := by decide +kernel
theorem d4_45 : decode prog_38_method_2_code 45 = .ok (.iconst 2, 1) := by decide +kernel
theorem d4_46 : decode prog_38_method_2_code 46 = .ok (.aload_n 0, 1) := by decide +kernel
theorem d4_47 : decode prog_38_method_2_code 47 = .ok (.getfield 20, 3) := by decide +kernel
theorem d4_50 : decode prog_38_method_2_code 50 = .ok (.imul, 1) := by decide +kernel
theorem d4_51 : decode prog_38_method_2_code 51 = .ok (.invokestatic 24, 3) := by decide +kernel
theorem d4_54 : decode prog_38_method_2_code 54 = .ok (.putfield 13, 3) := by decide +kernel
theorem d4_57 : decode prog_38_method_2_code 57 = .ok (.aload_n 0, 1) := by decide +kernel
theorem d4_58 : decode prog_38_method_2_code 58 = .ok (.getfield 13, 3) := by decide +kernel
theorem d4_61 : decode prog_38_method_2_code 61 = .ok (.aload_n 0, 1) := by decide +kernel
theorem d4_62 : decode prog_38_method_2_code 62 = .ok (.dup, 1) := by decide +kernel
theorem d4_63 : decode prog_38_method_2_code 63 = .ok (.getfield 20, 3) := by decide +kernel
theorem d4_66 : decode prog_38_method_2_code 66 = .ok (.dup_x1, 1) := by decide +kernel
theorem d4_67 : decode prog_38_method_2_code 67 = .ok (.iconst 1, 1) := by decide +kernel
theorem d4_68 : decode prog_38_method_2_code 68 = .ok (.iadd, 1) := by decide +kernel
theorem d4_69 : decode prog_38_method_2_code 69 = .ok (.putfield 20, 3) := by decide +kernel
theorem d4_72 : decode prog_38_method_2_code 72 = .ok (.lload_n 1, 1) := by decide +kernel
theorem d4_73 : decode prog_38_method_2_code 73 = .ok (.lastore, 1) := by decide +kernel
theorem d4_74 : decode prog_38_method_2_code 74 = .ok (.iconst 2, 1) := by decide +kernel
theorem d4_75 : decode prog_38_method_2_code 75 = .ok (.aload_n 0, 1) := by decide +kernel
theorem d4_76 : decode prog_38_method_2_code 76 = .ok (.getfield 20, 3) := by decide +kernel
theorem d4_79 : decode prog_38_method_2_code 79 = .ok (.imul, 1) := by decide +kernel
theorem d4_80 : decode prog_38_method_2_code 80 = .ok (.aload_n 0, 1) := by decide +kernel
theorem d4_81 : decode prog_38_method_2_code 81 = .ok (.getfield 7, 3) := by decide +kernel
theorem d4_84 : decode prog_38_method_2_code 84 = .ok (.arraylength, 1) := by decide +kernel
theorem d4_85 : decode prog_38_method_2_code 85 = .ok (.if_icmp .le 7, 3) := by decide +kernel
theorem d4_88 : decode prog_38_method_2_code 88 = .ok (.aload_n 0, 1) := by decide +kernel
theorem d4_89 : decode prog_38_method_2_code 89 = .ok (.invokevirtual 30, 3) := by decide +kernel
theorem d4_92 : decode prog_38_method_2_code 92 = .ok (.iconst 1, 1) := by decide +kernel
theorem d4_93 : decode prog_38_method_2_code 93 = .ok (.ireturn, 1) := by decide +kernel
def Q4 (Z : State) (o : Addr) (tb : Addr) (ad : Addr) (L : Nat) (AL : Nat) (sz : Nat) (tbl : Nat → Int64) (add : Nat → Int64) (zs : Int32) (x : Int64) (S : Int64 → Prop) (h0 : Heap) (n0 : Nat) (v : Option Value) (h : Heap) (LL : List Loc) : Prop := ∃ r : Int32, v = some (.int r) ∧ Fr n0 LL ∧ own_Set Z h n0 o (sz + 1) (fun y => S y ∨ y = x) ∧ h0.size ≤ h.size
theorem ef_4 (m : MethodId) (x0 : Addr) (x1 : Int64) : entryFrame m #[(.ref x0), (.long x1)] 4 = mkF m 0 #[.val (.ref x0), .val (.long x1), .second, .unset] [] := by first | (simp [entryFrame, mkF, argsToLocals, Value.category]; done) | rfl
set_option maxRecDepth 65536 in
set_option maxHeartbeats 40000000 in
theorem rm4 (l : Launch) (Z : State) (a0 : Array Value) (hw : ∀ d ∈ tables_1, d.before a0 Z = true) (ws : List Jvm.Cond) (o : Addr) (tb : Addr) (ad : Addr) (L : Nat) (AL : Nat) (sz : Nat) (tbl : Nat → Int64) (add : Nat → Int64) (zs : Int32) (x : Int64) (S : Int64 → Prop) (h0 : Heap) (n0 : Nat) (Z0 : n0 ≤ h0.size) (E : Exa Z h0 o "com/example/concept_reasoner/conceptreasoner/engine/LongSet") (Ft : Fld Z h0 o "com/example/concept_reasoner/conceptreasoner/engine/LongSet" "table" "[J" (.ref tb)) (Fa : Fld Z h0 o "com/example/concept_reasoner/conceptreasoner/engine/LongSet" "added" "[J" (.ref ad)) (Fs : Fld Z h0 o "com/example/concept_reasoner/conceptreasoner/engine/LongSet" "size" "I" (.int zs)) (At : own_Ar Z h0 tb .long L (fun j => .long (tbl j))) (Aa : own_Ar Z h0 ad .long AL (fun j => .long (add j))) (go : n0 ≤ o) (gt : n0 ≤ tb) (ga : n0 ≤ ad) (neta : tb ≠ ad) (neot : o ≠ tb) (neoa : o ≠ ad) (hzs : zs.toInt = (sz : Int)) (hk : sz ≤ 3) (hLA : own_LA sz L AL) (I : own_Inv L (own_hash L) tbl S sz) (HA : own_Add add sz S) (hx1 : x + 1 ≠ 0) :
    own_Met l Z (⟨"com/example/concept_reasoner/conceptreasoner/engine/LongSet", "add", "(J)Z"⟩ : MethodName) prog_38_method_2_code 4 (some .boolean) ({ frames := 2, cells := 2, slots := 12, locals := 70 } : Room) ws #[(.ref o), (.long x)] h0 (Q4 Z o tb ad L AL sz tbl add zs x S h0 n0) := by
  refine own_enter (plainFor_of_name (by first | (simp [plainName, overriddenIn]; done) | decide +kernel)) ?_
  intro p e s m below meth c s₁ hx hby hml hown hnm hlk hret hZ X0 e0
  have N0 := Fr.nil n0
  refine own_go (fun _ q => castTop (ef_4 m o x) q) ?_
  show own_Go _ _ _ _ _ _ _ (s₁.setTop (mkF m 0 #[.val (.ref o), .val (.long x), .second, .unset] []))
  have hL : L = 4 ∨ L = 8 := by rcases hLA with ⟨_, q, _⟩ | ⟨_, q, _⟩ <;> omega
  have hus : own_used tbl L < L := by have := I.2.2; rcases hLA with ⟨_, q, _⟩ | ⟨_, q, _⟩ <;> omega
  refine own_go (fun _ q => XS.aloadN X0.here hx rfl (hb hby d4_0) rfl rfl q) ?_
  show own_Go _ _ _ _ _ _ _ (s₁.setTop (mkF m 1 #[.val (.ref o), .val (.long x), .second, .unset] [(.ref o)]))
  refine own_go (fun _ q => XS.lloadN X0.here hx rfl (hb hby d4_1) rfl q) ?_
  show own_Go _ _ _ _ _ _ _ (s₁.setTop (mkF m 2 #[.val (.ref o), .val (.long x), .second, .unset] [(.long x), (.ref o)]))
  refine own_private X0 hx hZ hown (hw _ (List.mem_of_getElem? (i := 24) rfl)) (hw _ (List.mem_of_getElem? (i := 25) rfl)) (hw _ (List.mem_of_getElem? (i := 26) rfl)) (hw _ (List.mem_of_getElem? (i := 6) rfl)) (hw _ (List.mem_of_getElem? (i := 7) rfl)) (hw _ (List.mem_of_getElem? (i := 27) rfl)) (by decide) e0 (a := o) E (argsL := [(.long x)]) (rest := []) (rm5 l Z a0 hw [] o tb L tbl x h0 n0 Z0 Ft At hL (own_empty hus)) 0 (by decide) (by decide) (by decide) (by decide) (by rw [hml]; rfl) pd_0 rfl rfl (Nat.le_of_eq rfl) (hb hby d4_2) rfl ?_
  intro v1 T1 L1 X1 hQ1
  obtain ⟨r, d, rfl, N1q, e1q, hd, hr, hor, hp⟩ := hQ1
  have N1 := Fr.app N0 N1q
  show own_Go _ _ _ _ _ _ _ (T1.setTop (mkF m 5 #[.val (.ref o), .val (.long x), .second, .unset] [(.int r)]))
  refine own_go (fun _ q => XS.istoreN X1.here hx rfl (hb hby d4_5) rfl (l' := #[.val (.ref o), .val (.long x), .second, .val (.int r)]) rfl q) ?_
  show own_Go _ _ _ _ _ _ _ (T1.setTop (mkF m 6 #[.val (.ref o), .val (.long x), .second, .val (.int r)] []))
  refine own_go (fun _ q => XS.aloadN X1.here hx rfl (hb hby d4_6) rfl rfl q) ?_
  show own_Go _ _ _ _ _ _ _ (T1.setTop (mkF m 7 #[.val (.ref o), .val (.long x), .second, .val (.int r)] [(.ref o)]))
  obtain ⟨T2, X2, e2, st2⟩ := getF X1 hx hZ hown (host := "") (Or.inl (hw _ (List.mem_of_getElem? (i := 15) rfl))) Via.refl e1q Ft (g := (mkF m 7 #[.val (.ref o), .val (.long x), .second, .val (.int r)] [(.ref o)])) rfl rfl (hb hby d4_7)
  refine own_go st2 ?_
  show own_Go _ _ _ _ _ _ _ (T2.setTop (mkF m 10 #[.val (.ref o), .val (.long x), .second, .val (.int r)] [(.ref tb)]))
  refine own_go (fun _ q => XS.iloadN X2.here hx rfl (hb hby d4_10) rfl q) ?_
  show own_Go _ _ _ _ _ _ _ (T2.setTop (mkF m 11 #[.val (.ref o), .val (.long x), .second, .val (.int r)] [(.int r), (.ref tb)]))
  refine own_laload X2 hx hZ e2 At hr (Nat.mod_lt _ (by rcases hL with rfl | rfl <;> decide)) rfl (hb hby d4_11) rfl ?_
  show own_Go _ _ _ _ _ _ _ (T2.setTop (mkF m 12 #[.val (.ref o), .val (.long x), .second, .val (.int r)] [(.long (tbl ((own_hash L x + d) % L)))]))
  refine own_go (fun _ q => XS.lconst X2.here hx rfl (hb hby d4_12) q) ?_
  show own_Go _ _ _ _ _ _ _ (T2.setTop (mkF m 13 #[.val (.ref o), .val (.long x), .second, .val (.int r)] [(.long (0 : Int64)), (.long (tbl ((own_hash L x + d) % L)))]))
  refine own_go (fun _ q => XS.lcmp X2.here hx rfl (hb hby d4_13) rfl q) ?_
  show own_Go _ _ _ _ _ _ _ (T2.setTop (mkF m 14 #[.val (.ref o), .val (.long x), .second, .val (.int r)] [(.int (lcmpW (tbl ((own_hash L x + d) % L)) (0 : Int64)))]))
  by_cases hz : (tbl ((own_hash L x + d) % L)) = (0 : Int64)
  · refine own_go (fun _ q => XS.ifYes X2.here hx rfl (pc0 := 14) (pc' := 19) rfl (hb hby d4_14) rfl ((if0 _ _).trans (teq ((lw_eq _ _).mpr hz)).1) (by decide) (by decide) q) ?_
    show own_Go _ _ _ _ _ _ _ (T2.setTop (mkF m 19 #[.val (.ref o), .val (.long x), .second, .val (.int r)] []))
    have hnS : ¬ S x := fun q => (I.2.1 x q).1 ((own_hit I hor hp q).symm.trans hz)
    refine own_go (fun _ q => XS.aloadN X2.here hx rfl (hb hby d4_19) rfl rfl q) ?_
    show own_Go _ _ _ _ _ _ _ (T2.setTop (mkF m 20 #[.val (.ref o), .val (.long x), .second, .val (.int r)] [(.ref o)]))
    obtain ⟨T3, X3, e3, st3⟩ := getF X2 hx hZ hown (host := "") (Or.inl (hw _ (List.mem_of_getElem? (i := 15) rfl))) Via.refl e2 Ft (g := (mkF m 20 #[.val (.ref o), .val (.long x), .second, .val (.int r)] [(.ref o)])) rfl rfl (hb hby d4_20)
    refine own_go st3 ?_
    show own_Go _ _ _ _ _ _ _ (T3.setTop (mkF m 23 #[.val (.ref o), .val (.long x), .second, .val (.int r)] [(.ref tb)]))
    refine own_go (fun _ q => XS.iloadN X3.here hx rfl (hb hby d4_23) rfl q) ?_
    show own_Go _ _ _ _ _ _ _ (T3.setTop (mkF m 24 #[.val (.ref o), .val (.long x), .second, .val (.int r)] [(.int r), (.ref tb)]))
    refine own_go (fun _ q => XS.lloadN X3.here hx rfl (hb hby d4_24) rfl q) ?_
    show own_Go _ _ _ _ _ _ _ (T3.setTop (mkF m 25 #[.val (.ref o), .val (.long x), .second, .val (.int r)] [(.long x), (.int r), (.ref tb)]))
    refine own_go (fun _ q => XS.lconst X3.here hx rfl (hb hby d4_25) q) ?_
    show own_Go _ _ _ _ _ _ _ (T3.setTop (mkF m 26 #[.val (.ref o), .val (.long x), .second, .val (.int r)] [(.long (1 : Int64)), (.long x), (.int r), (.ref tb)]))
    refine own_go (fun _ q => XS.ladd X3.here hx rfl (hb hby d4_26) rfl q) ?_
    show own_Go _ _ _ _ _ _ _ (T3.setTop (mkF m 27 #[.val (.ref o), .val (.long x), .second, .val (.int r)] [(.long (x + (1 : Int64))), (.int r), (.ref tb)]))
    refine own_lastore X3 hx hZ e3 (i := ((own_hash L x + d) % L)) At hr (Nat.mod_lt _ (by rcases hL with rfl | rfl <;> decide)) (hb hby d4_27) rfl ?_
    intro T4 h4 X4 e4 W4 A4
    have N4 := Fr.snoc X4 N1 gt
    have Z4 : n0 ≤ h4.size := by rw [W4.size]; exact Z0
    show own_Go _ _ _ _ _ _ _ (T4.setTop (mkF m 28 #[.val (.ref o), .val (.long x), .second, .val (.int r)] []))
    have I' := own_insert I hd hz hp hx1
    have B := A4.eqv (own_long_if (g := tbl) (y := x + 1) (i := (own_hash L x + d) % L))
    refine own_go (fun _ q => XS.aloadN X4.here hx rfl (hb hby d4_28) rfl rfl q) ?_
    show own_Go _ _ _ _ _ _ _ (T4.setTop (mkF m 29 #[.val (.ref o), .val (.long x), .second, .val (.int r)] [(.ref o)]))
    have f6 := (Fs.other W4 (Or.inl neot))
    obtain ⟨T5, X5, e5, st5⟩ := getF X4 hx hZ hown (host := "") (Or.inl (hw _ (List.mem_of_getElem? (i := 29) rfl))) Via.refl e4 f6 (g := (mkF m 29 #[.val (.ref o), .val (.long x), .second, .val (.int r)] [(.ref o)])) rfl rfl (hb hby d4_29)
    refine own_go st5 ?_
    show own_Go _ _ _ _ _ _ _ (T5.setTop (mkF m 32 #[.val (.ref o), .val (.long x), .second, .val (.int r)] [(.int zs)]))
    refine own_go (fun _ q => XS.aloadN X5.here hx rfl (hb hby d4_32) rfl rfl q) ?_
    show own_Go _ _ _ _ _ _ _ (T5.setTop (mkF m 33 #[.val (.ref o), .val (.long x), .second, .val (.int r)] [(.ref o), (.int zs)]))
    have f8 := (Fa.other W4 (Or.inl neot))
    obtain ⟨T7, X7, e7, st7⟩ := getF X5 hx hZ hown (host := "") (Or.inl (hw _ (List.mem_of_getElem? (i := 17) rfl))) Via.refl e5 f8 (g := (mkF m 33 #[.val (.ref o), .val (.long x), .second, .val (.int r)] [(.ref o), (.int zs)])) rfl rfl (hb hby d4_33)
    refine own_go st7 ?_
    show own_Go _ _ _ _ _ _ _ (T7.setTop (mkF m 36 #[.val (.ref o), .val (.long x), .second, .val (.int r)] [(.ref ad), (.int zs)]))
    by_cases hs2 : sz = 2
    · subst hs2
      obtain ⟨rfl, rfl⟩ : L = 4 ∧ AL = 2 := by rcases hLA with ⟨_, q, r⟩ | ⟨q, _⟩; (· exact ⟨q, r⟩); (· omega)
      obtain rfl : zs = 2 := own_eq hzs
      have f9 := (Aa.other W4 (Ne.symm neta))
      refine own_length (z := (2 : Int32)) X7 hx hZ e7 f9 rfl (hb hby d4_36) rfl ?_
      show own_Go _ _ _ _ _ _ _ (T7.setTop (mkF m 37 #[.val (.ref o), .val (.long x), .second, .val (.int r)] [(.int (2 : Int32)), (.int (2 : Int32))]))
      refine own_go (fun _ q => XS.icmpNo X7.here hx rfl (hb hby d4_37) rfl (teq (by decide : (2 : Int32) = (2 : Int32))).2 q) ?_
      show own_Go _ _ _ _ _ _ _ (T7.setTop (mkF m 40 #[.val (.ref o), .val (.long x), .second, .val (.int r)] []))
      refine own_go (fun _ q => XS.aloadN X7.here hx rfl (hb hby d4_40) rfl rfl q) ?_
      show own_Go _ _ _ _ _ _ _ (T7.setTop (mkF m 41 #[.val (.ref o), .val (.long x), .second, .val (.int r)] [(.ref o)]))
      refine own_go (fun _ q => XS.aloadN X7.here hx rfl (hb hby d4_41) rfl rfl q) ?_
      show own_Go _ _ _ _ _ _ _ (T7.setTop (mkF m 42 #[.val (.ref o), .val (.long x), .second, .val (.int r)] [(.ref o), (.ref o)]))
      obtain ⟨T10, X10, e10, st10⟩ := getF X7 hx hZ hown (host := "") (Or.inl (hw _ (List.mem_of_getElem? (i := 17) rfl))) Via.refl e7 f8 (g := (mkF m 42 #[.val (.ref o), .val (.long x), .second, .val (.int r)] [(.ref o), (.ref o)])) rfl rfl (hb hby d4_42)
      refine own_go st10 ?_
      show own_Go _ _ _ _ _ _ _ (T10.setTop (mkF m 45 #[.val (.ref o), .val (.long x), .second, .val (.int r)] [(.ref ad), (.ref o)]))
      refine own_go (fun _ q => XS.iconst X10.here hx rfl (hb hby d4_45) q) ?_
      show own_Go _ _ _ _ _ _ _ (T10.setTop (mkF m 46 #[.val (.ref o), .val (.long x), .second, .val (.int r)] [(.int (2 : Int32)), (.ref ad), (.ref o)]))
      refine own_go (fun _ q => XS.aloadN X10.here hx rfl (hb hby d4_46) rfl rfl q) ?_
      show own_Go _ _ _ _ _ _ _ (T10.setTop (mkF m 47 #[.val (.ref o), .val (.long x), .second, .val (.int r)] [(.ref o), (.int (2 : Int32)), (.ref ad), (.ref o)]))
      obtain ⟨T11, X11, e11, st11⟩ := getF X10 hx hZ hown (host := "") (Or.inl (hw _ (List.mem_of_getElem? (i := 29) rfl))) Via.refl e10 f6 (g := (mkF m 47 #[.val (.ref o), .val (.long x), .second, .val (.int r)] [(.ref o), (.int (2 : Int32)), (.ref ad), (.ref o)])) rfl rfl (hb hby d4_47)
      refine own_go st11 ?_
      show own_Go _ _ _ _ _ _ _ (T11.setTop (mkF m 50 #[.val (.ref o), .val (.long x), .second, .val (.int r)] [(.int (2 : Int32)), (.int (2 : Int32)), (.ref ad), (.ref o)]))
      refine own_go (fun _ q => XS.imul X11.here hx rfl (hb hby d4_50) rfl q) ?_
      show own_Go _ _ _ _ _ _ _ (T11.setTop (mkF m 51 #[.val (.ref o), .val (.long x), .second, .val (.int r)] [(.int ((2 : Int32) * (2 : Int32))), (.ref ad), (.ref o)]))
      show own_Go _ _ _ _ _ _ _ (T11.setTop (mkF m 51 #[.val (.ref o), .val (.long x), .second, .val (.int r)] [(.int (4 : Int32)), (.ref ad), (.ref o)]))
      refine own_static X11 hx hZ hown (hw _ (List.mem_of_getElem? (i := 36) rfl)) (hw _ (List.mem_of_getElem? (i := 37) rfl)) (hw _ (List.mem_of_getElem? (i := 38) rfl)) (hw _ (List.mem_of_getElem? (i := 39) rfl)) (by decide) e11 (argsL := [(.ref ad), (.int (4 : Int32))]) (rest := [(.ref o)]) (rm7 l Z a0 hw [] ad add h4 n0 Z4 f9) 1 (by decide) (by decide) (by decide) (by decide) (by rw [hml]; rfl) pd_2 rfl rfl (Nat.le_of_eq rfl) (hb hby d4_51) rfl ?_
      intro v12 T12 L12 X12 hQ12
      obtain ⟨b12, rfl, N12q, K12, G12, sz12, A12⟩ := hQ12
      have N12 := Fr.app N4 N12q
      show own_Go _ _ _ _ _ _ _ (T12.setTop (mkF m 54 #[.val (.ref o), .val (.long x), .second, .val (.int r)] [(.ref b12), (.ref o)]))
      have f13 := (E.wr W4)
      have neo_12 : o ≠ b12 := Nat.ne_of_lt (Nat.lt_of_lt_of_le (f13).lt sz12)
      have netb_12 : tb ≠ b12 := Nat.ne_of_lt (Nat.lt_of_lt_of_le (B).lt sz12)
      have Z12 : n0 ≤ T12.heap.size := Nat.le_trans Z4 K12.1
      have f15 := (f8.keep K12 nin0)
      have f16 := (f13.keep K12)
      obtain ⟨T14, h14, X14, e14, W14, st14⟩ := putF X12 hx hZ hown (host := "") (Or.inl (hw _ (List.mem_of_getElem? (i := 17) rfl))) Via.refl rfl f15 f16 (Or.inl (hw _ (List.mem_of_getElem? (i := 18) rfl))) (hw _ (List.mem_of_getElem? (i := 6) rfl)) (ty := (.array .long)) (by decide) rfl rfl (g := (mkF m 54 #[.val (.ref o), .val (.long x), .second, .val (.int r)] [(.ref b12), (.ref o)])) rfl rfl (hb hby d4_54)
      have N14 := Fr.snoc X14 N12 go
      have Fw14 := f15.same W14
      have Z14 : n0 ≤ h14.size := by rw [W14.size]; exact Z12
      refine own_go st14 ?_
      show own_Go _ _ _ _ _ _ _ (T14.setTop (mkF m 57 #[.val (.ref o), .val (.long x), .second, .val (.int r)] []))
      refine own_go (fun _ q => XS.aloadN X14.here hx rfl (hb hby d4_57) rfl rfl q) ?_
      show own_Go _ _ _ _ _ _ _ (T14.setTop (mkF m 58 #[.val (.ref o), .val (.long x), .second, .val (.int r)] [(.ref o)]))
      obtain ⟨T17, X17, e17, st17⟩ := getF X14 hx hZ hown (host := "") (Or.inl (hw _ (List.mem_of_getElem? (i := 17) rfl))) Via.refl e14 Fw14 (g := (mkF m 58 #[.val (.ref o), .val (.long x), .second, .val (.int r)] [(.ref o)])) rfl rfl (hb hby d4_58)
      refine own_go st17 ?_
      show own_Go _ _ _ _ _ _ _ (T17.setTop (mkF m 61 #[.val (.ref o), .val (.long x), .second, .val (.int r)] [(.ref b12)]))
      refine own_go (fun _ q => XS.aloadN X17.here hx rfl (hb hby d4_61) rfl rfl q) ?_
      show own_Go _ _ _ _ _ _ _ (T17.setTop (mkF m 62 #[.val (.ref o), .val (.long x), .second, .val (.int r)] [(.ref o), (.ref b12)]))
      refine own_go (fun _ q => XS.dup X17.here hx rfl (hb hby d4_62) rfl rfl q) ?_
      show own_Go _ _ _ _ _ _ _ (T17.setTop (mkF m 63 #[.val (.ref o), .val (.long x), .second, .val (.int r)] [(.ref o), (.ref o), (.ref b12)]))
      have f19 := ((f6.keep K12 nin0).other W14 (Or.inr (slot_ne (Or.inl (hw _ (List.mem_of_getElem? (i := 30) rfl))) (Or.inl (hw _ (List.mem_of_getElem? (i := 18) rfl))) (by decide) (t := .int) (t' := (.array .long)) (by decide) (by decide))))
      obtain ⟨T18, X18, e18, st18⟩ := getF X17 hx hZ hown (host := "") (Or.inl (hw _ (List.mem_of_getElem? (i := 29) rfl))) Via.refl e17 f19 (g := (mkF m 63 #[.val (.ref o), .val (.long x), .second, .val (.int r)] [(.ref o), (.ref o), (.ref b12)])) rfl rfl (hb hby d4_63)
      refine own_go st18 ?_
      show own_Go _ _ _ _ _ _ _ (T18.setTop (mkF m 66 #[.val (.ref o), .val (.long x), .second, .val (.int r)] [(.int (2 : Int32)), (.ref o), (.ref b12)]))
      refine own_go (fun _ q => XS.dupX1 X18.here hx rfl (hb hby d4_66) rfl rfl rfl q) ?_
      show own_Go _ _ _ _ _ _ _ (T18.setTop (mkF m 67 #[.val (.ref o), .val (.long x), .second, .val (.int r)] [(.int (2 : Int32)), (.ref o), (.int (2 : Int32)), (.ref b12)]))
      refine own_go (fun _ q => XS.iconst X18.here hx rfl (hb hby d4_67) q) ?_
      show own_Go _ _ _ _ _ _ _ (T18.setTop (mkF m 68 #[.val (.ref o), .val (.long x), .second, .val (.int r)] [(.int (1 : Int32)), (.int (2 : Int32)), (.ref o), (.int (2 : Int32)), (.ref b12)]))
      refine own_go (fun _ q => XS.iadd X18.here hx rfl (hb hby d4_68) rfl q) ?_
      show own_Go _ _ _ _ _ _ _ (T18.setTop (mkF m 69 #[.val (.ref o), .val (.long x), .second, .val (.int r)] [(.int ((2 : Int32) + (1 : Int32))), (.ref o), (.int (2 : Int32)), (.ref b12)]))
      have f21 := (f16.wr W14)
      obtain ⟨T20, h20, X20, e20, W20, st20⟩ := putF X18 hx hZ hown (host := "") (Or.inl (hw _ (List.mem_of_getElem? (i := 29) rfl))) Via.refl e18 f19 f21 (Or.inl (hw _ (List.mem_of_getElem? (i := 30) rfl))) (hw _ (List.mem_of_getElem? (i := 6) rfl)) (ty := .int) (by decide) rfl rfl (g := (mkF m 69 #[.val (.ref o), .val (.long x), .second, .val (.int r)] [(.int ((2 : Int32) + (1 : Int32))), (.ref o), (.int (2 : Int32)), (.ref b12)])) rfl rfl (hb hby d4_69)
      have N20 := Fr.snoc X20 N14 go
      have Fw20 := f19.same W20
      have Z20 : n0 ≤ h20.size := by rw [W20.size]; exact Z14
      refine own_go st20 ?_
      show own_Go _ _ _ _ _ _ _ (T20.setTop (mkF m 72 #[.val (.ref o), .val (.long x), .second, .val (.int r)] [(.int (2 : Int32)), (.ref b12)]))
      refine own_go (fun _ q => XS.lloadN X20.here hx rfl (hb hby d4_72) rfl q) ?_
      show own_Go _ _ _ _ _ _ _ (T20.setTop (mkF m 73 #[.val (.ref o), .val (.long x), .second, .val (.int r)] [(.long x), (.int (2 : Int32)), (.ref b12)]))
      have f23 := ((A12.other W14 (Ne.symm neo_12)).other W20 (Ne.symm neo_12))
      refine own_lastore X20 hx hZ e20 (i := 2) f23 rfl (by decide) (hb hby d4_73) rfl ?_
      intro T22 h22 X22 e22 W22 A22
      have N22 := Fr.snoc X22 N20 G12
      have Z22 : n0 ≤ h22.size := by rw [W22.size]; exact Z20
      show own_Go _ _ _ _ _ _ _ (T22.setTop (mkF m 74 #[.val (.ref o), .val (.long x), .second, .val (.int r)] []))
      have B2 : own_Ar Z h22 b12 .long 4 (fun j => .long (own_upd (own_cut add) 2 x j)) := A22.eqv own_long_if
      refine own_go (fun _ q => XS.iconst X22.here hx rfl (hb hby d4_74) q) ?_
      show own_Go _ _ _ _ _ _ _ (T22.setTop (mkF m 75 #[.val (.ref o), .val (.long x), .second, .val (.int r)] [(.int (2 : Int32))]))
      refine own_go (fun _ q => XS.aloadN X22.here hx rfl (hb hby d4_75) rfl rfl q) ?_
      show own_Go _ _ _ _ _ _ _ (T22.setTop (mkF m 76 #[.val (.ref o), .val (.long x), .second, .val (.int r)] [(.ref o), (.int (2 : Int32))]))
      have f25 := (Fw20.other W22 (Or.inl neo_12))
      obtain ⟨T24, X24, e24, st24⟩ := getF X22 hx hZ hown (host := "") (Or.inl (hw _ (List.mem_of_getElem? (i := 29) rfl))) Via.refl e22 f25 (g := (mkF m 76 #[.val (.ref o), .val (.long x), .second, .val (.int r)] [(.ref o), (.int (2 : Int32))])) rfl rfl (hb hby d4_76)
      refine own_go st24 ?_
      show own_Go _ _ _ _ _ _ _ (T24.setTop (mkF m 79 #[.val (.ref o), .val (.long x), .second, .val (.int r)] [(.int ((2 : Int32) + (1 : Int32))), (.int (2 : Int32))]))
      refine own_go (fun _ q => XS.imul X24.here hx rfl (hb hby d4_79) rfl q) ?_
      show own_Go _ _ _ _ _ _ _ (T24.setTop (mkF m 80 #[.val (.ref o), .val (.long x), .second, .val (.int r)] [(.int ((2 : Int32) * ((2 : Int32) + (1 : Int32))))]))
      refine own_go (fun _ q => XS.aloadN X24.here hx rfl (hb hby d4_80) rfl rfl q) ?_
      show own_Go _ _ _ _ _ _ _ (T24.setTop (mkF m 81 #[.val (.ref o), .val (.long x), .second, .val (.int r)] [(.ref o), (.int ((2 : Int32) * ((2 : Int32) + (1 : Int32))))]))
      have f27 := (((((Ft.other W4 (Or.inl neot)).keep K12 nin0).other W14 (Or.inr (slot_ne (Or.inl (hw _ (List.mem_of_getElem? (i := 16) rfl))) (Or.inl (hw _ (List.mem_of_getElem? (i := 18) rfl))) (by decide) (t := (.array .long)) (t' := (.array .long)) (by decide) (by decide)))).other W20 (Or.inr (slot_ne (Or.inl (hw _ (List.mem_of_getElem? (i := 16) rfl))) (Or.inl (hw _ (List.mem_of_getElem? (i := 30) rfl))) (by decide) (t := (.array .long)) (t' := .int) (by decide) (by decide)))).other W22 (Or.inl neo_12))
      obtain ⟨T26, X26, e26, st26⟩ := getF X24 hx hZ hown (host := "") (Or.inl (hw _ (List.mem_of_getElem? (i := 15) rfl))) Via.refl e24 f27 (g := (mkF m 81 #[.val (.ref o), .val (.long x), .second, .val (.int r)] [(.ref o), (.int ((2 : Int32) * ((2 : Int32) + (1 : Int32))))])) rfl rfl (hb hby d4_81)
      refine own_go st26 ?_
      show own_Go _ _ _ _ _ _ _ (T26.setTop (mkF m 84 #[.val (.ref o), .val (.long x), .second, .val (.int r)] [(.ref tb), (.int ((2 : Int32) * ((2 : Int32) + (1 : Int32))))]))
      have f28 := ((((B.keep K12 nin0).other W14 (Ne.symm neot)).other W20 (Ne.symm neot)).other W22 netb_12)
      refine own_length (z := (4 : Int32)) X26 hx hZ e26 f28 rfl (hb hby d4_84) rfl ?_
      show own_Go _ _ _ _ _ _ _ (T26.setTop (mkF m 85 #[.val (.ref o), .val (.long x), .second, .val (.int r)] [(.int (4 : Int32)), (.int ((2 : Int32) * ((2 : Int32) + (1 : Int32))))]))
      refine own_go (fun _ q => XS.icmpNo X26.here hx rfl (hb hby d4_85) rfl (tlt (by decide : (4 : Int32) < (2 : Int32) * ((2 : Int32) + (1 : Int32)))).2.2.2 q) ?_
      show own_Go _ _ _ _ _ _ _ (T26.setTop (mkF m 88 #[.val (.ref o), .val (.long x), .second, .val (.int r)] []))
      refine own_go (fun _ q => XS.aloadN X26.here hx rfl (hb hby d4_88) rfl rfl q) ?_
      show own_Go _ _ _ _ _ _ _ (T26.setTop (mkF m 89 #[.val (.ref o), .val (.long x), .second, .val (.int r)] [(.ref o)]))
      have hsz : h0.size ≤ h22.size := by have := W4.size; have := K12.1; have := W14.size; have := W20.size; have := W22.size; omega
      have HN := own_Add_new (own_Add_cut HA) hnS
      have f29 := ((f21.wr W20).wr W22)
      have f30 := ((Fw14.other W20 (Or.inr (slot_ne (Or.inl (hw _ (List.mem_of_getElem? (i := 18) rfl))) (Or.inl (hw _ (List.mem_of_getElem? (i := 30) rfl))) (by decide) (t := (.array .long)) (t' := .int) (by decide) (by decide)))).other W22 (Or.inl neo_12))
      refine own_private X26 hx hZ hown (hw _ (List.mem_of_getElem? (i := 48) rfl)) (hw _ (List.mem_of_getElem? (i := 49) rfl)) (hw _ (List.mem_of_getElem? (i := 50) rfl)) (hw _ (List.mem_of_getElem? (i := 6) rfl)) (hw _ (List.mem_of_getElem? (i := 7) rfl)) (hw _ (List.mem_of_getElem? (i := 51) rfl)) (by decide) e26 (a := o) f29 (argsL := []) (rest := []) (rm9 l Z a0 hw [] o tb b12 (fun j => if j = (own_hash 4 x + d) % 4 then x + 1 else tbl j) (own_upd (own_cut add) 2 x) h22 n0 Z22 f29 f27 f30 f25 f28 B2 go neo_12 HN.2 (own_nz HN I hx1)) 0 (by decide) (by decide) (by decide) (by decide) (by rw [hml]; rfl) pd_3 rfl rfl (Nat.le_of_eq rfl) (hb hby d4_89) rfl ?_
      intro v31 T31 L31 X31 hQ31
      obtain ⟨rfl, N31q, K31, E31, tb', tbl', gt', szt', Ft', Fa', Fs', At', I31⟩ := hQ31
      have N31 := Fr.app N22 N31q
      show own_Go _ _ _ _ _ _ _ (T31.setTop (mkF m 92 #[.val (.ref o), .val (.long x), .second, .val (.int r)] []))
      have Aa' := B2.keep K31 (ninS (Ne.symm neo_12) nin0)
      have nett : tb' ≠ b12 := Ne.symm (Nat.ne_of_lt (Nat.lt_of_lt_of_le (B2).lt szt'))
      have neot' : o ≠ tb' := Nat.ne_of_lt (Nat.lt_of_lt_of_le (f29).lt szt')
      refine own_go (fun _ q => XS.iconst X31.here hx rfl (hb hby d4_92) q) ?_
      show own_Go _ _ _ _ _ _ _ (T31.setTop (mkF m 93 #[.val (.ref o), .val (.long x), .second, .val (.int r)] [(.int (1 : Int32))]))
      exact own_retZ X31 hx hlk hret (hb hby d4_93) (by decide) (by decide) (by decide) ⟨_, rfl, N31, ⟨tb', b12, 8, 4, 3, tbl', own_upd (own_cut add) 2 x, 3, E31, Ft', Fa', Fs', At', Aa', go, gt', G12, nett, neot', neo_12, rfl, by omega, Or.inr ⟨by decide, rfl, rfl⟩, I31.mono (Nat.le_refl _) HN.1, HN⟩, Nat.le_trans hsz K31.1⟩
    · have hAL : AL = 2 ∨ AL = 4 := by rcases hLA with ⟨_, _, q⟩ | ⟨_, _, q⟩; (· exact Or.inl q); (· exact Or.inr q)
      have f32 := (Aa.other W4 (Ne.symm neta))
      refine own_length (z := (own_zl AL)) X7 hx hZ e7 f32 (own_zl_toInt2 hAL) (hb hby d4_36) rfl ?_
      show own_Go _ _ _ _ _ _ _ (T7.setTop (mkF m 37 #[.val (.ref o), .val (.long x), .second, .val (.int r)] [(.int (own_zl AL)), (.int zs)]))
      refine own_go (fun _ q => XS.icmpYes X7.here hx rfl (pc0 := 37) (pc' := 57) rfl (hb hby d4_37) rfl (feq (own_ne (x := zs) (y := own_zl AL) (by rw [own_zl_toInt2 hAL, hzs]; rcases hLA with ⟨_, _, q⟩ | ⟨_, _, q⟩ <;> omega))).2 (by decide) (by decide) q) ?_
      show own_Go _ _ _ _ _ _ _ (T7.setTop (mkF m 57 #[.val (.ref o), .val (.long x), .second, .val (.int r)] []))
      refine own_go (fun _ q => XS.aloadN X7.here hx rfl (hb hby d4_57) rfl rfl q) ?_
      show own_Go _ _ _ _ _ _ _ (T7.setTop (mkF m 58 #[.val (.ref o), .val (.long x), .second, .val (.int r)] [(.ref o)]))
      obtain ⟨T33, X33, e33, st33⟩ := getF X7 hx hZ hown (host := "") (Or.inl (hw _ (List.mem_of_getElem? (i := 17) rfl))) Via.refl e7 f8 (g := (mkF m 58 #[.val (.ref o), .val (.long x), .second, .val (.int r)] [(.ref o)])) rfl rfl (hb hby d4_58)
      refine own_go st33 ?_
      show own_Go _ _ _ _ _ _ _ (T33.setTop (mkF m 61 #[.val (.ref o), .val (.long x), .second, .val (.int r)] [(.ref ad)]))
      refine own_go (fun _ q => XS.aloadN X33.here hx rfl (hb hby d4_61) rfl rfl q) ?_
      show own_Go _ _ _ _ _ _ _ (T33.setTop (mkF m 62 #[.val (.ref o), .val (.long x), .second, .val (.int r)] [(.ref o), (.ref ad)]))
      refine own_go (fun _ q => XS.dup X33.here hx rfl (hb hby d4_62) rfl rfl q) ?_
      show own_Go _ _ _ _ _ _ _ (T33.setTop (mkF m 63 #[.val (.ref o), .val (.long x), .second, .val (.int r)] [(.ref o), (.ref o), (.ref ad)]))
      obtain ⟨T34, X34, e34, st34⟩ := getF X33 hx hZ hown (host := "") (Or.inl (hw _ (List.mem_of_getElem? (i := 29) rfl))) Via.refl e33 f6 (g := (mkF m 63 #[.val (.ref o), .val (.long x), .second, .val (.int r)] [(.ref o), (.ref o), (.ref ad)])) rfl rfl (hb hby d4_63)
      refine own_go st34 ?_
      show own_Go _ _ _ _ _ _ _ (T34.setTop (mkF m 66 #[.val (.ref o), .val (.long x), .second, .val (.int r)] [(.int zs), (.ref o), (.ref ad)]))
      refine own_go (fun _ q => XS.dupX1 X34.here hx rfl (hb hby d4_66) rfl rfl rfl q) ?_
      show own_Go _ _ _ _ _ _ _ (T34.setTop (mkF m 67 #[.val (.ref o), .val (.long x), .second, .val (.int r)] [(.int zs), (.ref o), (.int zs), (.ref ad)]))
      refine own_go (fun _ q => XS.iconst X34.here hx rfl (hb hby d4_67) q) ?_
      show own_Go _ _ _ _ _ _ _ (T34.setTop (mkF m 68 #[.val (.ref o), .val (.long x), .second, .val (.int r)] [(.int (1 : Int32)), (.int zs), (.ref o), (.int zs), (.ref ad)]))
      refine own_go (fun _ q => XS.iadd X34.here hx rfl (hb hby d4_68) rfl q) ?_
      show own_Go _ _ _ _ _ _ _ (T34.setTop (mkF m 69 #[.val (.ref o), .val (.long x), .second, .val (.int r)] [(.int (zs + (1 : Int32))), (.ref o), (.int zs), (.ref ad)]))
      have f36 := (E.wr W4)
      obtain ⟨T35, h35, X35, e35, W35, st35⟩ := putF X34 hx hZ hown (host := "") (Or.inl (hw _ (List.mem_of_getElem? (i := 29) rfl))) Via.refl e34 f6 f36 (Or.inl (hw _ (List.mem_of_getElem? (i := 30) rfl))) (hw _ (List.mem_of_getElem? (i := 6) rfl)) (ty := .int) (by decide) rfl rfl (g := (mkF m 69 #[.val (.ref o), .val (.long x), .second, .val (.int r)] [(.int (zs + (1 : Int32))), (.ref o), (.int zs), (.ref ad)])) rfl rfl (hb hby d4_69)
      have N35 := Fr.snoc X35 N4 go
      have Fw35 := f6.same W35
      have Z35 : n0 ≤ h35.size := by rw [W35.size]; exact Z4
      refine own_go st35 ?_
      show own_Go _ _ _ _ _ _ _ (T35.setTop (mkF m 72 #[.val (.ref o), .val (.long x), .second, .val (.int r)] [(.int zs), (.ref ad)]))
      refine own_go (fun _ q => XS.lloadN X35.here hx rfl (hb hby d4_72) rfl q) ?_
      show own_Go _ _ _ _ _ _ _ (T35.setTop (mkF m 73 #[.val (.ref o), .val (.long x), .second, .val (.int r)] [(.long x), (.int zs), (.ref ad)]))
      have f38 := (f32.other W35 (Ne.symm neoa))
      refine own_lastore X35 hx hZ e35 (i := sz) f38 hzs (by rcases hLA with ⟨_, _, q⟩ | ⟨_, _, q⟩ <;> omega) (hb hby d4_73) rfl ?_
      intro T37 h37 X37 e37 W37 A37
      have N37 := Fr.snoc X37 N35 ga
      have Z37 : n0 ≤ h37.size := by rw [W37.size]; exact Z35
      show own_Go _ _ _ _ _ _ _ (T37.setTop (mkF m 74 #[.val (.ref o), .val (.long x), .second, .val (.int r)] []))
      have B2 : own_Ar Z h37 ad .long AL (fun j => .long (own_upd add sz x j)) := A37.eqv own_long_if
      refine own_go (fun _ q => XS.iconst X37.here hx rfl (hb hby d4_74) q) ?_
      show own_Go _ _ _ _ _ _ _ (T37.setTop (mkF m 75 #[.val (.ref o), .val (.long x), .second, .val (.int r)] [(.int (2 : Int32))]))
      refine own_go (fun _ q => XS.aloadN X37.here hx rfl (hb hby d4_75) rfl rfl q) ?_
      show own_Go _ _ _ _ _ _ _ (T37.setTop (mkF m 76 #[.val (.ref o), .val (.long x), .second, .val (.int r)] [(.ref o), (.int (2 : Int32))]))
      have f40 := (Fw35.other W37 (Or.inl neoa))
      obtain ⟨T39, X39, e39, st39⟩ := getF X37 hx hZ hown (host := "") (Or.inl (hw _ (List.mem_of_getElem? (i := 29) rfl))) Via.refl e37 f40 (g := (mkF m 76 #[.val (.ref o), .val (.long x), .second, .val (.int r)] [(.ref o), (.int (2 : Int32))])) rfl rfl (hb hby d4_76)
      refine own_go st39 ?_
      show own_Go _ _ _ _ _ _ _ (T39.setTop (mkF m 79 #[.val (.ref o), .val (.long x), .second, .val (.int r)] [(.int (zs + (1 : Int32))), (.int (2 : Int32))]))
      refine own_go (fun _ q => XS.imul X39.here hx rfl (hb hby d4_79) rfl q) ?_
      show own_Go _ _ _ _ _ _ _ (T39.setTop (mkF m 80 #[.val (.ref o), .val (.long x), .second, .val (.int r)] [(.int ((2 : Int32) * (zs + (1 : Int32))))]))
      refine own_go (fun _ q => XS.aloadN X39.here hx rfl (hb hby d4_80) rfl rfl q) ?_
      show own_Go _ _ _ _ _ _ _ (T39.setTop (mkF m 81 #[.val (.ref o), .val (.long x), .second, .val (.int r)] [(.ref o), (.int ((2 : Int32) * (zs + (1 : Int32))))]))
      have f42 := (((Ft.other W4 (Or.inl neot)).other W35 (Or.inr (slot_ne (Or.inl (hw _ (List.mem_of_getElem? (i := 16) rfl))) (Or.inl (hw _ (List.mem_of_getElem? (i := 30) rfl))) (by decide) (t := (.array .long)) (t' := .int) (by decide) (by decide)))).other W37 (Or.inl neoa))
      obtain ⟨T41, X41, e41, st41⟩ := getF X39 hx hZ hown (host := "") (Or.inl (hw _ (List.mem_of_getElem? (i := 15) rfl))) Via.refl e39 f42 (g := (mkF m 81 #[.val (.ref o), .val (.long x), .second, .val (.int r)] [(.ref o), (.int ((2 : Int32) * (zs + (1 : Int32))))])) rfl rfl (hb hby d4_81)
      refine own_go st41 ?_
      show own_Go _ _ _ _ _ _ _ (T41.setTop (mkF m 84 #[.val (.ref o), .val (.long x), .second, .val (.int r)] [(.ref tb), (.int ((2 : Int32) * (zs + (1 : Int32))))]))
      have f43 := ((B.other W35 (Ne.symm neot)).other W37 neta)
      refine own_length (z := (own_zl L)) X41 hx hZ e41 f43 (own_zl_toInt hL) (hb hby d4_84) rfl ?_
      show own_Go _ _ _ _ _ _ _ (T41.setTop (mkF m 85 #[.val (.ref o), .val (.long x), .second, .val (.int r)] [(.int (own_zl L)), (.int ((2 : Int32) * (zs + (1 : Int32))))]))
      refine own_go (fun _ q => XS.icmpYes X41.here hx rfl (pc0 := 85) (pc' := 92) rfl (hb hby d4_85) rfl (flt (own_nogrow hzs hLA hs2 hk)).2.2.2 (by decide) (by decide) q) ?_
      show own_Go _ _ _ _ _ _ _ (T41.setTop (mkF m 92 #[.val (.ref o), .val (.long x), .second, .val (.int r)] []))
      refine own_go (fun _ q => XS.iconst X41.here hx rfl (hb hby d4_92) q) ?_
      show own_Go _ _ _ _ _ _ _ (T41.setTop (mkF m 93 #[.val (.ref o), .val (.long x), .second, .val (.int r)] [(.int (1 : Int32))]))
      have f44 := ((f36.wr W35).wr W37)
      have f45 := ((f8.other W35 (Or.inr (slot_ne (Or.inl (hw _ (List.mem_of_getElem? (i := 18) rfl))) (Or.inl (hw _ (List.mem_of_getElem? (i := 30) rfl))) (by decide) (t := (.array .long)) (t' := .int) (by decide) (by decide)))).other W37 (Or.inl neoa))
      have hsz : h0.size ≤ h37.size := by have := W4.size; have := W35.size; have := W37.size; omega
      subst e41
      exact own_retZ X41 hx hlk hret (hb hby d4_93) (by decide) (by decide) (by decide) ⟨_, rfl, N37, ⟨tb, ad, L, AL, sz + 1, _, own_upd add sz x, _, f44, f42, f45, f40, f43, B2, go, gt, ga, neta, neot, neoa, own_inc hzs (by omega), by omega, by rcases hLA with ⟨q, r⟩ | ⟨q, r⟩; (· exact Or.inl ⟨by omega, r⟩); (· exact Or.inr ⟨by omega, r⟩), I', own_Add_new HA hnS⟩, hsz⟩
  · refine own_go (fun _ q => XS.ifNo X2.here hx rfl (hb hby d4_14) rfl ((if0 _ _).trans (feq (fun q => hz ((lw_eq _ _).mp q))).1) q) ?_
    show own_Go _ _ _ _ _ _ _ (T2.setTop (mkF m 17 #[.val (.ref o), .val (.long x), .second, .val (.int r)] []))
    refine own_go (fun _ q => XS.iconst X2.here hx rfl (hb hby d4_17) q) ?_
    show own_Go _ _ _ _ _ _ _ (T2.setTop (mkF m 18 #[.val (.ref o), .val (.long x), .second, .val (.int r)] [(.int (0 : Int32))]))
    have hS : S x := Classical.byContradiction fun q => hz (own_miss I (Nat.mod_lt _ (by rcases hL with rfl | rfl <;> decide)) hor q)
    exact own_retZ X2 hx hlk hret (hb hby d4_18) (by decide) (by decide) (by decide) ⟨_, rfl, N1, by rw [e2]; exact ⟨tb, ad, L, AL, sz, tbl, add, zs, E, Ft, Fa, Fs, At, Aa, go, gt, ga, neta, neot, neoa, hzs, by omega, hLA, I.mono (Nat.le_refl _) (fun y => ⟨Or.inl, fun q => q.elim id fun u => u ▸ hS⟩), own_Add_dup HA hS⟩, by rw [e2]; exact Nat.le_refl _⟩
theorem d2_0 : decode prog_38_method_1_code 0 = .ok (.aload_n 0, 1) := by decide +kernel
theorem d2_1 : decode prog_38_method_1_code 1 = .ok (.invokespecial 1, 3) := by decide +kernel
theorem d2_4 : decode prog_38_method_1_code 4 = .ok (.aload_n 0, 1) := by decide +kernel
theorem d2_5 : decode prog_38_method_1_code 5 = .ok (.iconst 4, 1) := by decide +kernel
theorem d2_6 : decode prog_38_method_1_code 6 = .ok (.newarray .long, 2) := by decide +kernel
theorem d2_8 : decode prog_38_method_1_code 8 = .ok (.putfield 7, 3) := by decide +kernel
theorem d2_11 : decode prog_38_method_1_code 11 = .ok (.aload_n 0, 1) := by decide +kernel
theorem d2_12 : decode prog_38_method_1_code 12 = .ok (.iconst 2, 1) := by decide +kernel
theorem d2_13 : decode prog_38_method_1_code 13 = .ok (.newarray .long, 2) := by decide +kernel
theorem d2_15 : decode prog_38_method_1_code 15 = .ok (.putfield 13, 3) := by decide +kernel
theorem d2_18 : decode prog_38_method_1_code 18 = .ok (.return_, 1) := by decide +kernel
def Q2 (Z : State) (o : Addr) (h0 : Heap) (n0 : Nat) (v : Option Value) (h : Heap) (L : List Loc) : Prop := v = none ∧ Fr n0 L ∧ own_Set Z h n0 o 0 (fun _ => False) ∧ n0 ≤ h.size
theorem ef_2 (m : MethodId) (x0 : Addr) : entryFrame m #[(.ref x0)] 1 = mkF m 0 #[.val (.ref x0)] [] := by first | (simp [entryFrame, mkF, argsToLocals, Value.category]; done) | rfl
set_option maxRecDepth 65536 in
set_option maxHeartbeats 40000000 in
theorem rm2 (l : Launch) (Z : State) (a0 : Array Value) (hw : ∀ d ∈ tables_1, d.before a0 Z = true) (ws : List Jvm.Cond) (o : Addr) (h0 : Heap) (n0 : Nat) (Z0 : n0 ≤ h0.size) (E : Exa Z h0 o "com/example/concept_reasoner/conceptreasoner/engine/LongSet") (Ft : Fld Z h0 o "com/example/concept_reasoner/conceptreasoner/engine/LongSet" "table" "[J" .null) (Fa : Fld Z h0 o "com/example/concept_reasoner/conceptreasoner/engine/LongSet" "added" "[J" .null) (Fs : Fld Z h0 o "com/example/concept_reasoner/conceptreasoner/engine/LongSet" "size" "I" (.int 0)) (go : n0 ≤ o) :
    own_Met l Z (⟨"com/example/concept_reasoner/conceptreasoner/engine/LongSet", "<init>", "()V"⟩ : MethodName) prog_38_method_1_code 1 none ({ frames := 1, cells := 2, slots := 6, locals := 12 } : Room) ws #[(.ref o)] h0 (Q2 Z o h0 n0) := by
  refine own_enter (plainFor_of_name (by first | (simp [plainName, overriddenIn]; done) | decide +kernel)) ?_
  intro p e s m below meth c s₁ hx hby hml hown hnm hlk hret hZ X0 e0
  have N0 := Fr.nil n0
  refine own_go (fun _ q => castTop (ef_2 m o) q) ?_
  show own_Go _ _ _ _ _ _ _ (s₁.setTop (mkF m 0 #[.val (.ref o)] []))
  refine own_go (fun _ q => XS.aloadN X0.here hx rfl (hb hby d2_0) rfl rfl q) ?_
  show own_Go _ _ _ _ _ _ _ (s₁.setTop (mkF m 1 #[.val (.ref o)] [(.ref o)]))
  obtain ⟨T1, X1, e1, st1⟩ := initO X0 hx hZ hown (hw _ (List.mem_of_getElem? (i := 11) rfl)) (hw _ (List.mem_of_getElem? (i := 12) rfl)) (hw _ (List.mem_of_getElem? (i := 13) rfl)) e0 (g := (mkF m 1 #[.val (.ref o)] [(.ref o)])) rfl (by rw [hml]; rfl) rfl (hb hby d2_1) (by decide) (W := 0) (by show 2 * 0 + _ ≤ _; exact Nat.le_of_eq rfl) (by decide)
  refine own_go st1 ?_
  show own_Go _ _ _ _ _ _ _ (T1.setTop (mkF m 4 #[.val (.ref o)] []))
  refine own_go (fun _ q => XS.aloadN X1.here hx rfl (hb hby d2_4) rfl rfl q) ?_
  show own_Go _ _ _ _ _ _ _ (T1.setTop (mkF m 5 #[.val (.ref o)] [(.ref o)]))
  refine own_go (fun _ q => XS.iconst X1.here hx rfl (hb hby d2_5) q) ?_
  show own_Go _ _ _ _ _ _ _ (T1.setTop (mkF m 6 #[.val (.ref o)] [(.int (4 : Int32)), (.ref o)]))
  obtain ⟨T2, h2, k2, X2, e2, E2, Aw2, st2⟩ := newP X1 hx hZ (hw _ (List.mem_of_getElem? (i := 14) rfl)) e1 (g := (mkF m 6 #[.val (.ref o)] [(.int (4 : Int32)), (.ref o)])) rfl (hb hby d2_6) rfl (by decide) (cap := 4) (by decide) (by decide) (by decide) (by decide)
  obtain ⟨b2, g2⟩ : ∃ z, z = h0.size := ⟨_, rfl⟩
  rw [← g2] at Aw2 st2
  have A2 := own_Ar.new (nn := 4) Aw2 (by decide) rfl
  have ne3 : o ≠ b2 := Nat.ne_of_lt (Nat.lt_of_lt_of_eq (E).lt g2.symm)
  have G2 : n0 ≤ b2 := by have := Z0; omega
  have Z2 : n0 ≤ h2.size := Nat.le_trans Z0 E2.1
  refine own_go st2 ?_
  show own_Go _ _ _ _ _ _ _ (T2.setTop (mkF m 8 #[.val (.ref o)] [(.ref b2), (.ref o)]))
  have f5 := (Ft.ext E2)
  have f6 := (E.ext E2)
  obtain ⟨T4, h4, X4, e4, W4, st4⟩ := putF X2 hx hZ hown (host := "") (Or.inl (hw _ (List.mem_of_getElem? (i := 15) rfl))) Via.refl e2 f5 f6 (Or.inl (hw _ (List.mem_of_getElem? (i := 16) rfl))) (hw _ (List.mem_of_getElem? (i := 6) rfl)) (ty := (.array .long)) (by decide) rfl rfl (g := (mkF m 8 #[.val (.ref o)] [(.ref b2), (.ref o)])) rfl rfl (hb hby d2_8)
  have N4 := Fr.snoc X4 N0 go
  have Fw4 := f5.same W4
  have Z4 : n0 ≤ h4.size := by rw [W4.size]; exact Z2
  refine own_go st4 ?_
  show own_Go _ _ _ _ _ _ _ (T4.setTop (mkF m 11 #[.val (.ref o)] []))
  refine own_go (fun _ q => XS.aloadN X4.here hx rfl (hb hby d2_11) rfl rfl q) ?_
  show own_Go _ _ _ _ _ _ _ (T4.setTop (mkF m 12 #[.val (.ref o)] [(.ref o)]))
  refine own_go (fun _ q => XS.iconst X4.here hx rfl (hb hby d2_12) q) ?_
  show own_Go _ _ _ _ _ _ _ (T4.setTop (mkF m 13 #[.val (.ref o)] [(.int (2 : Int32)), (.ref o)]))
  obtain ⟨T7, h7, k7, X7, e7, E7, Aw7, st7⟩ := newP X4 hx hZ (hw _ (List.mem_of_getElem? (i := 14) rfl)) e4 (g := (mkF m 13 #[.val (.ref o)] [(.int (2 : Int32)), (.ref o)])) rfl (hb hby d2_13) rfl (by decide) (cap := 2) (by decide) (by decide) (by decide) (by decide)
  obtain ⟨b7, g7⟩ : ∃ z, z = h4.size := ⟨_, rfl⟩
  rw [← g7] at Aw7 st7
  have A7 := own_Ar.new (nn := 2) Aw7 (by decide) rfl
  have f8 := (A2.other W4 (Ne.symm ne3))
  have ne9 : b2 ≠ b7 := Nat.ne_of_lt (Nat.lt_of_lt_of_eq (f8).lt g7.symm)
  have f10 := (f6.wr W4)
  have ne11 : o ≠ b7 := Nat.ne_of_lt (Nat.lt_of_lt_of_eq (f10).lt g7.symm)
  have G7 : n0 ≤ b7 := by have := Z4; omega
  have Z7 : n0 ≤ h7.size := Nat.le_trans Z4 E7.1
  refine own_go st7 ?_
  show own_Go _ _ _ _ _ _ _ (T7.setTop (mkF m 15 #[.val (.ref o)] [(.ref b7), (.ref o)]))
  have f13 := (((Fa.ext E2).other W4 (Or.inr (slot_ne (Or.inl (hw _ (List.mem_of_getElem? (i := 18) rfl))) (Or.inl (hw _ (List.mem_of_getElem? (i := 16) rfl))) (by decide) (t := (.array .long)) (t' := (.array .long)) (by decide) (by decide)))).ext E7)
  have f14 := (f10.ext E7)
  obtain ⟨T12, h12, X12, e12, W12, st12⟩ := putF X7 hx hZ hown (host := "") (Or.inl (hw _ (List.mem_of_getElem? (i := 17) rfl))) Via.refl e7 f13 f14 (Or.inl (hw _ (List.mem_of_getElem? (i := 18) rfl))) (hw _ (List.mem_of_getElem? (i := 6) rfl)) (ty := (.array .long)) (by decide) rfl rfl (g := (mkF m 15 #[.val (.ref o)] [(.ref b7), (.ref o)])) rfl rfl (hb hby d2_15)
  have N12 := Fr.snoc X12 N4 go
  have Fw12 := f13.same W12
  have Z12 : n0 ≤ h12.size := by rw [W12.size]; exact Z7
  refine own_go st12 ?_
  show own_Go _ _ _ _ _ _ _ (T12.setTop (mkF m 18 #[.val (.ref o)] []))
  have f15 := (f14.wr W12)
  have f16 := ((Fw4.ext E7).other W12 (Or.inr (slot_ne (Or.inl (hw _ (List.mem_of_getElem? (i := 16) rfl))) (Or.inl (hw _ (List.mem_of_getElem? (i := 18) rfl))) (by decide) (t := (.array .long)) (t' := (.array .long)) (by decide) (by decide))))
  have f17 := ((((Fs.ext E2).other W4 (Or.inr (slot_ne (Or.inl (hw _ (List.mem_of_getElem? (i := 30) rfl))) (Or.inl (hw _ (List.mem_of_getElem? (i := 16) rfl))) (by decide) (t := .int) (t' := (.array .long)) (by decide) (by decide)))).ext E7).other W12 (Or.inr (slot_ne (Or.inl (hw _ (List.mem_of_getElem? (i := 30) rfl))) (Or.inl (hw _ (List.mem_of_getElem? (i := 18) rfl))) (by decide) (t := .int) (t' := (.array .long)) (by decide) (by decide))))
  have f18 := ((f8.ext E7).other W12 (Ne.symm ne3))
  have f19 := (A7.other W12 (Ne.symm ne11))
  have hZf := Z12
  subst e12
  exact own_retV X12 hx hlk hret (hb hby d2_18) (by decide) (by decide) ⟨rfl, N12, ⟨b2, b7, 4, 2, 0, fun _ => 0, fun _ => 0, 0, f15, f16, Fw12, f17, f18.eqv fun _ _ => rfl, f19.eqv fun _ _ => rfl, go, G2, G7, ne9, ne3, ne11, rfl, by omega, Or.inl ⟨by decide, rfl, rfl⟩, own_Inv0 4 (own_hash 4), own_Add0⟩, hZf⟩
def Q0 (Z : State) (q0 : Int64) (q1 : Int64) (q2 : Int64) (q3 : Int64) (q4 : Int64) (p5 : Int32) (h0 : Heap) (n0 : Nat) (v : Option Value) (h : Heap) (L : List Loc) : Prop := v = some (.int 1) ∧ Fr n0 L
theorem ef_0 (m : MethodId) (x0 : Int64) (x1 : Int64) (x2 : Int64) (x3 : Int64) (x4 : Int64) (x5 : Int32) : entryFrame m #[(.long x0), (.long x1), (.long x2), (.long x3), (.long x4), (.int x5)] maxLocals = mkF m 0 #[.val (.long x0), .second, .val (.long x1), .second, .val (.long x2), .second, .val (.long x3), .second, .val (.long x4), .second, .val (.int x5), .unset, .unset, .unset, .unset, .unset, .unset, .unset, .unset, .unset, .unset, .unset, .unset, .unset, .unset, .unset, .unset] [] := by first | (simp [entryFrame, mkF, argsToLocals, Value.category, maxLocals]; done) | rfl
set_option maxRecDepth 65536 in
set_option maxHeartbeats 40000000 in
theorem rm0 (l : Launch) (Z : State) (a0 : Array Value) (hw : ∀ d ∈ tables_1, d.before a0 Z = true) (ws : List Jvm.Cond) (q0 : Int64) (q1 : Int64) (q2 : Int64) (q3 : Int64) (q4 : Int64) (p5 : Int32) (h0 : Heap) (n0 : Nat) (Z0 : n0 ≤ h0.size)  :
    own_Met l Z x code maxLocals ret room_1 ws #[(.long q0), (.long q1), (.long q2), (.long q3), (.long q4), (.int p5)] h0 (Q0 Z q0 q1 q2 q3 q4 p5 h0 n0) := by
  refine own_enter (plainFor_of_name (by first | (simp [plainName, overriddenIn]; done) | decide +kernel)) ?_
  intro p e s m below meth c s₁ hx hby hml hown hnm hlk hret hZ X0 e0
  have N0 := Fr.nil n0
  refine own_go (fun _ q => castTop (ef_0 m q0 q1 q2 q3 q4 p5) q) ?_
  show own_Go _ _ _ _ _ _ _ (s₁.setTop (mkF m 0 #[.val (.long q0), .second, .val (.long q1), .second, .val (.long q2), .second, .val (.long q3), .second, .val (.long q4), .second, .val (.int p5), .unset, .unset, .unset, .unset, .unset, .unset, .unset, .unset, .unset, .unset, .unset, .unset, .unset, .unset, .unset, .unset] []))
  refine own_go (fun _ q => XS.lloadN X0.here hx rfl (hb hby at_0) rfl q) ?_
  show own_Go _ _ _ _ _ _ _ (s₁.setTop (mkF m 1 #[.val (.long q0), .second, .val (.long q1), .second, .val (.long q2), .second, .val (.long q3), .second, .val (.long q4), .second, .val (.int p5), .unset, .unset, .unset, .unset, .unset, .unset, .unset, .unset, .unset, .unset, .unset, .unset, .unset, .unset, .unset, .unset] [(.long q0)]))
  refine own_static X0 hx hZ hown (hw _ (List.mem_of_getElem? (i := 0) rfl)) (hw _ (List.mem_of_getElem? (i := 1) rfl)) (hw _ (List.mem_of_getElem? (i := 2) rfl)) (hw _ (List.mem_of_getElem? (i := 3) rfl)) (by decide) e0 (argsL := [(.long q0)]) (rest := []) (rm1 l Z a0 hw [] q0 h0 n0 Z0) 0 (by decide) (by decide) (by decide) (by decide) (by rw [hml]; rfl) pd_4 rfl rfl (Nat.le_of_eq rfl) (hb hby at_1) rfl ?_
  intro v1 T1 L1 X1 hQ1
  obtain ⟨y0, rfl, N1q, e1q, hy0⟩ := hQ1
  have N1 := Fr.app N0 N1q
  show own_Go _ _ _ _ _ _ _ (T1.setTop (mkF m 4 #[.val (.long q0), .second, .val (.long q1), .second, .val (.long q2), .second, .val (.long q3), .second, .val (.long q4), .second, .val (.int p5), .unset, .unset, .unset, .unset, .unset, .unset, .unset, .unset, .unset, .unset, .unset, .unset, .unset, .unset, .unset, .unset] [(.long y0)]))
  refine own_go (fun _ q => XS.lstore X1.here hx rfl (hb hby at_4) rfl (l' := #[.val (.long q0), .second, .val (.long q1), .second, .val (.long q2), .second, .val (.long q3), .second, .val (.long q4), .second, .val (.int p5), .val (.long y0), .second, .unset, .unset, .unset, .unset, .unset, .unset, .unset, .unset, .unset, .unset, .unset, .unset, .unset, .unset]) rfl q) ?_
  show own_Go _ _ _ _ _ _ _ (T1.setTop (mkF m 6 #[.val (.long q0), .second, .val (.long q1), .second, .val (.long q2), .second, .val (.long q3), .second, .val (.long q4), .second, .val (.int p5), .val (.long y0), .second, .unset, .unset, .unset, .unset, .unset, .unset, .unset, .unset, .unset, .unset, .unset, .unset, .unset, .unset] []))
  refine own_go (fun _ q => XS.lloadN X1.here hx rfl (hb hby at_6) rfl q) ?_
  show own_Go _ _ _ _ _ _ _ (T1.setTop (mkF m 7 #[.val (.long q0), .second, .val (.long q1), .second, .val (.long q2), .second, .val (.long q3), .second, .val (.long q4), .second, .val (.int p5), .val (.long y0), .second, .unset, .unset, .unset, .unset, .unset, .unset, .unset, .unset, .unset, .unset, .unset, .unset, .unset, .unset] [(.long q1)]))
  refine own_static X1 hx hZ hown (hw _ (List.mem_of_getElem? (i := 0) rfl)) (hw _ (List.mem_of_getElem? (i := 1) rfl)) (hw _ (List.mem_of_getElem? (i := 2) rfl)) (hw _ (List.mem_of_getElem? (i := 3) rfl)) (by decide) e1q (argsL := [(.long q1)]) (rest := []) (rm1 l Z a0 hw [] q1 h0 n0 Z0) 0 (by decide) (by decide) (by decide) (by decide) (by rw [hml]; rfl) pd_4 rfl rfl (Nat.le_of_eq rfl) (hb hby at_7) rfl ?_
  intro v2 T2 L2 X2 hQ2
  obtain ⟨y1, rfl, N2q, e2q, hy1⟩ := hQ2
  have N2 := Fr.app N1 N2q
  show own_Go _ _ _ _ _ _ _ (T2.setTop (mkF m 10 #[.val (.long q0), .second, .val (.long q1), .second, .val (.long q2), .second, .val (.long q3), .second, .val (.long q4), .second, .val (.int p5), .val (.long y0), .second, .unset, .unset, .unset, .unset, .unset, .unset, .unset, .unset, .unset, .unset, .unset, .unset, .unset, .unset] [(.long y1)]))
  refine own_go (fun _ q => XS.lstore X2.here hx rfl (hb hby at_10) rfl (l' := #[.val (.long q0), .second, .val (.long q1), .second, .val (.long q2), .second, .val (.long q3), .second, .val (.long q4), .second, .val (.int p5), .val (.long y0), .second, .val (.long y1), .second, .unset, .unset, .unset, .unset, .unset, .unset, .unset, .unset, .unset, .unset, .unset, .unset]) rfl q) ?_
  show own_Go _ _ _ _ _ _ _ (T2.setTop (mkF m 12 #[.val (.long q0), .second, .val (.long q1), .second, .val (.long q2), .second, .val (.long q3), .second, .val (.long q4), .second, .val (.int p5), .val (.long y0), .second, .val (.long y1), .second, .unset, .unset, .unset, .unset, .unset, .unset, .unset, .unset, .unset, .unset, .unset, .unset] []))
  refine own_go (fun _ q => XS.lload X2.here hx rfl (hb hby at_12) rfl q) ?_
  show own_Go _ _ _ _ _ _ _ (T2.setTop (mkF m 14 #[.val (.long q0), .second, .val (.long q1), .second, .val (.long q2), .second, .val (.long q3), .second, .val (.long q4), .second, .val (.int p5), .val (.long y0), .second, .val (.long y1), .second, .unset, .unset, .unset, .unset, .unset, .unset, .unset, .unset, .unset, .unset, .unset, .unset] [(.long q2)]))
  refine own_static X2 hx hZ hown (hw _ (List.mem_of_getElem? (i := 0) rfl)) (hw _ (List.mem_of_getElem? (i := 1) rfl)) (hw _ (List.mem_of_getElem? (i := 2) rfl)) (hw _ (List.mem_of_getElem? (i := 3) rfl)) (by decide) e2q (argsL := [(.long q2)]) (rest := []) (rm1 l Z a0 hw [] q2 h0 n0 Z0) 0 (by decide) (by decide) (by decide) (by decide) (by rw [hml]; rfl) pd_4 rfl rfl (Nat.le_of_eq rfl) (hb hby at_14) rfl ?_
  intro v3 T3 L3 X3 hQ3
  obtain ⟨y2, rfl, N3q, e3q, hy2⟩ := hQ3
  have N3 := Fr.app N2 N3q
  show own_Go _ _ _ _ _ _ _ (T3.setTop (mkF m 17 #[.val (.long q0), .second, .val (.long q1), .second, .val (.long q2), .second, .val (.long q3), .second, .val (.long q4), .second, .val (.int p5), .val (.long y0), .second, .val (.long y1), .second, .unset, .unset, .unset, .unset, .unset, .unset, .unset, .unset, .unset, .unset, .unset, .unset] [(.long y2)]))
  refine own_go (fun _ q => XS.lstore X3.here hx rfl (hb hby at_17) rfl (l' := #[.val (.long q0), .second, .val (.long q1), .second, .val (.long q2), .second, .val (.long q3), .second, .val (.long q4), .second, .val (.int p5), .val (.long y0), .second, .val (.long y1), .second, .val (.long y2), .second, .unset, .unset, .unset, .unset, .unset, .unset, .unset, .unset, .unset, .unset]) rfl q) ?_
  show own_Go _ _ _ _ _ _ _ (T3.setTop (mkF m 19 #[.val (.long q0), .second, .val (.long q1), .second, .val (.long q2), .second, .val (.long q3), .second, .val (.long q4), .second, .val (.int p5), .val (.long y0), .second, .val (.long y1), .second, .val (.long y2), .second, .unset, .unset, .unset, .unset, .unset, .unset, .unset, .unset, .unset, .unset] []))
  refine own_go (fun _ q => XS.lload X3.here hx rfl (hb hby at_19) rfl q) ?_
  show own_Go _ _ _ _ _ _ _ (T3.setTop (mkF m 21 #[.val (.long q0), .second, .val (.long q1), .second, .val (.long q2), .second, .val (.long q3), .second, .val (.long q4), .second, .val (.int p5), .val (.long y0), .second, .val (.long y1), .second, .val (.long y2), .second, .unset, .unset, .unset, .unset, .unset, .unset, .unset, .unset, .unset, .unset] [(.long q3)]))
  refine own_static X3 hx hZ hown (hw _ (List.mem_of_getElem? (i := 0) rfl)) (hw _ (List.mem_of_getElem? (i := 1) rfl)) (hw _ (List.mem_of_getElem? (i := 2) rfl)) (hw _ (List.mem_of_getElem? (i := 3) rfl)) (by decide) e3q (argsL := [(.long q3)]) (rest := []) (rm1 l Z a0 hw [] q3 h0 n0 Z0) 0 (by decide) (by decide) (by decide) (by decide) (by rw [hml]; rfl) pd_4 rfl rfl (Nat.le_of_eq rfl) (hb hby at_21) rfl ?_
  intro v4 T4 L4 X4 hQ4
  obtain ⟨y3, rfl, N4q, e4q, hy3⟩ := hQ4
  have N4 := Fr.app N3 N4q
  show own_Go _ _ _ _ _ _ _ (T4.setTop (mkF m 24 #[.val (.long q0), .second, .val (.long q1), .second, .val (.long q2), .second, .val (.long q3), .second, .val (.long q4), .second, .val (.int p5), .val (.long y0), .second, .val (.long y1), .second, .val (.long y2), .second, .unset, .unset, .unset, .unset, .unset, .unset, .unset, .unset, .unset, .unset] [(.long y3)]))
  refine own_go (fun _ q => XS.lstore X4.here hx rfl (hb hby at_24) rfl (l' := #[.val (.long q0), .second, .val (.long q1), .second, .val (.long q2), .second, .val (.long q3), .second, .val (.long q4), .second, .val (.int p5), .val (.long y0), .second, .val (.long y1), .second, .val (.long y2), .second, .val (.long y3), .second, .unset, .unset, .unset, .unset, .unset, .unset, .unset, .unset]) rfl q) ?_
  show own_Go _ _ _ _ _ _ _ (T4.setTop (mkF m 26 #[.val (.long q0), .second, .val (.long q1), .second, .val (.long q2), .second, .val (.long q3), .second, .val (.long q4), .second, .val (.int p5), .val (.long y0), .second, .val (.long y1), .second, .val (.long y2), .second, .val (.long y3), .second, .unset, .unset, .unset, .unset, .unset, .unset, .unset, .unset] []))
  refine own_go (fun _ q => XS.lload X4.here hx rfl (hb hby at_26) rfl q) ?_
  show own_Go _ _ _ _ _ _ _ (T4.setTop (mkF m 28 #[.val (.long q0), .second, .val (.long q1), .second, .val (.long q2), .second, .val (.long q3), .second, .val (.long q4), .second, .val (.int p5), .val (.long y0), .second, .val (.long y1), .second, .val (.long y2), .second, .val (.long y3), .second, .unset, .unset, .unset, .unset, .unset, .unset, .unset, .unset] [(.long q4)]))
  refine own_static X4 hx hZ hown (hw _ (List.mem_of_getElem? (i := 0) rfl)) (hw _ (List.mem_of_getElem? (i := 1) rfl)) (hw _ (List.mem_of_getElem? (i := 2) rfl)) (hw _ (List.mem_of_getElem? (i := 3) rfl)) (by decide) e4q (argsL := [(.long q4)]) (rest := []) (rm1 l Z a0 hw [] q4 h0 n0 Z0) 0 (by decide) (by decide) (by decide) (by decide) (by rw [hml]; rfl) pd_4 rfl rfl (Nat.le_of_eq rfl) (hb hby at_28) rfl ?_
  intro v5 T5 L5 X5 hQ5
  obtain ⟨y4, rfl, N5q, e5q, hy4⟩ := hQ5
  have N5 := Fr.app N4 N5q
  show own_Go _ _ _ _ _ _ _ (T5.setTop (mkF m 31 #[.val (.long q0), .second, .val (.long q1), .second, .val (.long q2), .second, .val (.long q3), .second, .val (.long q4), .second, .val (.int p5), .val (.long y0), .second, .val (.long y1), .second, .val (.long y2), .second, .val (.long y3), .second, .unset, .unset, .unset, .unset, .unset, .unset, .unset, .unset] [(.long y4)]))
  refine own_go (fun _ q => XS.lstore X5.here hx rfl (hb hby at_31) rfl (l' := #[.val (.long q0), .second, .val (.long q1), .second, .val (.long q2), .second, .val (.long q3), .second, .val (.long q4), .second, .val (.int p5), .val (.long y0), .second, .val (.long y1), .second, .val (.long y2), .second, .val (.long y3), .second, .val (.long y4), .second, .unset, .unset, .unset, .unset, .unset, .unset]) rfl q) ?_
  show own_Go _ _ _ _ _ _ _ (T5.setTop (mkF m 33 #[.val (.long q0), .second, .val (.long q1), .second, .val (.long q2), .second, .val (.long q3), .second, .val (.long q4), .second, .val (.int p5), .val (.long y0), .second, .val (.long y1), .second, .val (.long y2), .second, .val (.long y3), .second, .val (.long y4), .second, .unset, .unset, .unset, .unset, .unset, .unset] []))
  refine own_go (fun _ q => XS.iload X5.here hx rfl (hb hby at_33) rfl q) ?_
  show own_Go _ _ _ _ _ _ _ (T5.setTop (mkF m 35 #[.val (.long q0), .second, .val (.long q1), .second, .val (.long q2), .second, .val (.long q3), .second, .val (.long q4), .second, .val (.int p5), .val (.long y0), .second, .val (.long y1), .second, .val (.long y2), .second, .val (.long y3), .second, .val (.long y4), .second, .unset, .unset, .unset, .unset, .unset, .unset] [(.int p5)]))
  refine own_go (fun _ q => XS.bipush X5.here hx rfl (hb hby at_35) q) ?_
  show own_Go _ _ _ _ _ _ _ (T5.setTop (mkF m 37 #[.val (.long q0), .second, .val (.long q1), .second, .val (.long q2), .second, .val (.long q3), .second, .val (.long q4), .second, .val (.int p5), .val (.long y0), .second, .val (.long y1), .second, .val (.long y2), .second, .val (.long y3), .second, .val (.long y4), .second, .unset, .unset, .unset, .unset, .unset, .unset] [(.int (7 : Int32)), (.int p5)]))
  refine own_go (fun _ q => XS.iand X5.here hx rfl (hb hby at_37) rfl q) ?_
  show own_Go _ _ _ _ _ _ _ (T5.setTop (mkF m 38 #[.val (.long q0), .second, .val (.long q1), .second, .val (.long q2), .second, .val (.long q3), .second, .val (.long q4), .second, .val (.int p5), .val (.long y0), .second, .val (.long y1), .second, .val (.long y2), .second, .val (.long y3), .second, .val (.long y4), .second, .unset, .unset, .unset, .unset, .unset, .unset] [(.int (p5 &&& (7 : Int32)))]))
  refine own_go (fun _ q => XS.iconst X5.here hx rfl (hb hby at_38) q) ?_
  show own_Go _ _ _ _ _ _ _ (T5.setTop (mkF m 39 #[.val (.long q0), .second, .val (.long q1), .second, .val (.long q2), .second, .val (.long q3), .second, .val (.long q4), .second, .val (.int p5), .val (.long y0), .second, .val (.long y1), .second, .val (.long y2), .second, .val (.long y3), .second, .val (.long y4), .second, .unset, .unset, .unset, .unset, .unset, .unset] [(.int (5 : Int32)), (.int (p5 &&& (7 : Int32)))]))
  refine own_go (fun _ q => iremM X5 hx rfl (hb hby at_39) rfl (by decide) q) ?_
  show own_Go _ _ _ _ _ _ _ (T5.setTop (mkF m 40 #[.val (.long q0), .second, .val (.long q1), .second, .val (.long q2), .second, .val (.long q3), .second, .val (.long q4), .second, .val (.int p5), .val (.long y0), .second, .val (.long y1), .second, .val (.long y2), .second, .val (.long y3), .second, .val (.long y4), .second, .unset, .unset, .unset, .unset, .unset, .unset] [(.int ((p5 &&& (7 : Int32)) % (5 : Int32)))]))
  refine own_go (fun _ q => XS.istore X5.here hx rfl (hb hby at_40) rfl (l' := #[.val (.long q0), .second, .val (.long q1), .second, .val (.long q2), .second, .val (.long q3), .second, .val (.long q4), .second, .val (.int p5), .val (.long y0), .second, .val (.long y1), .second, .val (.long y2), .second, .val (.long y3), .second, .val (.long y4), .second, .val (.int ((p5 &&& (7 : Int32)) % (5 : Int32))), .unset, .unset, .unset, .unset, .unset]) rfl q) ?_
  show own_Go _ _ _ _ _ _ _ (T5.setTop (mkF m 42 #[.val (.long q0), .second, .val (.long q1), .second, .val (.long q2), .second, .val (.long q3), .second, .val (.long q4), .second, .val (.int p5), .val (.long y0), .second, .val (.long y1), .second, .val (.long y2), .second, .val (.long y3), .second, .val (.long y4), .second, .val (.int ((p5 &&& (7 : Int32)) % (5 : Int32))), .unset, .unset, .unset, .unset, .unset] []))
  refine own_go (fun _ q => XS.iload X5.here hx rfl (hb hby at_42) rfl q) ?_
  show own_Go _ _ _ _ _ _ _ (T5.setTop (mkF m 44 #[.val (.long q0), .second, .val (.long q1), .second, .val (.long q2), .second, .val (.long q3), .second, .val (.long q4), .second, .val (.int p5), .val (.long y0), .second, .val (.long y1), .second, .val (.long y2), .second, .val (.long y3), .second, .val (.long y4), .second, .val (.int ((p5 &&& (7 : Int32)) % (5 : Int32))), .unset, .unset, .unset, .unset, .unset] [(.int p5)]))
  refine own_go (fun _ q => XS.iconst X5.here hx rfl (hb hby at_44) q) ?_
  show own_Go _ _ _ _ _ _ _ (T5.setTop (mkF m 45 #[.val (.long q0), .second, .val (.long q1), .second, .val (.long q2), .second, .val (.long q3), .second, .val (.long q4), .second, .val (.int p5), .val (.long y0), .second, .val (.long y1), .second, .val (.long y2), .second, .val (.long y3), .second, .val (.long y4), .second, .val (.int ((p5 &&& (7 : Int32)) % (5 : Int32))), .unset, .unset, .unset, .unset, .unset] [(.int (3 : Int32)), (.int p5)]))
  refine own_go (fun _ q => XS.iushr X5.here hx rfl (hb hby at_45) rfl q) ?_
  show own_Go _ _ _ _ _ _ _ (T5.setTop (mkF m 46 #[.val (.long q0), .second, .val (.long q1), .second, .val (.long q2), .second, .val (.long q3), .second, .val (.long q4), .second, .val (.int p5), .val (.long y0), .second, .val (.long y1), .second, .val (.long y2), .second, .val (.long y3), .second, .val (.long y4), .second, .val (.int ((p5 &&& (7 : Int32)) % (5 : Int32))), .unset, .unset, .unset, .unset, .unset] [(.int ((p5.toUInt32 >>> ((3 : Int32) &&& 31).toUInt32).toInt32))]))
  refine own_go (fun _ q => XS.bipush X5.here hx rfl (hb hby at_46) q) ?_
  show own_Go _ _ _ _ _ _ _ (T5.setTop (mkF m 48 #[.val (.long q0), .second, .val (.long q1), .second, .val (.long q2), .second, .val (.long q3), .second, .val (.long q4), .second, .val (.int p5), .val (.long y0), .second, .val (.long y1), .second, .val (.long y2), .second, .val (.long y3), .second, .val (.long y4), .second, .val (.int ((p5 &&& (7 : Int32)) % (5 : Int32))), .unset, .unset, .unset, .unset, .unset] [(.int (7 : Int32)), (.int ((p5.toUInt32 >>> ((3 : Int32) &&& 31).toUInt32).toInt32))]))
  refine own_go (fun _ q => XS.iand X5.here hx rfl (hb hby at_48) rfl q) ?_
  show own_Go _ _ _ _ _ _ _ (T5.setTop (mkF m 49 #[.val (.long q0), .second, .val (.long q1), .second, .val (.long q2), .second, .val (.long q3), .second, .val (.long q4), .second, .val (.int p5), .val (.long y0), .second, .val (.long y1), .second, .val (.long y2), .second, .val (.long y3), .second, .val (.long y4), .second, .val (.int ((p5 &&& (7 : Int32)) % (5 : Int32))), .unset, .unset, .unset, .unset, .unset] [(.int (((p5.toUInt32 >>> ((3 : Int32) &&& 31).toUInt32).toInt32) &&& (7 : Int32)))]))
  refine own_go (fun _ q => XS.iconst X5.here hx rfl (hb hby at_49) q) ?_
  show own_Go _ _ _ _ _ _ _ (T5.setTop (mkF m 50 #[.val (.long q0), .second, .val (.long q1), .second, .val (.long q2), .second, .val (.long q3), .second, .val (.long q4), .second, .val (.int p5), .val (.long y0), .second, .val (.long y1), .second, .val (.long y2), .second, .val (.long y3), .second, .val (.long y4), .second, .val (.int ((p5 &&& (7 : Int32)) % (5 : Int32))), .unset, .unset, .unset, .unset, .unset] [(.int (5 : Int32)), (.int (((p5.toUInt32 >>> ((3 : Int32) &&& 31).toUInt32).toInt32) &&& (7 : Int32)))]))
  refine own_go (fun _ q => iremM X5 hx rfl (hb hby at_50) rfl (by decide) q) ?_
  show own_Go _ _ _ _ _ _ _ (T5.setTop (mkF m 51 #[.val (.long q0), .second, .val (.long q1), .second, .val (.long q2), .second, .val (.long q3), .second, .val (.long q4), .second, .val (.int p5), .val (.long y0), .second, .val (.long y1), .second, .val (.long y2), .second, .val (.long y3), .second, .val (.long y4), .second, .val (.int ((p5 &&& (7 : Int32)) % (5 : Int32))), .unset, .unset, .unset, .unset, .unset] [(.int ((((p5.toUInt32 >>> ((3 : Int32) &&& 31).toUInt32).toInt32) &&& (7 : Int32)) % (5 : Int32)))]))
  refine own_go (fun _ q => XS.istore X5.here hx rfl (hb hby at_51) rfl (l' := #[.val (.long q0), .second, .val (.long q1), .second, .val (.long q2), .second, .val (.long q3), .second, .val (.long q4), .second, .val (.int p5), .val (.long y0), .second, .val (.long y1), .second, .val (.long y2), .second, .val (.long y3), .second, .val (.long y4), .second, .val (.int ((p5 &&& (7 : Int32)) % (5 : Int32))), .val (.int ((((p5.toUInt32 >>> ((3 : Int32) &&& 31).toUInt32).toInt32) &&& (7 : Int32)) % (5 : Int32))), .unset, .unset, .unset, .unset]) rfl q) ?_
  show own_Go _ _ _ _ _ _ _ (T5.setTop (mkF m 53 #[.val (.long q0), .second, .val (.long q1), .second, .val (.long q2), .second, .val (.long q3), .second, .val (.long q4), .second, .val (.int p5), .val (.long y0), .second, .val (.long y1), .second, .val (.long y2), .second, .val (.long y3), .second, .val (.long y4), .second, .val (.int ((p5 &&& (7 : Int32)) % (5 : Int32))), .val (.int ((((p5.toUInt32 >>> ((3 : Int32) &&& 31).toUInt32).toInt32) &&& (7 : Int32)) % (5 : Int32))), .unset, .unset, .unset, .unset] []))
  obtain ⟨sel, hsel⟩ : ∃ z, z = ((((p5.toUInt32 >>> ((3 : Int32) &&& 31).toUInt32).toInt32) &&& (7 : Int32)) % (5 : Int32)) := ⟨_, rfl⟩
  rw [← hsel]
  obtain ⟨T6, h6, X6, e6, E6, A6, D6, -, st6⟩ := newO X5 hx hZ hown (hw _ (List.mem_of_getElem? (i := 5) rfl)) (hw _ (List.mem_of_getElem? (i := 6) rfl)) (hw _ (List.mem_of_getElem? (i := 7) rfl)) e5q (g := (mkF m 53 #[.val (.long q0), .second, .val (.long q1), .second, .val (.long q2), .second, .val (.long q3), .second, .val (.long q4), .second, .val (.int p5), .val (.long y0), .second, .val (.long y1), .second, .val (.long y2), .second, .val (.long y3), .second, .val (.long y4), .second, .val (.int ((p5 &&& (7 : Int32)) % (5 : Int32))), .val (.int sel), .unset, .unset, .unset, .unset] [])) rfl (hb hby at_53) (by decide) (by decide)
  obtain ⟨b6, g6⟩ : ∃ z, z = h0.size := ⟨_, rfl⟩
  rw [← g6] at A6 D6 st6
  have G6 : n0 ≤ b6 := by have := Z0; omega
  have Z6 : n0 ≤ h6.size := Nat.le_trans Z0 E6.1
  have Fn6_table : Fld Z h6 b6 "com/example/concept_reasoner/conceptreasoner/engine/LongSet" "table" "[J" .null := D6 (Or.inl (hw _ (List.mem_of_getElem? (i := 16) rfl))) (ty := (.array .long)) (by decide)
  have Fn6_added : Fld Z h6 b6 "com/example/concept_reasoner/conceptreasoner/engine/LongSet" "added" "[J" .null := D6 (Or.inl (hw _ (List.mem_of_getElem? (i := 18) rfl))) (ty := (.array .long)) (by decide)
  have Fn6_size : Fld Z h6 b6 "com/example/concept_reasoner/conceptreasoner/engine/LongSet" "size" "I" (.int (0 : Int32)) := D6 (Or.inl (hw _ (List.mem_of_getElem? (i := 30) rfl))) (ty := .int) (by decide)
  refine own_go st6 ?_
  show own_Go _ _ _ _ _ _ _ (T6.setTop (mkF m 56 #[.val (.long q0), .second, .val (.long q1), .second, .val (.long q2), .second, .val (.long q3), .second, .val (.long q4), .second, .val (.int p5), .val (.long y0), .second, .val (.long y1), .second, .val (.long y2), .second, .val (.long y3), .second, .val (.long y4), .second, .val (.int ((p5 &&& (7 : Int32)) % (5 : Int32))), .val (.int sel), .unset, .unset, .unset, .unset] [(.ref b6)]))
  refine own_go (fun _ q => XS.dup X6.here hx rfl (hb hby at_56) rfl rfl q) ?_
  show own_Go _ _ _ _ _ _ _ (T6.setTop (mkF m 57 #[.val (.long q0), .second, .val (.long q1), .second, .val (.long q2), .second, .val (.long q3), .second, .val (.long q4), .second, .val (.int p5), .val (.long y0), .second, .val (.long y1), .second, .val (.long y2), .second, .val (.long y3), .second, .val (.long y4), .second, .val (.int ((p5 &&& (7 : Int32)) % (5 : Int32))), .val (.int sel), .unset, .unset, .unset, .unset] [(.ref b6), (.ref b6)]))
  refine own_init X6 hx hZ rfl hown (hw _ (List.mem_of_getElem? (i := 8) rfl)) (hw _ (List.mem_of_getElem? (i := 9) rfl)) (hw _ (List.mem_of_getElem? (i := 7) rfl)) (hw _ (List.mem_of_getElem? (i := 10) rfl)) (by decide) e6 (a := b6) (argsL := []) (rest := [(.ref b6)]) (rm2 l Z a0 hw [] b6 h6 n0 Z6 A6 Fn6_table Fn6_added Fn6_size G6) 1 (by decide) (by decide) (by decide) (by decide) (by rw [hml]; rfl) pd_3 rfl rfl (Nat.le_of_eq rfl) (hb hby at_57) rfl ?_
  intro v7 T7 L7 X7 hQ7
  obtain ⟨rfl, N7q, St7, Z7⟩ := hQ7
  have N7 := Fr.app N5 N7q
  show own_Go _ _ _ _ _ _ _ (T7.setTop (mkF m 60 #[.val (.long q0), .second, .val (.long q1), .second, .val (.long q2), .second, .val (.long q3), .second, .val (.long q4), .second, .val (.int p5), .val (.long y0), .second, .val (.long y1), .second, .val (.long y2), .second, .val (.long y3), .second, .val (.long y4), .second, .val (.int ((p5 &&& (7 : Int32)) % (5 : Int32))), .val (.int sel), .unset, .unset, .unset, .unset] [(.ref b6)]))
  refine own_go (fun _ q => XS.astore X7.here hx rfl (hb hby at_60) rfl rfl (l' := #[.val (.long q0), .second, .val (.long q1), .second, .val (.long q2), .second, .val (.long q3), .second, .val (.long q4), .second, .val (.int p5), .val (.long y0), .second, .val (.long y1), .second, .val (.long y2), .second, .val (.long y3), .second, .val (.long y4), .second, .val (.int ((p5 &&& (7 : Int32)) % (5 : Int32))), .val (.int sel), .val (.ref b6), .unset, .unset, .unset]) rfl q) ?_
  show own_Go _ _ _ _ _ _ _ (T7.setTop (mkF m 62 #[.val (.long q0), .second, .val (.long q1), .second, .val (.long q2), .second, .val (.long q3), .second, .val (.long q4), .second, .val (.int p5), .val (.long y0), .second, .val (.long y1), .second, .val (.long y2), .second, .val (.long y3), .second, .val (.long y4), .second, .val (.int ((p5 &&& (7 : Int32)) % (5 : Int32))), .val (.int sel), .val (.ref b6), .unset, .unset, .unset] []))
  refine own_go (fun _ q => XS.iload X7.here hx rfl (hb hby at_62) rfl q) ?_
  show own_Go _ _ _ _ _ _ _ (T7.setTop (mkF m 64 #[.val (.long q0), .second, .val (.long q1), .second, .val (.long q2), .second, .val (.long q3), .second, .val (.long q4), .second, .val (.int p5), .val (.long y0), .second, .val (.long y1), .second, .val (.long y2), .second, .val (.long y3), .second, .val (.long y4), .second, .val (.int ((p5 &&& (7 : Int32)) % (5 : Int32))), .val (.int sel), .val (.ref b6), .unset, .unset, .unset] [(.int ((p5 &&& (7 : Int32)) % (5 : Int32)))]))
  refine own_go (fun _ q => XS.iconst X7.here hx rfl (hb hby at_64) q) ?_
  show own_Go _ _ _ _ _ _ _ (T7.setTop (mkF m 65 #[.val (.long q0), .second, .val (.long q1), .second, .val (.long q2), .second, .val (.long q3), .second, .val (.long q4), .second, .val (.int p5), .val (.long y0), .second, .val (.long y1), .second, .val (.long y2), .second, .val (.long y3), .second, .val (.long y4), .second, .val (.int ((p5 &&& (7 : Int32)) % (5 : Int32))), .val (.int sel), .val (.ref b6), .unset, .unset, .unset] [(.int (1 : Int32)), (.int ((p5 &&& (7 : Int32)) % (5 : Int32)))]))
  rcases own_five' p5 with q | q | q | q | q
  · rw [q]
    show own_Go _ _ _ _ _ _ _ (T7.setTop (mkF m 65 #[.val (.long q0), .second, .val (.long q1), .second, .val (.long q2), .second, .val (.long q3), .second, .val (.long q4), .second, .val (.int p5), .val (.long y0), .second, .val (.long y1), .second, .val (.long y2), .second, .val (.long y3), .second, .val (.long y4), .second, .val (.int (0 : Int32)), .val (.int sel), .val (.ref b6), .unset, .unset, .unset] [(.int (1 : Int32)), (.int (0 : Int32))]))
    refine own_go (fun _ q => XS.icmpYes X7.here hx rfl (pc0 := 65) (pc' := 76) rfl (hb hby at_65) rfl (tlt (by decide : (0 : Int32) < (1 : Int32))).1 (by decide) (by decide) q) ?_
    show own_Go _ _ _ _ _ _ _ (T7.setTop (mkF m 76 #[.val (.long q0), .second, .val (.long q1), .second, .val (.long q2), .second, .val (.long q3), .second, .val (.long q4), .second, .val (.int p5), .val (.long y0), .second, .val (.long y1), .second, .val (.long y2), .second, .val (.long y3), .second, .val (.long y4), .second, .val (.int (0 : Int32)), .val (.int sel), .val (.ref b6), .unset, .unset, .unset] []))
    refine own_go (fun _ q => XS.iload X7.here hx rfl (hb hby at_76) rfl q) ?_
    show own_Go _ _ _ _ _ _ _ (T7.setTop (mkF m 78 #[.val (.long q0), .second, .val (.long q1), .second, .val (.long q2), .second, .val (.long q3), .second, .val (.long q4), .second, .val (.int p5), .val (.long y0), .second, .val (.long y1), .second, .val (.long y2), .second, .val (.long y3), .second, .val (.long y4), .second, .val (.int (0 : Int32)), .val (.int sel), .val (.ref b6), .unset, .unset, .unset] [(.int (0 : Int32))]))
    refine own_go (fun _ q => XS.iconst X7.here hx rfl (hb hby at_78) q) ?_
    show own_Go _ _ _ _ _ _ _ (T7.setTop (mkF m 79 #[.val (.long q0), .second, .val (.long q1), .second, .val (.long q2), .second, .val (.long q3), .second, .val (.long q4), .second, .val (.int p5), .val (.long y0), .second, .val (.long y1), .second, .val (.long y2), .second, .val (.long y3), .second, .val (.long y4), .second, .val (.int (0 : Int32)), .val (.int sel), .val (.ref b6), .unset, .unset, .unset] [(.int (2 : Int32)), (.int (0 : Int32))]))
    refine own_go (fun _ q => XS.icmpYes X7.here hx rfl (pc0 := 79) (pc' := 90) rfl (hb hby at_79) rfl (tlt (by decide : (0 : Int32) < (2 : Int32))).1 (by decide) (by decide) q) ?_
    show own_Go _ _ _ _ _ _ _ (T7.setTop (mkF m 90 #[.val (.long q0), .second, .val (.long q1), .second, .val (.long q2), .second, .val (.long q3), .second, .val (.long q4), .second, .val (.int p5), .val (.long y0), .second, .val (.long y1), .second, .val (.long y2), .second, .val (.long y3), .second, .val (.long y4), .second, .val (.int (0 : Int32)), .val (.int sel), .val (.ref b6), .unset, .unset, .unset] []))
    refine own_go (fun _ q => XS.iload X7.here hx rfl (hb hby at_90) rfl q) ?_
    show own_Go _ _ _ _ _ _ _ (T7.setTop (mkF m 92 #[.val (.long q0), .second, .val (.long q1), .second, .val (.long q2), .second, .val (.long q3), .second, .val (.long q4), .second, .val (.int p5), .val (.long y0), .second, .val (.long y1), .second, .val (.long y2), .second, .val (.long y3), .second, .val (.long y4), .second, .val (.int (0 : Int32)), .val (.int sel), .val (.ref b6), .unset, .unset, .unset] [(.int (0 : Int32))]))
    refine own_go (fun _ q => XS.iconst X7.here hx rfl (hb hby at_92) q) ?_
    show own_Go _ _ _ _ _ _ _ (T7.setTop (mkF m 93 #[.val (.long q0), .second, .val (.long q1), .second, .val (.long q2), .second, .val (.long q3), .second, .val (.long q4), .second, .val (.int p5), .val (.long y0), .second, .val (.long y1), .second, .val (.long y2), .second, .val (.long y3), .second, .val (.long y4), .second, .val (.int (0 : Int32)), .val (.int sel), .val (.ref b6), .unset, .unset, .unset] [(.int (3 : Int32)), (.int (0 : Int32))]))
    refine own_go (fun _ q => XS.icmpYes X7.here hx rfl (pc0 := 93) (pc' := 104) rfl (hb hby at_93) rfl (tlt (by decide : (0 : Int32) < (3 : Int32))).1 (by decide) (by decide) q) ?_
    show own_Go _ _ _ _ _ _ _ (T7.setTop (mkF m 104 #[.val (.long q0), .second, .val (.long q1), .second, .val (.long q2), .second, .val (.long q3), .second, .val (.long q4), .second, .val (.int p5), .val (.long y0), .second, .val (.long y1), .second, .val (.long y2), .second, .val (.long y3), .second, .val (.long y4), .second, .val (.int (0 : Int32)), .val (.int sel), .val (.ref b6), .unset, .unset, .unset] []))
    refine own_go (fun _ q => XS.iload X7.here hx rfl (hb hby at_104) rfl q) ?_
    show own_Go _ _ _ _ _ _ _ (T7.setTop (mkF m 106 #[.val (.long q0), .second, .val (.long q1), .second, .val (.long q2), .second, .val (.long q3), .second, .val (.long q4), .second, .val (.int p5), .val (.long y0), .second, .val (.long y1), .second, .val (.long y2), .second, .val (.long y3), .second, .val (.long y4), .second, .val (.int (0 : Int32)), .val (.int sel), .val (.ref b6), .unset, .unset, .unset] [(.int (0 : Int32))]))
    refine own_go (fun _ q => XS.iconst X7.here hx rfl (hb hby at_106) q) ?_
    show own_Go _ _ _ _ _ _ _ (T7.setTop (mkF m 107 #[.val (.long q0), .second, .val (.long q1), .second, .val (.long q2), .second, .val (.long q3), .second, .val (.long q4), .second, .val (.int p5), .val (.long y0), .second, .val (.long y1), .second, .val (.long y2), .second, .val (.long y3), .second, .val (.long y4), .second, .val (.int (0 : Int32)), .val (.int sel), .val (.ref b6), .unset, .unset, .unset] [(.int (4 : Int32)), (.int (0 : Int32))]))
    refine own_go (fun _ q => XS.icmpYes X7.here hx rfl (pc0 := 107) (pc' := 118) rfl (hb hby at_107) rfl (tlt (by decide : (0 : Int32) < (4 : Int32))).1 (by decide) (by decide) q) ?_
    show own_Go _ _ _ _ _ _ _ (T7.setTop (mkF m 118 #[.val (.long q0), .second, .val (.long q1), .second, .val (.long q2), .second, .val (.long q3), .second, .val (.long q4), .second, .val (.int p5), .val (.long y0), .second, .val (.long y1), .second, .val (.long y2), .second, .val (.long y3), .second, .val (.long y4), .second, .val (.int (0 : Int32)), .val (.int sel), .val (.ref b6), .unset, .unset, .unset] []))
    refine own_go (fun _ q => XS.lload X7.here hx rfl (hb hby at_118) rfl q) ?_
    show own_Go _ _ _ _ _ _ _ (T7.setTop (mkF m 120 #[.val (.long q0), .second, .val (.long q1), .second, .val (.long q2), .second, .val (.long q3), .second, .val (.long q4), .second, .val (.int p5), .val (.long y0), .second, .val (.long y1), .second, .val (.long y2), .second, .val (.long y3), .second, .val (.long y4), .second, .val (.int (0 : Int32)), .val (.int sel), .val (.ref b6), .unset, .unset, .unset] [(.long y4)]))
    refine own_go (fun _ q => XS.lstore X7.here hx rfl (hb hby at_120) rfl (l' := #[.val (.long q0), .second, .val (.long q1), .second, .val (.long q2), .second, .val (.long q3), .second, .val (.long q4), .second, .val (.int p5), .val (.long y0), .second, .val (.long y1), .second, .val (.long y2), .second, .val (.long y3), .second, .val (.long y4), .second, .val (.int (0 : Int32)), .val (.int sel), .val (.ref b6), .val (.long y4), .second, .unset]) rfl q) ?_
    show own_Go _ _ _ _ _ _ _ (T7.setTop (mkF m 122 #[.val (.long q0), .second, .val (.long q1), .second, .val (.long q2), .second, .val (.long q3), .second, .val (.long q4), .second, .val (.int p5), .val (.long y0), .second, .val (.long y1), .second, .val (.long y2), .second, .val (.long y3), .second, .val (.long y4), .second, .val (.int (0 : Int32)), .val (.int sel), .val (.ref b6), .val (.long y4), .second, .unset] []))
    obtain ⟨tb_0_z, ad_0_z, Ln_0_z, AL_0_z, sz_0_z, tbl_0_z, add_0_z, zs_0_z, E_0_z, Ft_0_z, Fa_0_z, Fs_0_z, At_0_z, Aa_0_z, go_0_z, gt_0_z, ga_0_z, neta_0_z, neot_0_z, neoa_0_z, hzs_0_z, hk_0_z, hLA_0_z, I_0_z, HA_0_z⟩ := St7
    have join : ∀ qq : Int64, own_Go p e below s (Q0 Z q0 q1 q2 q3 q4 p5 h0 n0) room_1.cells room_1.slots (T7.setTop (mkF m 170 #[.val (.long q0), .second, .val (.long q1), .second, .val (.long q2), .second, .val (.long q3), .second, .val (.long q4), .second, .val (.int p5), .val (.long y0), .second, .val (.long y1), .second, .val (.long y2), .second, .val (.long y3), .second, .val (.long y4), .second, .val (.int (0 : Int32)), .val (.int sel), .val (.ref b6), .val (.long qq), .second, .unset] [])) := by
      intro qq
      show own_Go _ _ _ _ _ _ _ (T7.setTop (mkF m 170 #[.val (.long q0), .second, .val (.long q1), .second, .val (.long q2), .second, .val (.long q3), .second, .val (.long q4), .second, .val (.int p5), .val (.long y0), .second, .val (.long y1), .second, .val (.long y2), .second, .val (.long y3), .second, .val (.long y4), .second, .val (.int (0 : Int32)), .val (.int sel), .val (.ref b6), .val (.long qq), .second, .unset] []))
      refine own_go (fun _ q => XS.iload X7.here hx rfl (hb hby at_170) rfl q) ?_
      show own_Go _ _ _ _ _ _ _ (T7.setTop (mkF m 172 #[.val (.long q0), .second, .val (.long q1), .second, .val (.long q2), .second, .val (.long q3), .second, .val (.long q4), .second, .val (.int p5), .val (.long y0), .second, .val (.long y1), .second, .val (.long y2), .second, .val (.long y3), .second, .val (.long y4), .second, .val (.int (0 : Int32)), .val (.int sel), .val (.ref b6), .val (.long qq), .second, .unset] [(.int (0 : Int32))]))
      refine own_go (fun _ q => XS.iconst X7.here hx rfl (hb hby at_172) q) ?_
      show own_Go _ _ _ _ _ _ _ (T7.setTop (mkF m 173 #[.val (.long q0), .second, .val (.long q1), .second, .val (.long q2), .second, .val (.long q3), .second, .val (.long q4), .second, .val (.int p5), .val (.long y0), .second, .val (.long y1), .second, .val (.long y2), .second, .val (.long y3), .second, .val (.long y4), .second, .val (.int (0 : Int32)), .val (.int sel), .val (.ref b6), .val (.long qq), .second, .unset] [(.int (1 : Int32)), (.int (0 : Int32))]))
      refine own_go (fun _ q => XS.icmpYes X7.here hx rfl (pc0 := 173) (pc' := 184) rfl (hb hby at_173) rfl (tlt (by decide : (0 : Int32) < (1 : Int32))).1 (by decide) (by decide) q) ?_
      show own_Go _ _ _ _ _ _ _ (T7.setTop (mkF m 184 #[.val (.long q0), .second, .val (.long q1), .second, .val (.long q2), .second, .val (.long q3), .second, .val (.long q4), .second, .val (.int p5), .val (.long y0), .second, .val (.long y1), .second, .val (.long y2), .second, .val (.long y3), .second, .val (.long y4), .second, .val (.int (0 : Int32)), .val (.int sel), .val (.ref b6), .val (.long qq), .second, .unset] []))
      refine own_go (fun _ q => XS.iload X7.here hx rfl (hb hby at_184) rfl q) ?_
      show own_Go _ _ _ _ _ _ _ (T7.setTop (mkF m 186 #[.val (.long q0), .second, .val (.long q1), .second, .val (.long q2), .second, .val (.long q3), .second, .val (.long q4), .second, .val (.int p5), .val (.long y0), .second, .val (.long y1), .second, .val (.long y2), .second, .val (.long y3), .second, .val (.long y4), .second, .val (.int (0 : Int32)), .val (.int sel), .val (.ref b6), .val (.long qq), .second, .unset] [(.int (0 : Int32))]))
      refine own_go (fun _ q => XS.iconst X7.here hx rfl (hb hby at_186) q) ?_
      show own_Go _ _ _ _ _ _ _ (T7.setTop (mkF m 187 #[.val (.long q0), .second, .val (.long q1), .second, .val (.long q2), .second, .val (.long q3), .second, .val (.long q4), .second, .val (.int p5), .val (.long y0), .second, .val (.long y1), .second, .val (.long y2), .second, .val (.long y3), .second, .val (.long y4), .second, .val (.int (0 : Int32)), .val (.int sel), .val (.ref b6), .val (.long qq), .second, .unset] [(.int (2 : Int32)), (.int (0 : Int32))]))
      refine own_go (fun _ q => XS.icmpYes X7.here hx rfl (pc0 := 187) (pc' := 198) rfl (hb hby at_187) rfl (tlt (by decide : (0 : Int32) < (2 : Int32))).1 (by decide) (by decide) q) ?_
      show own_Go _ _ _ _ _ _ _ (T7.setTop (mkF m 198 #[.val (.long q0), .second, .val (.long q1), .second, .val (.long q2), .second, .val (.long q3), .second, .val (.long q4), .second, .val (.int p5), .val (.long y0), .second, .val (.long y1), .second, .val (.long y2), .second, .val (.long y3), .second, .val (.long y4), .second, .val (.int (0 : Int32)), .val (.int sel), .val (.ref b6), .val (.long qq), .second, .unset] []))
      refine own_go (fun _ q => XS.iload X7.here hx rfl (hb hby at_198) rfl q) ?_
      show own_Go _ _ _ _ _ _ _ (T7.setTop (mkF m 200 #[.val (.long q0), .second, .val (.long q1), .second, .val (.long q2), .second, .val (.long q3), .second, .val (.long q4), .second, .val (.int p5), .val (.long y0), .second, .val (.long y1), .second, .val (.long y2), .second, .val (.long y3), .second, .val (.long y4), .second, .val (.int (0 : Int32)), .val (.int sel), .val (.ref b6), .val (.long qq), .second, .unset] [(.int (0 : Int32))]))
      refine own_go (fun _ q => XS.iconst X7.here hx rfl (hb hby at_200) q) ?_
      show own_Go _ _ _ _ _ _ _ (T7.setTop (mkF m 201 #[.val (.long q0), .second, .val (.long q1), .second, .val (.long q2), .second, .val (.long q3), .second, .val (.long q4), .second, .val (.int p5), .val (.long y0), .second, .val (.long y1), .second, .val (.long y2), .second, .val (.long y3), .second, .val (.long y4), .second, .val (.int (0 : Int32)), .val (.int sel), .val (.ref b6), .val (.long qq), .second, .unset] [(.int (3 : Int32)), (.int (0 : Int32))]))
      refine own_go (fun _ q => XS.icmpYes X7.here hx rfl (pc0 := 201) (pc' := 212) rfl (hb hby at_201) rfl (tlt (by decide : (0 : Int32) < (3 : Int32))).1 (by decide) (by decide) q) ?_
      show own_Go _ _ _ _ _ _ _ (T7.setTop (mkF m 212 #[.val (.long q0), .second, .val (.long q1), .second, .val (.long q2), .second, .val (.long q3), .second, .val (.long q4), .second, .val (.int p5), .val (.long y0), .second, .val (.long y1), .second, .val (.long y2), .second, .val (.long y3), .second, .val (.long y4), .second, .val (.int (0 : Int32)), .val (.int sel), .val (.ref b6), .val (.long qq), .second, .unset] []))
      refine own_go (fun _ q => XS.iload X7.here hx rfl (hb hby at_212) rfl q) ?_
      show own_Go _ _ _ _ _ _ _ (T7.setTop (mkF m 214 #[.val (.long q0), .second, .val (.long q1), .second, .val (.long q2), .second, .val (.long q3), .second, .val (.long q4), .second, .val (.int p5), .val (.long y0), .second, .val (.long y1), .second, .val (.long y2), .second, .val (.long y3), .second, .val (.long y4), .second, .val (.int (0 : Int32)), .val (.int sel), .val (.ref b6), .val (.long qq), .second, .unset] [(.int (0 : Int32))]))
      refine own_go (fun _ q => XS.iconst X7.here hx rfl (hb hby at_214) q) ?_
      show own_Go _ _ _ _ _ _ _ (T7.setTop (mkF m 215 #[.val (.long q0), .second, .val (.long q1), .second, .val (.long q2), .second, .val (.long q3), .second, .val (.long q4), .second, .val (.int p5), .val (.long y0), .second, .val (.long y1), .second, .val (.long y2), .second, .val (.long y3), .second, .val (.long y4), .second, .val (.int (0 : Int32)), .val (.int sel), .val (.ref b6), .val (.long qq), .second, .unset] [(.int (4 : Int32)), (.int (0 : Int32))]))
      refine own_go (fun _ q => XS.icmpYes X7.here hx rfl (pc0 := 215) (pc' := 230) rfl (hb hby at_215) rfl (tlt (by decide : (0 : Int32) < (4 : Int32))).1 (by decide) (by decide) q) ?_
      show own_Go _ _ _ _ _ _ _ (T7.setTop (mkF m 230 #[.val (.long q0), .second, .val (.long q1), .second, .val (.long q2), .second, .val (.long q3), .second, .val (.long q4), .second, .val (.int p5), .val (.long y0), .second, .val (.long y1), .second, .val (.long y2), .second, .val (.long y3), .second, .val (.long y4), .second, .val (.int (0 : Int32)), .val (.int sel), .val (.ref b6), .val (.long qq), .second, .unset] []))
      refine own_go (fun _ q => XS.iconst X7.here hx rfl (hb hby at_230) q) ?_
      show own_Go _ _ _ _ _ _ _ (T7.setTop (mkF m 231 #[.val (.long q0), .second, .val (.long q1), .second, .val (.long q2), .second, .val (.long q3), .second, .val (.long q4), .second, .val (.int p5), .val (.long y0), .second, .val (.long y1), .second, .val (.long y2), .second, .val (.long y3), .second, .val (.long y4), .second, .val (.int (0 : Int32)), .val (.int sel), .val (.ref b6), .val (.long qq), .second, .unset] [(.int (0 : Int32))]))
      refine own_go (fun _ q => XS.istore X7.here hx rfl (hb hby at_231) rfl (l' := #[.val (.long q0), .second, .val (.long q1), .second, .val (.long q2), .second, .val (.long q3), .second, .val (.long q4), .second, .val (.int p5), .val (.long y0), .second, .val (.long y1), .second, .val (.long y2), .second, .val (.long y3), .second, .val (.long y4), .second, .val (.int (0 : Int32)), .val (.int sel), .val (.ref b6), .val (.long qq), .second, .val (.int (0 : Int32))]) rfl q) ?_
      show own_Go _ _ _ _ _ _ _ (T7.setTop (mkF m 233 #[.val (.long q0), .second, .val (.long q1), .second, .val (.long q2), .second, .val (.long q3), .second, .val (.long q4), .second, .val (.int p5), .val (.long y0), .second, .val (.long y1), .second, .val (.long y2), .second, .val (.long y3), .second, .val (.long y4), .second, .val (.int (0 : Int32)), .val (.int sel), .val (.ref b6), .val (.long qq), .second, .val (.int (0 : Int32))] []))
      refine own_go (fun _ q => XS.aload X7.here hx rfl (hb hby at_233) rfl rfl q) ?_
      show own_Go _ _ _ _ _ _ _ (T7.setTop (mkF m 235 #[.val (.long q0), .second, .val (.long q1), .second, .val (.long q2), .second, .val (.long q3), .second, .val (.long q4), .second, .val (.int p5), .val (.long y0), .second, .val (.long y1), .second, .val (.long y2), .second, .val (.long y3), .second, .val (.long y4), .second, .val (.int (0 : Int32)), .val (.int sel), .val (.ref b6), .val (.long qq), .second, .val (.int (0 : Int32))] [(.ref b6)]))
      refine own_go (fun _ q => XS.lload X7.here hx rfl (hb hby at_235) rfl q) ?_
      show own_Go _ _ _ _ _ _ _ (T7.setTop (mkF m 237 #[.val (.long q0), .second, .val (.long q1), .second, .val (.long q2), .second, .val (.long q3), .second, .val (.long q4), .second, .val (.int p5), .val (.long y0), .second, .val (.long y1), .second, .val (.long y2), .second, .val (.long y3), .second, .val (.long y4), .second, .val (.int (0 : Int32)), .val (.int sel), .val (.ref b6), .val (.long qq), .second, .val (.int (0 : Int32))] [(.long qq), (.ref b6)]))
      refine own_virtual X7 hx hZ hown (hw _ (List.mem_of_getElem? (i := 31) rfl)) (hw _ (List.mem_of_getElem? (i := 32) rfl)) (hw _ (List.mem_of_getElem? (i := 34) rfl)) (hw _ (List.mem_of_getElem? (i := 33) rfl)) (hw _ (List.mem_of_getElem? (i := 7) rfl)) (hw _ (List.mem_of_getElem? (i := 35) rfl)) (by decide) rfl (a := b6) E_0_z (argsL := [(.long qq)]) (rest := []) (rm6 l Z a0 hw [] b6 tb_0_z Ln_0_z tbl_0_z qq (fun _ => False) sz_0_z T7.heap n0 Z7 E_0_z Ft_0_z At_0_z (by rcases hLA_0_z with ⟨_, q, _⟩ | ⟨_, q, _⟩ <;> omega) (by have := I_0_z.2.2; rcases hLA_0_z with ⟨_, q, _⟩ | ⟨_, q, _⟩ <;> omega) I_0_z) 0 (by decide) (by decide) (by decide) (by decide) (by rw [hml]; rfl) pd_5 rfl rfl (Nat.le_of_eq rfl) (hb hby at_237) rfl ?_
      intro v8 T8 L8 X8 hQ8
      obtain ⟨r, rfl, N8q, e8q, hrr⟩ := hQ8
      have N8 := Fr.app N7 N8q
      show own_Go _ _ _ _ _ _ _ (T8.setTop (mkF m 240 #[.val (.long q0), .second, .val (.long q1), .second, .val (.long q2), .second, .val (.long q3), .second, .val (.long q4), .second, .val (.int p5), .val (.long y0), .second, .val (.long y1), .second, .val (.long y2), .second, .val (.long y3), .second, .val (.long y4), .second, .val (.int (0 : Int32)), .val (.int sel), .val (.ref b6), .val (.long qq), .second, .val (.int (0 : Int32))] [(.int r)]))
      refine own_go (fun _ q => XS.iload X8.here hx rfl (hb hby at_240) rfl q) ?_
      show own_Go _ _ _ _ _ _ _ (T8.setTop (mkF m 242 #[.val (.long q0), .second, .val (.long q1), .second, .val (.long q2), .second, .val (.long q3), .second, .val (.long q4), .second, .val (.int p5), .val (.long y0), .second, .val (.long y1), .second, .val (.long y2), .second, .val (.long y3), .second, .val (.long y4), .second, .val (.int (0 : Int32)), .val (.int sel), .val (.ref b6), .val (.long qq), .second, .val (.int (0 : Int32))] [(.int (0 : Int32)), (.int r)]))
      refine own_go (fun _ q => XS.icmpNo X8.here hx rfl (hb hby at_242) rfl (teq (by rcases hrr with ⟨rfl, u⟩ | ⟨rfl, u⟩; (· first | rfl | (exfalso; simp_all)); (· first | rfl | (exfalso; simp_all)))).2 q) ?_
      show own_Go _ _ _ _ _ _ _ (T8.setTop (mkF m 245 #[.val (.long q0), .second, .val (.long q1), .second, .val (.long q2), .second, .val (.long q3), .second, .val (.long q4), .second, .val (.int p5), .val (.long y0), .second, .val (.long y1), .second, .val (.long y2), .second, .val (.long y3), .second, .val (.long y4), .second, .val (.int (0 : Int32)), .val (.int sel), .val (.ref b6), .val (.long qq), .second, .val (.int (0 : Int32))] []))
      refine own_go (fun _ q => XS.iconst X8.here hx rfl (hb hby at_245) q) ?_
      show own_Go _ _ _ _ _ _ _ (T8.setTop (mkF m 246 #[.val (.long q0), .second, .val (.long q1), .second, .val (.long q2), .second, .val (.long q3), .second, .val (.long q4), .second, .val (.int p5), .val (.long y0), .second, .val (.long y1), .second, .val (.long y2), .second, .val (.long y3), .second, .val (.long y4), .second, .val (.int (0 : Int32)), .val (.int sel), .val (.ref b6), .val (.long qq), .second, .val (.int (0 : Int32))] [(.int (1 : Int32))]))
      refine own_go (fun _ q => XS.goto X8.here hx rfl (pc0 := 246) (pc' := 250) rfl (hb hby at_246) (by decide) (by decide) q) ?_
      show own_Go _ _ _ _ _ _ _ (T8.setTop (mkF m 250 #[.val (.long q0), .second, .val (.long q1), .second, .val (.long q2), .second, .val (.long q3), .second, .val (.long q4), .second, .val (.int p5), .val (.long y0), .second, .val (.long y1), .second, .val (.long y2), .second, .val (.long y3), .second, .val (.long y4), .second, .val (.int (0 : Int32)), .val (.int sel), .val (.ref b6), .val (.long qq), .second, .val (.int (0 : Int32))] [(.int (1 : Int32))]))
      exact own_retZ X8 hx hlk hret (hb hby at_250) (by decide) (by decide) (by decide) ⟨rfl, N8⟩
    refine own_go (fun _ q => XS.iload X7.here hx rfl (hb hby at_122) rfl q) ?_
    show own_Go _ _ _ _ _ _ _ (T7.setTop (mkF m 124 #[.val (.long q0), .second, .val (.long q1), .second, .val (.long q2), .second, .val (.long q3), .second, .val (.long q4), .second, .val (.int p5), .val (.long y0), .second, .val (.long y1), .second, .val (.long y2), .second, .val (.long y3), .second, .val (.long y4), .second, .val (.int (0 : Int32)), .val (.int sel), .val (.ref b6), .val (.long y4), .second, .unset] [(.int sel)]))
    by_cases hc124_9 : sel = (0 : Int32)
    · refine own_go (fun _ q => XS.ifNo X7.here hx rfl (hb hby at_124) rfl ((if0 _ _).trans (teq hc124_9).2) q) ?_
      show own_Go _ _ _ _ _ _ _ (T7.setTop (mkF m 127 #[.val (.long q0), .second, .val (.long q1), .second, .val (.long q2), .second, .val (.long q3), .second, .val (.long q4), .second, .val (.int p5), .val (.long y0), .second, .val (.long y1), .second, .val (.long y2), .second, .val (.long y3), .second, .val (.long y4), .second, .val (.int (0 : Int32)), .val (.int sel), .val (.ref b6), .val (.long y4), .second, .unset] []))
      refine own_go (fun _ q => XS.lload X7.here hx rfl (hb hby at_127) rfl q) ?_
      show own_Go _ _ _ _ _ _ _ (T7.setTop (mkF m 129 #[.val (.long q0), .second, .val (.long q1), .second, .val (.long q2), .second, .val (.long q3), .second, .val (.long q4), .second, .val (.int p5), .val (.long y0), .second, .val (.long y1), .second, .val (.long y2), .second, .val (.long y3), .second, .val (.long y4), .second, .val (.int (0 : Int32)), .val (.int sel), .val (.ref b6), .val (.long y4), .second, .unset] [(.long y0)]))
      refine own_go (fun _ q => XS.lstore X7.here hx rfl (hb hby at_129) rfl (l' := #[.val (.long q0), .second, .val (.long q1), .second, .val (.long q2), .second, .val (.long q3), .second, .val (.long q4), .second, .val (.int p5), .val (.long y0), .second, .val (.long y1), .second, .val (.long y2), .second, .val (.long y3), .second, .val (.long y4), .second, .val (.int (0 : Int32)), .val (.int sel), .val (.ref b6), .val (.long y0), .second, .unset]) rfl q) ?_
      show own_Go _ _ _ _ _ _ _ (T7.setTop (mkF m 131 #[.val (.long q0), .second, .val (.long q1), .second, .val (.long q2), .second, .val (.long q3), .second, .val (.long q4), .second, .val (.int p5), .val (.long y0), .second, .val (.long y1), .second, .val (.long y2), .second, .val (.long y3), .second, .val (.long y4), .second, .val (.int (0 : Int32)), .val (.int sel), .val (.ref b6), .val (.long y0), .second, .unset] []))
      refine own_go (fun _ q => XS.goto X7.here hx rfl (pc0 := 131) (pc' := 170) rfl (hb hby at_131) (by decide) (by decide) q) ?_
      show own_Go _ _ _ _ _ _ _ (T7.setTop (mkF m 170 #[.val (.long q0), .second, .val (.long q1), .second, .val (.long q2), .second, .val (.long q3), .second, .val (.long q4), .second, .val (.int p5), .val (.long y0), .second, .val (.long y1), .second, .val (.long y2), .second, .val (.long y3), .second, .val (.long y4), .second, .val (.int (0 : Int32)), .val (.int sel), .val (.ref b6), .val (.long y0), .second, .unset] []))
      exact join _
    · refine own_go (fun _ q => XS.ifYes X7.here hx rfl (pc0 := 124) (pc' := 134) rfl (hb hby at_124) rfl ((if0 _ _).trans (feq hc124_9).2) (by decide) (by decide) q) ?_
      show own_Go _ _ _ _ _ _ _ (T7.setTop (mkF m 134 #[.val (.long q0), .second, .val (.long q1), .second, .val (.long q2), .second, .val (.long q3), .second, .val (.long q4), .second, .val (.int p5), .val (.long y0), .second, .val (.long y1), .second, .val (.long y2), .second, .val (.long y3), .second, .val (.long y4), .second, .val (.int (0 : Int32)), .val (.int sel), .val (.ref b6), .val (.long y4), .second, .unset] []))
      refine own_go (fun _ q => XS.iload X7.here hx rfl (hb hby at_134) rfl q) ?_
      show own_Go _ _ _ _ _ _ _ (T7.setTop (mkF m 136 #[.val (.long q0), .second, .val (.long q1), .second, .val (.long q2), .second, .val (.long q3), .second, .val (.long q4), .second, .val (.int p5), .val (.long y0), .second, .val (.long y1), .second, .val (.long y2), .second, .val (.long y3), .second, .val (.long y4), .second, .val (.int (0 : Int32)), .val (.int sel), .val (.ref b6), .val (.long y4), .second, .unset] [(.int sel)]))
      refine own_go (fun _ q => XS.iconst X7.here hx rfl (hb hby at_136) q) ?_
      show own_Go _ _ _ _ _ _ _ (T7.setTop (mkF m 137 #[.val (.long q0), .second, .val (.long q1), .second, .val (.long q2), .second, .val (.long q3), .second, .val (.long q4), .second, .val (.int p5), .val (.long y0), .second, .val (.long y1), .second, .val (.long y2), .second, .val (.long y3), .second, .val (.long y4), .second, .val (.int (0 : Int32)), .val (.int sel), .val (.ref b6), .val (.long y4), .second, .unset] [(.int (1 : Int32)), (.int sel)]))
      by_cases hc137_10 : sel = (1 : Int32)
      · refine own_go (fun _ q => XS.icmpNo X7.here hx rfl (hb hby at_137) rfl (teq hc137_10).2 q) ?_
        show own_Go _ _ _ _ _ _ _ (T7.setTop (mkF m 140 #[.val (.long q0), .second, .val (.long q1), .second, .val (.long q2), .second, .val (.long q3), .second, .val (.long q4), .second, .val (.int p5), .val (.long y0), .second, .val (.long y1), .second, .val (.long y2), .second, .val (.long y3), .second, .val (.long y4), .second, .val (.int (0 : Int32)), .val (.int sel), .val (.ref b6), .val (.long y4), .second, .unset] []))
        refine own_go (fun _ q => XS.lload X7.here hx rfl (hb hby at_140) rfl q) ?_
        show own_Go _ _ _ _ _ _ _ (T7.setTop (mkF m 142 #[.val (.long q0), .second, .val (.long q1), .second, .val (.long q2), .second, .val (.long q3), .second, .val (.long q4), .second, .val (.int p5), .val (.long y0), .second, .val (.long y1), .second, .val (.long y2), .second, .val (.long y3), .second, .val (.long y4), .second, .val (.int (0 : Int32)), .val (.int sel), .val (.ref b6), .val (.long y4), .second, .unset] [(.long y1)]))
        refine own_go (fun _ q => XS.lstore X7.here hx rfl (hb hby at_142) rfl (l' := #[.val (.long q0), .second, .val (.long q1), .second, .val (.long q2), .second, .val (.long q3), .second, .val (.long q4), .second, .val (.int p5), .val (.long y0), .second, .val (.long y1), .second, .val (.long y2), .second, .val (.long y3), .second, .val (.long y4), .second, .val (.int (0 : Int32)), .val (.int sel), .val (.ref b6), .val (.long y1), .second, .unset]) rfl q) ?_
        show own_Go _ _ _ _ _ _ _ (T7.setTop (mkF m 144 #[.val (.long q0), .second, .val (.long q1), .second, .val (.long q2), .second, .val (.long q3), .second, .val (.long q4), .second, .val (.int p5), .val (.long y0), .second, .val (.long y1), .second, .val (.long y2), .second, .val (.long y3), .second, .val (.long y4), .second, .val (.int (0 : Int32)), .val (.int sel), .val (.ref b6), .val (.long y1), .second, .unset] []))
        refine own_go (fun _ q => XS.goto X7.here hx rfl (pc0 := 144) (pc' := 170) rfl (hb hby at_144) (by decide) (by decide) q) ?_
        show own_Go _ _ _ _ _ _ _ (T7.setTop (mkF m 170 #[.val (.long q0), .second, .val (.long q1), .second, .val (.long q2), .second, .val (.long q3), .second, .val (.long q4), .second, .val (.int p5), .val (.long y0), .second, .val (.long y1), .second, .val (.long y2), .second, .val (.long y3), .second, .val (.long y4), .second, .val (.int (0 : Int32)), .val (.int sel), .val (.ref b6), .val (.long y1), .second, .unset] []))
        exact join _
      · refine own_go (fun _ q => XS.icmpYes X7.here hx rfl (pc0 := 137) (pc' := 147) rfl (hb hby at_137) rfl (feq hc137_10).2 (by decide) (by decide) q) ?_
        show own_Go _ _ _ _ _ _ _ (T7.setTop (mkF m 147 #[.val (.long q0), .second, .val (.long q1), .second, .val (.long q2), .second, .val (.long q3), .second, .val (.long q4), .second, .val (.int p5), .val (.long y0), .second, .val (.long y1), .second, .val (.long y2), .second, .val (.long y3), .second, .val (.long y4), .second, .val (.int (0 : Int32)), .val (.int sel), .val (.ref b6), .val (.long y4), .second, .unset] []))
        refine own_go (fun _ q => XS.iload X7.here hx rfl (hb hby at_147) rfl q) ?_
        show own_Go _ _ _ _ _ _ _ (T7.setTop (mkF m 149 #[.val (.long q0), .second, .val (.long q1), .second, .val (.long q2), .second, .val (.long q3), .second, .val (.long q4), .second, .val (.int p5), .val (.long y0), .second, .val (.long y1), .second, .val (.long y2), .second, .val (.long y3), .second, .val (.long y4), .second, .val (.int (0 : Int32)), .val (.int sel), .val (.ref b6), .val (.long y4), .second, .unset] [(.int sel)]))
        refine own_go (fun _ q => XS.iconst X7.here hx rfl (hb hby at_149) q) ?_
        show own_Go _ _ _ _ _ _ _ (T7.setTop (mkF m 150 #[.val (.long q0), .second, .val (.long q1), .second, .val (.long q2), .second, .val (.long q3), .second, .val (.long q4), .second, .val (.int p5), .val (.long y0), .second, .val (.long y1), .second, .val (.long y2), .second, .val (.long y3), .second, .val (.long y4), .second, .val (.int (0 : Int32)), .val (.int sel), .val (.ref b6), .val (.long y4), .second, .unset] [(.int (2 : Int32)), (.int sel)]))
        by_cases hc150_11 : sel = (2 : Int32)
        · refine own_go (fun _ q => XS.icmpNo X7.here hx rfl (hb hby at_150) rfl (teq hc150_11).2 q) ?_
          show own_Go _ _ _ _ _ _ _ (T7.setTop (mkF m 153 #[.val (.long q0), .second, .val (.long q1), .second, .val (.long q2), .second, .val (.long q3), .second, .val (.long q4), .second, .val (.int p5), .val (.long y0), .second, .val (.long y1), .second, .val (.long y2), .second, .val (.long y3), .second, .val (.long y4), .second, .val (.int (0 : Int32)), .val (.int sel), .val (.ref b6), .val (.long y4), .second, .unset] []))
          refine own_go (fun _ q => XS.lload X7.here hx rfl (hb hby at_153) rfl q) ?_
          show own_Go _ _ _ _ _ _ _ (T7.setTop (mkF m 155 #[.val (.long q0), .second, .val (.long q1), .second, .val (.long q2), .second, .val (.long q3), .second, .val (.long q4), .second, .val (.int p5), .val (.long y0), .second, .val (.long y1), .second, .val (.long y2), .second, .val (.long y3), .second, .val (.long y4), .second, .val (.int (0 : Int32)), .val (.int sel), .val (.ref b6), .val (.long y4), .second, .unset] [(.long y2)]))
          refine own_go (fun _ q => XS.lstore X7.here hx rfl (hb hby at_155) rfl (l' := #[.val (.long q0), .second, .val (.long q1), .second, .val (.long q2), .second, .val (.long q3), .second, .val (.long q4), .second, .val (.int p5), .val (.long y0), .second, .val (.long y1), .second, .val (.long y2), .second, .val (.long y3), .second, .val (.long y4), .second, .val (.int (0 : Int32)), .val (.int sel), .val (.ref b6), .val (.long y2), .second, .unset]) rfl q) ?_
          show own_Go _ _ _ _ _ _ _ (T7.setTop (mkF m 157 #[.val (.long q0), .second, .val (.long q1), .second, .val (.long q2), .second, .val (.long q3), .second, .val (.long q4), .second, .val (.int p5), .val (.long y0), .second, .val (.long y1), .second, .val (.long y2), .second, .val (.long y3), .second, .val (.long y4), .second, .val (.int (0 : Int32)), .val (.int sel), .val (.ref b6), .val (.long y2), .second, .unset] []))
          refine own_go (fun _ q => XS.goto X7.here hx rfl (pc0 := 157) (pc' := 170) rfl (hb hby at_157) (by decide) (by decide) q) ?_
          show own_Go _ _ _ _ _ _ _ (T7.setTop (mkF m 170 #[.val (.long q0), .second, .val (.long q1), .second, .val (.long q2), .second, .val (.long q3), .second, .val (.long q4), .second, .val (.int p5), .val (.long y0), .second, .val (.long y1), .second, .val (.long y2), .second, .val (.long y3), .second, .val (.long y4), .second, .val (.int (0 : Int32)), .val (.int sel), .val (.ref b6), .val (.long y2), .second, .unset] []))
          exact join _
        · refine own_go (fun _ q => XS.icmpYes X7.here hx rfl (pc0 := 150) (pc' := 160) rfl (hb hby at_150) rfl (feq hc150_11).2 (by decide) (by decide) q) ?_
          show own_Go _ _ _ _ _ _ _ (T7.setTop (mkF m 160 #[.val (.long q0), .second, .val (.long q1), .second, .val (.long q2), .second, .val (.long q3), .second, .val (.long q4), .second, .val (.int p5), .val (.long y0), .second, .val (.long y1), .second, .val (.long y2), .second, .val (.long y3), .second, .val (.long y4), .second, .val (.int (0 : Int32)), .val (.int sel), .val (.ref b6), .val (.long y4), .second, .unset] []))
          refine own_go (fun _ q => XS.iload X7.here hx rfl (hb hby at_160) rfl q) ?_
          show own_Go _ _ _ _ _ _ _ (T7.setTop (mkF m 162 #[.val (.long q0), .second, .val (.long q1), .second, .val (.long q2), .second, .val (.long q3), .second, .val (.long q4), .second, .val (.int p5), .val (.long y0), .second, .val (.long y1), .second, .val (.long y2), .second, .val (.long y3), .second, .val (.long y4), .second, .val (.int (0 : Int32)), .val (.int sel), .val (.ref b6), .val (.long y4), .second, .unset] [(.int sel)]))
          refine own_go (fun _ q => XS.iconst X7.here hx rfl (hb hby at_162) q) ?_
          show own_Go _ _ _ _ _ _ _ (T7.setTop (mkF m 163 #[.val (.long q0), .second, .val (.long q1), .second, .val (.long q2), .second, .val (.long q3), .second, .val (.long q4), .second, .val (.int p5), .val (.long y0), .second, .val (.long y1), .second, .val (.long y2), .second, .val (.long y3), .second, .val (.long y4), .second, .val (.int (0 : Int32)), .val (.int sel), .val (.ref b6), .val (.long y4), .second, .unset] [(.int (3 : Int32)), (.int sel)]))
          by_cases hc163_12 : sel = (3 : Int32)
          · refine own_go (fun _ q => XS.icmpNo X7.here hx rfl (hb hby at_163) rfl (teq hc163_12).2 q) ?_
            show own_Go _ _ _ _ _ _ _ (T7.setTop (mkF m 166 #[.val (.long q0), .second, .val (.long q1), .second, .val (.long q2), .second, .val (.long q3), .second, .val (.long q4), .second, .val (.int p5), .val (.long y0), .second, .val (.long y1), .second, .val (.long y2), .second, .val (.long y3), .second, .val (.long y4), .second, .val (.int (0 : Int32)), .val (.int sel), .val (.ref b6), .val (.long y4), .second, .unset] []))
            refine own_go (fun _ q => XS.lload X7.here hx rfl (hb hby at_166) rfl q) ?_
            show own_Go _ _ _ _ _ _ _ (T7.setTop (mkF m 168 #[.val (.long q0), .second, .val (.long q1), .second, .val (.long q2), .second, .val (.long q3), .second, .val (.long q4), .second, .val (.int p5), .val (.long y0), .second, .val (.long y1), .second, .val (.long y2), .second, .val (.long y3), .second, .val (.long y4), .second, .val (.int (0 : Int32)), .val (.int sel), .val (.ref b6), .val (.long y4), .second, .unset] [(.long y3)]))
            refine own_go (fun _ q => XS.lstore X7.here hx rfl (hb hby at_168) rfl (l' := #[.val (.long q0), .second, .val (.long q1), .second, .val (.long q2), .second, .val (.long q3), .second, .val (.long q4), .second, .val (.int p5), .val (.long y0), .second, .val (.long y1), .second, .val (.long y2), .second, .val (.long y3), .second, .val (.long y4), .second, .val (.int (0 : Int32)), .val (.int sel), .val (.ref b6), .val (.long y3), .second, .unset]) rfl q) ?_
            show own_Go _ _ _ _ _ _ _ (T7.setTop (mkF m 170 #[.val (.long q0), .second, .val (.long q1), .second, .val (.long q2), .second, .val (.long q3), .second, .val (.long q4), .second, .val (.int p5), .val (.long y0), .second, .val (.long y1), .second, .val (.long y2), .second, .val (.long y3), .second, .val (.long y4), .second, .val (.int (0 : Int32)), .val (.int sel), .val (.ref b6), .val (.long y3), .second, .unset] []))
            exact join _
          · refine own_go (fun _ q => XS.icmpYes X7.here hx rfl (pc0 := 163) (pc' := 170) rfl (hb hby at_163) rfl (feq hc163_12).2 (by decide) (by decide) q) ?_
            show own_Go _ _ _ _ _ _ _ (T7.setTop (mkF m 170 #[.val (.long q0), .second, .val (.long q1), .second, .val (.long q2), .second, .val (.long q3), .second, .val (.long q4), .second, .val (.int p5), .val (.long y0), .second, .val (.long y1), .second, .val (.long y2), .second, .val (.long y3), .second, .val (.long y4), .second, .val (.int (0 : Int32)), .val (.int sel), .val (.ref b6), .val (.long y4), .second, .unset] []))
            exact join _
  · rw [q]
    show own_Go _ _ _ _ _ _ _ (T7.setTop (mkF m 65 #[.val (.long q0), .second, .val (.long q1), .second, .val (.long q2), .second, .val (.long q3), .second, .val (.long q4), .second, .val (.int p5), .val (.long y0), .second, .val (.long y1), .second, .val (.long y2), .second, .val (.long y3), .second, .val (.long y4), .second, .val (.int (1 : Int32)), .val (.int sel), .val (.ref b6), .unset, .unset, .unset] [(.int (1 : Int32)), (.int (1 : Int32))]))
    refine own_go (fun _ q => XS.icmpNo X7.here hx rfl (hb hby at_65) rfl (flt (by decide : ¬ ((1 : Int32) < (1 : Int32)))).1 q) ?_
    show own_Go _ _ _ _ _ _ _ (T7.setTop (mkF m 68 #[.val (.long q0), .second, .val (.long q1), .second, .val (.long q2), .second, .val (.long q3), .second, .val (.long q4), .second, .val (.int p5), .val (.long y0), .second, .val (.long y1), .second, .val (.long y2), .second, .val (.long y3), .second, .val (.long y4), .second, .val (.int (1 : Int32)), .val (.int sel), .val (.ref b6), .unset, .unset, .unset] []))
    refine own_go (fun _ q => XS.aload X7.here hx rfl (hb hby at_68) rfl rfl q) ?_
    show own_Go _ _ _ _ _ _ _ (T7.setTop (mkF m 70 #[.val (.long q0), .second, .val (.long q1), .second, .val (.long q2), .second, .val (.long q3), .second, .val (.long q4), .second, .val (.int p5), .val (.long y0), .second, .val (.long y1), .second, .val (.long y2), .second, .val (.long y3), .second, .val (.long y4), .second, .val (.int (1 : Int32)), .val (.int sel), .val (.ref b6), .unset, .unset, .unset] [(.ref b6)]))
    refine own_go (fun _ q => XS.lload X7.here hx rfl (hb hby at_70) rfl q) ?_
    show own_Go _ _ _ _ _ _ _ (T7.setTop (mkF m 72 #[.val (.long q0), .second, .val (.long q1), .second, .val (.long q2), .second, .val (.long q3), .second, .val (.long q4), .second, .val (.int p5), .val (.long y0), .second, .val (.long y1), .second, .val (.long y2), .second, .val (.long y3), .second, .val (.long y4), .second, .val (.int (1 : Int32)), .val (.int sel), .val (.ref b6), .unset, .unset, .unset] [(.long y0), (.ref b6)]))
    obtain ⟨tb_1_0, ad_1_0, Ln_1_0, AL_1_0, sz_1_0, tbl_1_0, add_1_0, zs_1_0, E_1_0, Ft_1_0, Fa_1_0, Fs_1_0, At_1_0, Aa_1_0, go_1_0, gt_1_0, ga_1_0, neta_1_0, neot_1_0, neoa_1_0, hzs_1_0, hk_1_0, hLA_1_0, I_1_0, HA_1_0⟩ := St7
    refine own_virtual X7 hx hZ hown (hw _ (List.mem_of_getElem? (i := 19) rfl)) (hw _ (List.mem_of_getElem? (i := 20) rfl)) (hw _ (List.mem_of_getElem? (i := 22) rfl)) (hw _ (List.mem_of_getElem? (i := 21) rfl)) (hw _ (List.mem_of_getElem? (i := 7) rfl)) (hw _ (List.mem_of_getElem? (i := 23) rfl)) (by decide) rfl (a := b6) E_1_0 (argsL := [(.long y0)]) (rest := []) (rm4 l Z a0 hw [] b6 tb_1_0 ad_1_0 Ln_1_0 AL_1_0 sz_1_0 tbl_1_0 add_1_0 zs_1_0 y0 (fun _ => False) T7.heap n0 Z7 E_1_0 Ft_1_0 Fa_1_0 Fs_1_0 At_1_0 Aa_1_0 go_1_0 gt_1_0 ga_1_0 neta_1_0 neot_1_0 neoa_1_0 hzs_1_0 (by omega) hLA_1_0 I_1_0 HA_1_0 hy0) 0 (by decide) (by decide) (by decide) (by decide) (by rw [hml]; rfl) pd_5 rfl rfl (Nat.le_of_eq rfl) (hb hby at_72) rfl ?_
    intro v13 T13 L13 X13 hQ13
    obtain ⟨r13, rfl, N13q, St13, zz13⟩ := hQ13
    have N13 := Fr.app N7 N13q
    show own_Go _ _ _ _ _ _ _ (T13.setTop (mkF m 75 #[.val (.long q0), .second, .val (.long q1), .second, .val (.long q2), .second, .val (.long q3), .second, .val (.long q4), .second, .val (.int p5), .val (.long y0), .second, .val (.long y1), .second, .val (.long y2), .second, .val (.long y3), .second, .val (.long y4), .second, .val (.int (1 : Int32)), .val (.int sel), .val (.ref b6), .unset, .unset, .unset] [(.int r13)]))
    have Z13 : n0 ≤ T13.heap.size := Nat.le_trans Z7 zz13
    have St13' := St13.mono (k' := 1) (by omega)
    refine own_go (fun _ q => XS.pop X13.here hx rfl (hb hby at_75) rfl rfl q) ?_
    show own_Go _ _ _ _ _ _ _ (T13.setTop (mkF m 76 #[.val (.long q0), .second, .val (.long q1), .second, .val (.long q2), .second, .val (.long q3), .second, .val (.long q4), .second, .val (.int p5), .val (.long y0), .second, .val (.long y1), .second, .val (.long y2), .second, .val (.long y3), .second, .val (.long y4), .second, .val (.int (1 : Int32)), .val (.int sel), .val (.ref b6), .unset, .unset, .unset] []))
    refine own_go (fun _ q => XS.iload X13.here hx rfl (hb hby at_76) rfl q) ?_
    show own_Go _ _ _ _ _ _ _ (T13.setTop (mkF m 78 #[.val (.long q0), .second, .val (.long q1), .second, .val (.long q2), .second, .val (.long q3), .second, .val (.long q4), .second, .val (.int p5), .val (.long y0), .second, .val (.long y1), .second, .val (.long y2), .second, .val (.long y3), .second, .val (.long y4), .second, .val (.int (1 : Int32)), .val (.int sel), .val (.ref b6), .unset, .unset, .unset] [(.int (1 : Int32))]))
    refine own_go (fun _ q => XS.iconst X13.here hx rfl (hb hby at_78) q) ?_
    show own_Go _ _ _ _ _ _ _ (T13.setTop (mkF m 79 #[.val (.long q0), .second, .val (.long q1), .second, .val (.long q2), .second, .val (.long q3), .second, .val (.long q4), .second, .val (.int p5), .val (.long y0), .second, .val (.long y1), .second, .val (.long y2), .second, .val (.long y3), .second, .val (.long y4), .second, .val (.int (1 : Int32)), .val (.int sel), .val (.ref b6), .unset, .unset, .unset] [(.int (2 : Int32)), (.int (1 : Int32))]))
    refine own_go (fun _ q => XS.icmpYes X13.here hx rfl (pc0 := 79) (pc' := 90) rfl (hb hby at_79) rfl (tlt (by decide : (1 : Int32) < (2 : Int32))).1 (by decide) (by decide) q) ?_
    show own_Go _ _ _ _ _ _ _ (T13.setTop (mkF m 90 #[.val (.long q0), .second, .val (.long q1), .second, .val (.long q2), .second, .val (.long q3), .second, .val (.long q4), .second, .val (.int p5), .val (.long y0), .second, .val (.long y1), .second, .val (.long y2), .second, .val (.long y3), .second, .val (.long y4), .second, .val (.int (1 : Int32)), .val (.int sel), .val (.ref b6), .unset, .unset, .unset] []))
    refine own_go (fun _ q => XS.iload X13.here hx rfl (hb hby at_90) rfl q) ?_
    show own_Go _ _ _ _ _ _ _ (T13.setTop (mkF m 92 #[.val (.long q0), .second, .val (.long q1), .second, .val (.long q2), .second, .val (.long q3), .second, .val (.long q4), .second, .val (.int p5), .val (.long y0), .second, .val (.long y1), .second, .val (.long y2), .second, .val (.long y3), .second, .val (.long y4), .second, .val (.int (1 : Int32)), .val (.int sel), .val (.ref b6), .unset, .unset, .unset] [(.int (1 : Int32))]))
    refine own_go (fun _ q => XS.iconst X13.here hx rfl (hb hby at_92) q) ?_
    show own_Go _ _ _ _ _ _ _ (T13.setTop (mkF m 93 #[.val (.long q0), .second, .val (.long q1), .second, .val (.long q2), .second, .val (.long q3), .second, .val (.long q4), .second, .val (.int p5), .val (.long y0), .second, .val (.long y1), .second, .val (.long y2), .second, .val (.long y3), .second, .val (.long y4), .second, .val (.int (1 : Int32)), .val (.int sel), .val (.ref b6), .unset, .unset, .unset] [(.int (3 : Int32)), (.int (1 : Int32))]))
    refine own_go (fun _ q => XS.icmpYes X13.here hx rfl (pc0 := 93) (pc' := 104) rfl (hb hby at_93) rfl (tlt (by decide : (1 : Int32) < (3 : Int32))).1 (by decide) (by decide) q) ?_
    show own_Go _ _ _ _ _ _ _ (T13.setTop (mkF m 104 #[.val (.long q0), .second, .val (.long q1), .second, .val (.long q2), .second, .val (.long q3), .second, .val (.long q4), .second, .val (.int p5), .val (.long y0), .second, .val (.long y1), .second, .val (.long y2), .second, .val (.long y3), .second, .val (.long y4), .second, .val (.int (1 : Int32)), .val (.int sel), .val (.ref b6), .unset, .unset, .unset] []))
    refine own_go (fun _ q => XS.iload X13.here hx rfl (hb hby at_104) rfl q) ?_
    show own_Go _ _ _ _ _ _ _ (T13.setTop (mkF m 106 #[.val (.long q0), .second, .val (.long q1), .second, .val (.long q2), .second, .val (.long q3), .second, .val (.long q4), .second, .val (.int p5), .val (.long y0), .second, .val (.long y1), .second, .val (.long y2), .second, .val (.long y3), .second, .val (.long y4), .second, .val (.int (1 : Int32)), .val (.int sel), .val (.ref b6), .unset, .unset, .unset] [(.int (1 : Int32))]))
    refine own_go (fun _ q => XS.iconst X13.here hx rfl (hb hby at_106) q) ?_
    show own_Go _ _ _ _ _ _ _ (T13.setTop (mkF m 107 #[.val (.long q0), .second, .val (.long q1), .second, .val (.long q2), .second, .val (.long q3), .second, .val (.long q4), .second, .val (.int p5), .val (.long y0), .second, .val (.long y1), .second, .val (.long y2), .second, .val (.long y3), .second, .val (.long y4), .second, .val (.int (1 : Int32)), .val (.int sel), .val (.ref b6), .unset, .unset, .unset] [(.int (4 : Int32)), (.int (1 : Int32))]))
    refine own_go (fun _ q => XS.icmpYes X13.here hx rfl (pc0 := 107) (pc' := 118) rfl (hb hby at_107) rfl (tlt (by decide : (1 : Int32) < (4 : Int32))).1 (by decide) (by decide) q) ?_
    show own_Go _ _ _ _ _ _ _ (T13.setTop (mkF m 118 #[.val (.long q0), .second, .val (.long q1), .second, .val (.long q2), .second, .val (.long q3), .second, .val (.long q4), .second, .val (.int p5), .val (.long y0), .second, .val (.long y1), .second, .val (.long y2), .second, .val (.long y3), .second, .val (.long y4), .second, .val (.int (1 : Int32)), .val (.int sel), .val (.ref b6), .unset, .unset, .unset] []))
    refine own_go (fun _ q => XS.lload X13.here hx rfl (hb hby at_118) rfl q) ?_
    show own_Go _ _ _ _ _ _ _ (T13.setTop (mkF m 120 #[.val (.long q0), .second, .val (.long q1), .second, .val (.long q2), .second, .val (.long q3), .second, .val (.long q4), .second, .val (.int p5), .val (.long y0), .second, .val (.long y1), .second, .val (.long y2), .second, .val (.long y3), .second, .val (.long y4), .second, .val (.int (1 : Int32)), .val (.int sel), .val (.ref b6), .unset, .unset, .unset] [(.long y4)]))
    refine own_go (fun _ q => XS.lstore X13.here hx rfl (hb hby at_120) rfl (l' := #[.val (.long q0), .second, .val (.long q1), .second, .val (.long q2), .second, .val (.long q3), .second, .val (.long q4), .second, .val (.int p5), .val (.long y0), .second, .val (.long y1), .second, .val (.long y2), .second, .val (.long y3), .second, .val (.long y4), .second, .val (.int (1 : Int32)), .val (.int sel), .val (.ref b6), .val (.long y4), .second, .unset]) rfl q) ?_
    show own_Go _ _ _ _ _ _ _ (T13.setTop (mkF m 122 #[.val (.long q0), .second, .val (.long q1), .second, .val (.long q2), .second, .val (.long q3), .second, .val (.long q4), .second, .val (.int p5), .val (.long y0), .second, .val (.long y1), .second, .val (.long y2), .second, .val (.long y3), .second, .val (.long y4), .second, .val (.int (1 : Int32)), .val (.int sel), .val (.ref b6), .val (.long y4), .second, .unset] []))
    obtain ⟨tb_1_z, ad_1_z, Ln_1_z, AL_1_z, sz_1_z, tbl_1_z, add_1_z, zs_1_z, E_1_z, Ft_1_z, Fa_1_z, Fs_1_z, At_1_z, Aa_1_z, go_1_z, gt_1_z, ga_1_z, neta_1_z, neot_1_z, neoa_1_z, hzs_1_z, hk_1_z, hLA_1_z, I_1_z, HA_1_z⟩ := St13'
    have join : ∀ qq : Int64, own_Go p e below s (Q0 Z q0 q1 q2 q3 q4 p5 h0 n0) room_1.cells room_1.slots (T13.setTop (mkF m 170 #[.val (.long q0), .second, .val (.long q1), .second, .val (.long q2), .second, .val (.long q3), .second, .val (.long q4), .second, .val (.int p5), .val (.long y0), .second, .val (.long y1), .second, .val (.long y2), .second, .val (.long y3), .second, .val (.long y4), .second, .val (.int (1 : Int32)), .val (.int sel), .val (.ref b6), .val (.long qq), .second, .unset] [])) := by
      intro qq
      show own_Go _ _ _ _ _ _ _ (T13.setTop (mkF m 170 #[.val (.long q0), .second, .val (.long q1), .second, .val (.long q2), .second, .val (.long q3), .second, .val (.long q4), .second, .val (.int p5), .val (.long y0), .second, .val (.long y1), .second, .val (.long y2), .second, .val (.long y3), .second, .val (.long y4), .second, .val (.int (1 : Int32)), .val (.int sel), .val (.ref b6), .val (.long qq), .second, .unset] []))
      refine own_go (fun _ q => XS.iload X13.here hx rfl (hb hby at_170) rfl q) ?_
      show own_Go _ _ _ _ _ _ _ (T13.setTop (mkF m 172 #[.val (.long q0), .second, .val (.long q1), .second, .val (.long q2), .second, .val (.long q3), .second, .val (.long q4), .second, .val (.int p5), .val (.long y0), .second, .val (.long y1), .second, .val (.long y2), .second, .val (.long y3), .second, .val (.long y4), .second, .val (.int (1 : Int32)), .val (.int sel), .val (.ref b6), .val (.long qq), .second, .unset] [(.int (1 : Int32))]))
      refine own_go (fun _ q => XS.iconst X13.here hx rfl (hb hby at_172) q) ?_
      show own_Go _ _ _ _ _ _ _ (T13.setTop (mkF m 173 #[.val (.long q0), .second, .val (.long q1), .second, .val (.long q2), .second, .val (.long q3), .second, .val (.long q4), .second, .val (.int p5), .val (.long y0), .second, .val (.long y1), .second, .val (.long y2), .second, .val (.long y3), .second, .val (.long y4), .second, .val (.int (1 : Int32)), .val (.int sel), .val (.ref b6), .val (.long qq), .second, .unset] [(.int (1 : Int32)), (.int (1 : Int32))]))
      refine own_go (fun _ q => XS.icmpNo X13.here hx rfl (hb hby at_173) rfl (flt (by decide : ¬ ((1 : Int32) < (1 : Int32)))).1 q) ?_
      show own_Go _ _ _ _ _ _ _ (T13.setTop (mkF m 176 #[.val (.long q0), .second, .val (.long q1), .second, .val (.long q2), .second, .val (.long q3), .second, .val (.long q4), .second, .val (.int p5), .val (.long y0), .second, .val (.long y1), .second, .val (.long y2), .second, .val (.long y3), .second, .val (.long y4), .second, .val (.int (1 : Int32)), .val (.int sel), .val (.ref b6), .val (.long qq), .second, .unset] []))
      refine own_go (fun _ q => XS.lload X13.here hx rfl (hb hby at_176) rfl q) ?_
      show own_Go _ _ _ _ _ _ _ (T13.setTop (mkF m 178 #[.val (.long q0), .second, .val (.long q1), .second, .val (.long q2), .second, .val (.long q3), .second, .val (.long q4), .second, .val (.int p5), .val (.long y0), .second, .val (.long y1), .second, .val (.long y2), .second, .val (.long y3), .second, .val (.long y4), .second, .val (.int (1 : Int32)), .val (.int sel), .val (.ref b6), .val (.long qq), .second, .unset] [(.long qq)]))
      refine own_go (fun _ q => XS.lload X13.here hx rfl (hb hby at_178) rfl q) ?_
      show own_Go _ _ _ _ _ _ _ (T13.setTop (mkF m 180 #[.val (.long q0), .second, .val (.long q1), .second, .val (.long q2), .second, .val (.long q3), .second, .val (.long q4), .second, .val (.int p5), .val (.long y0), .second, .val (.long y1), .second, .val (.long y2), .second, .val (.long y3), .second, .val (.long y4), .second, .val (.int (1 : Int32)), .val (.int sel), .val (.ref b6), .val (.long qq), .second, .unset] [(.long y0), (.long qq)]))
      refine own_go (fun _ q => XS.lcmp X13.here hx rfl (hb hby at_180) rfl q) ?_
      show own_Go _ _ _ _ _ _ _ (T13.setTop (mkF m 181 #[.val (.long q0), .second, .val (.long q1), .second, .val (.long q2), .second, .val (.long q3), .second, .val (.long q4), .second, .val (.int p5), .val (.long y0), .second, .val (.long y1), .second, .val (.long y2), .second, .val (.long y3), .second, .val (.long y4), .second, .val (.int (1 : Int32)), .val (.int sel), .val (.ref b6), .val (.long qq), .second, .unset] [(.int (lcmpW qq y0))]))
      by_cases hc181_14 : qq = y0
      · refine own_go (fun _ q => XS.ifYes X13.here hx rfl (pc0 := 181) (pc' := 226) rfl (hb hby at_181) rfl ((if0 _ _).trans (teq ((lw_eq _ _).mpr hc181_14)).1) (by decide) (by decide) q) ?_
        show own_Go _ _ _ _ _ _ _ (T13.setTop (mkF m 226 #[.val (.long q0), .second, .val (.long q1), .second, .val (.long q2), .second, .val (.long q3), .second, .val (.long q4), .second, .val (.int p5), .val (.long y0), .second, .val (.long y1), .second, .val (.long y2), .second, .val (.long y3), .second, .val (.long y4), .second, .val (.int (1 : Int32)), .val (.int sel), .val (.ref b6), .val (.long qq), .second, .unset] []))
        refine own_go (fun _ q => XS.iconst X13.here hx rfl (hb hby at_226) q) ?_
        show own_Go _ _ _ _ _ _ _ (T13.setTop (mkF m 227 #[.val (.long q0), .second, .val (.long q1), .second, .val (.long q2), .second, .val (.long q3), .second, .val (.long q4), .second, .val (.int p5), .val (.long y0), .second, .val (.long y1), .second, .val (.long y2), .second, .val (.long y3), .second, .val (.long y4), .second, .val (.int (1 : Int32)), .val (.int sel), .val (.ref b6), .val (.long qq), .second, .unset] [(.int (1 : Int32))]))
        refine own_go (fun _ q => XS.goto X13.here hx rfl (pc0 := 227) (pc' := 231) rfl (hb hby at_227) (by decide) (by decide) q) ?_
        show own_Go _ _ _ _ _ _ _ (T13.setTop (mkF m 231 #[.val (.long q0), .second, .val (.long q1), .second, .val (.long q2), .second, .val (.long q3), .second, .val (.long q4), .second, .val (.int p5), .val (.long y0), .second, .val (.long y1), .second, .val (.long y2), .second, .val (.long y3), .second, .val (.long y4), .second, .val (.int (1 : Int32)), .val (.int sel), .val (.ref b6), .val (.long qq), .second, .unset] [(.int (1 : Int32))]))
        refine own_go (fun _ q => XS.istore X13.here hx rfl (hb hby at_231) rfl (l' := #[.val (.long q0), .second, .val (.long q1), .second, .val (.long q2), .second, .val (.long q3), .second, .val (.long q4), .second, .val (.int p5), .val (.long y0), .second, .val (.long y1), .second, .val (.long y2), .second, .val (.long y3), .second, .val (.long y4), .second, .val (.int (1 : Int32)), .val (.int sel), .val (.ref b6), .val (.long qq), .second, .val (.int (1 : Int32))]) rfl q) ?_
        show own_Go _ _ _ _ _ _ _ (T13.setTop (mkF m 233 #[.val (.long q0), .second, .val (.long q1), .second, .val (.long q2), .second, .val (.long q3), .second, .val (.long q4), .second, .val (.int p5), .val (.long y0), .second, .val (.long y1), .second, .val (.long y2), .second, .val (.long y3), .second, .val (.long y4), .second, .val (.int (1 : Int32)), .val (.int sel), .val (.ref b6), .val (.long qq), .second, .val (.int (1 : Int32))] []))
        refine own_go (fun _ q => XS.aload X13.here hx rfl (hb hby at_233) rfl rfl q) ?_
        show own_Go _ _ _ _ _ _ _ (T13.setTop (mkF m 235 #[.val (.long q0), .second, .val (.long q1), .second, .val (.long q2), .second, .val (.long q3), .second, .val (.long q4), .second, .val (.int p5), .val (.long y0), .second, .val (.long y1), .second, .val (.long y2), .second, .val (.long y3), .second, .val (.long y4), .second, .val (.int (1 : Int32)), .val (.int sel), .val (.ref b6), .val (.long qq), .second, .val (.int (1 : Int32))] [(.ref b6)]))
        refine own_go (fun _ q => XS.lload X13.here hx rfl (hb hby at_235) rfl q) ?_
        show own_Go _ _ _ _ _ _ _ (T13.setTop (mkF m 237 #[.val (.long q0), .second, .val (.long q1), .second, .val (.long q2), .second, .val (.long q3), .second, .val (.long q4), .second, .val (.int p5), .val (.long y0), .second, .val (.long y1), .second, .val (.long y2), .second, .val (.long y3), .second, .val (.long y4), .second, .val (.int (1 : Int32)), .val (.int sel), .val (.ref b6), .val (.long qq), .second, .val (.int (1 : Int32))] [(.long qq), (.ref b6)]))
        refine own_virtual X13 hx hZ hown (hw _ (List.mem_of_getElem? (i := 31) rfl)) (hw _ (List.mem_of_getElem? (i := 32) rfl)) (hw _ (List.mem_of_getElem? (i := 34) rfl)) (hw _ (List.mem_of_getElem? (i := 33) rfl)) (hw _ (List.mem_of_getElem? (i := 7) rfl)) (hw _ (List.mem_of_getElem? (i := 35) rfl)) (by decide) rfl (a := b6) E_1_z (argsL := [(.long qq)]) (rest := []) (rm6 l Z a0 hw [] b6 tb_1_z Ln_1_z tbl_1_z qq (fun y => (fun _ => False) y ∨ y = y0) sz_1_z T13.heap n0 Z13 E_1_z Ft_1_z At_1_z (by rcases hLA_1_z with ⟨_, q, _⟩ | ⟨_, q, _⟩ <;> omega) (by have := I_1_z.2.2; rcases hLA_1_z with ⟨_, q, _⟩ | ⟨_, q, _⟩ <;> omega) I_1_z) 0 (by decide) (by decide) (by decide) (by decide) (by rw [hml]; rfl) pd_5 rfl rfl (Nat.le_of_eq rfl) (hb hby at_237) rfl ?_
        intro v15 T15 L15 X15 hQ15
        obtain ⟨r, rfl, N15q, e15q, hrr⟩ := hQ15
        have N15 := Fr.app N13 N15q
        show own_Go _ _ _ _ _ _ _ (T15.setTop (mkF m 240 #[.val (.long q0), .second, .val (.long q1), .second, .val (.long q2), .second, .val (.long q3), .second, .val (.long q4), .second, .val (.int p5), .val (.long y0), .second, .val (.long y1), .second, .val (.long y2), .second, .val (.long y3), .second, .val (.long y4), .second, .val (.int (1 : Int32)), .val (.int sel), .val (.ref b6), .val (.long qq), .second, .val (.int (1 : Int32))] [(.int r)]))
        refine own_go (fun _ q => XS.iload X15.here hx rfl (hb hby at_240) rfl q) ?_
        show own_Go _ _ _ _ _ _ _ (T15.setTop (mkF m 242 #[.val (.long q0), .second, .val (.long q1), .second, .val (.long q2), .second, .val (.long q3), .second, .val (.long q4), .second, .val (.int p5), .val (.long y0), .second, .val (.long y1), .second, .val (.long y2), .second, .val (.long y3), .second, .val (.long y4), .second, .val (.int (1 : Int32)), .val (.int sel), .val (.ref b6), .val (.long qq), .second, .val (.int (1 : Int32))] [(.int (1 : Int32)), (.int r)]))
        refine own_go (fun _ q => XS.icmpNo X15.here hx rfl (hb hby at_242) rfl (teq (by rcases hrr with ⟨rfl, u⟩ | ⟨rfl, u⟩; (· first | rfl | (exfalso; simp_all)); (· first | rfl | (exfalso; simp_all)))).2 q) ?_
        show own_Go _ _ _ _ _ _ _ (T15.setTop (mkF m 245 #[.val (.long q0), .second, .val (.long q1), .second, .val (.long q2), .second, .val (.long q3), .second, .val (.long q4), .second, .val (.int p5), .val (.long y0), .second, .val (.long y1), .second, .val (.long y2), .second, .val (.long y3), .second, .val (.long y4), .second, .val (.int (1 : Int32)), .val (.int sel), .val (.ref b6), .val (.long qq), .second, .val (.int (1 : Int32))] []))
        refine own_go (fun _ q => XS.iconst X15.here hx rfl (hb hby at_245) q) ?_
        show own_Go _ _ _ _ _ _ _ (T15.setTop (mkF m 246 #[.val (.long q0), .second, .val (.long q1), .second, .val (.long q2), .second, .val (.long q3), .second, .val (.long q4), .second, .val (.int p5), .val (.long y0), .second, .val (.long y1), .second, .val (.long y2), .second, .val (.long y3), .second, .val (.long y4), .second, .val (.int (1 : Int32)), .val (.int sel), .val (.ref b6), .val (.long qq), .second, .val (.int (1 : Int32))] [(.int (1 : Int32))]))
        refine own_go (fun _ q => XS.goto X15.here hx rfl (pc0 := 246) (pc' := 250) rfl (hb hby at_246) (by decide) (by decide) q) ?_
        show own_Go _ _ _ _ _ _ _ (T15.setTop (mkF m 250 #[.val (.long q0), .second, .val (.long q1), .second, .val (.long q2), .second, .val (.long q3), .second, .val (.long q4), .second, .val (.int p5), .val (.long y0), .second, .val (.long y1), .second, .val (.long y2), .second, .val (.long y3), .second, .val (.long y4), .second, .val (.int (1 : Int32)), .val (.int sel), .val (.ref b6), .val (.long qq), .second, .val (.int (1 : Int32))] [(.int (1 : Int32))]))
        exact own_retZ X15 hx hlk hret (hb hby at_250) (by decide) (by decide) (by decide) ⟨rfl, N15⟩
      · refine own_go (fun _ q => XS.ifNo X13.here hx rfl (hb hby at_181) rfl ((if0 _ _).trans (feq (fun q => hc181_14 ((lw_eq _ _).mp q))).1) q) ?_
        show own_Go _ _ _ _ _ _ _ (T13.setTop (mkF m 184 #[.val (.long q0), .second, .val (.long q1), .second, .val (.long q2), .second, .val (.long q3), .second, .val (.long q4), .second, .val (.int p5), .val (.long y0), .second, .val (.long y1), .second, .val (.long y2), .second, .val (.long y3), .second, .val (.long y4), .second, .val (.int (1 : Int32)), .val (.int sel), .val (.ref b6), .val (.long qq), .second, .unset] []))
        refine own_go (fun _ q => XS.iload X13.here hx rfl (hb hby at_184) rfl q) ?_
        show own_Go _ _ _ _ _ _ _ (T13.setTop (mkF m 186 #[.val (.long q0), .second, .val (.long q1), .second, .val (.long q2), .second, .val (.long q3), .second, .val (.long q4), .second, .val (.int p5), .val (.long y0), .second, .val (.long y1), .second, .val (.long y2), .second, .val (.long y3), .second, .val (.long y4), .second, .val (.int (1 : Int32)), .val (.int sel), .val (.ref b6), .val (.long qq), .second, .unset] [(.int (1 : Int32))]))
        refine own_go (fun _ q => XS.iconst X13.here hx rfl (hb hby at_186) q) ?_
        show own_Go _ _ _ _ _ _ _ (T13.setTop (mkF m 187 #[.val (.long q0), .second, .val (.long q1), .second, .val (.long q2), .second, .val (.long q3), .second, .val (.long q4), .second, .val (.int p5), .val (.long y0), .second, .val (.long y1), .second, .val (.long y2), .second, .val (.long y3), .second, .val (.long y4), .second, .val (.int (1 : Int32)), .val (.int sel), .val (.ref b6), .val (.long qq), .second, .unset] [(.int (2 : Int32)), (.int (1 : Int32))]))
        refine own_go (fun _ q => XS.icmpYes X13.here hx rfl (pc0 := 187) (pc' := 198) rfl (hb hby at_187) rfl (tlt (by decide : (1 : Int32) < (2 : Int32))).1 (by decide) (by decide) q) ?_
        show own_Go _ _ _ _ _ _ _ (T13.setTop (mkF m 198 #[.val (.long q0), .second, .val (.long q1), .second, .val (.long q2), .second, .val (.long q3), .second, .val (.long q4), .second, .val (.int p5), .val (.long y0), .second, .val (.long y1), .second, .val (.long y2), .second, .val (.long y3), .second, .val (.long y4), .second, .val (.int (1 : Int32)), .val (.int sel), .val (.ref b6), .val (.long qq), .second, .unset] []))
        refine own_go (fun _ q => XS.iload X13.here hx rfl (hb hby at_198) rfl q) ?_
        show own_Go _ _ _ _ _ _ _ (T13.setTop (mkF m 200 #[.val (.long q0), .second, .val (.long q1), .second, .val (.long q2), .second, .val (.long q3), .second, .val (.long q4), .second, .val (.int p5), .val (.long y0), .second, .val (.long y1), .second, .val (.long y2), .second, .val (.long y3), .second, .val (.long y4), .second, .val (.int (1 : Int32)), .val (.int sel), .val (.ref b6), .val (.long qq), .second, .unset] [(.int (1 : Int32))]))
        refine own_go (fun _ q => XS.iconst X13.here hx rfl (hb hby at_200) q) ?_
        show own_Go _ _ _ _ _ _ _ (T13.setTop (mkF m 201 #[.val (.long q0), .second, .val (.long q1), .second, .val (.long q2), .second, .val (.long q3), .second, .val (.long q4), .second, .val (.int p5), .val (.long y0), .second, .val (.long y1), .second, .val (.long y2), .second, .val (.long y3), .second, .val (.long y4), .second, .val (.int (1 : Int32)), .val (.int sel), .val (.ref b6), .val (.long qq), .second, .unset] [(.int (3 : Int32)), (.int (1 : Int32))]))
        refine own_go (fun _ q => XS.icmpYes X13.here hx rfl (pc0 := 201) (pc' := 212) rfl (hb hby at_201) rfl (tlt (by decide : (1 : Int32) < (3 : Int32))).1 (by decide) (by decide) q) ?_
        show own_Go _ _ _ _ _ _ _ (T13.setTop (mkF m 212 #[.val (.long q0), .second, .val (.long q1), .second, .val (.long q2), .second, .val (.long q3), .second, .val (.long q4), .second, .val (.int p5), .val (.long y0), .second, .val (.long y1), .second, .val (.long y2), .second, .val (.long y3), .second, .val (.long y4), .second, .val (.int (1 : Int32)), .val (.int sel), .val (.ref b6), .val (.long qq), .second, .unset] []))
        refine own_go (fun _ q => XS.iload X13.here hx rfl (hb hby at_212) rfl q) ?_
        show own_Go _ _ _ _ _ _ _ (T13.setTop (mkF m 214 #[.val (.long q0), .second, .val (.long q1), .second, .val (.long q2), .second, .val (.long q3), .second, .val (.long q4), .second, .val (.int p5), .val (.long y0), .second, .val (.long y1), .second, .val (.long y2), .second, .val (.long y3), .second, .val (.long y4), .second, .val (.int (1 : Int32)), .val (.int sel), .val (.ref b6), .val (.long qq), .second, .unset] [(.int (1 : Int32))]))
        refine own_go (fun _ q => XS.iconst X13.here hx rfl (hb hby at_214) q) ?_
        show own_Go _ _ _ _ _ _ _ (T13.setTop (mkF m 215 #[.val (.long q0), .second, .val (.long q1), .second, .val (.long q2), .second, .val (.long q3), .second, .val (.long q4), .second, .val (.int p5), .val (.long y0), .second, .val (.long y1), .second, .val (.long y2), .second, .val (.long y3), .second, .val (.long y4), .second, .val (.int (1 : Int32)), .val (.int sel), .val (.ref b6), .val (.long qq), .second, .unset] [(.int (4 : Int32)), (.int (1 : Int32))]))
        refine own_go (fun _ q => XS.icmpYes X13.here hx rfl (pc0 := 215) (pc' := 230) rfl (hb hby at_215) rfl (tlt (by decide : (1 : Int32) < (4 : Int32))).1 (by decide) (by decide) q) ?_
        show own_Go _ _ _ _ _ _ _ (T13.setTop (mkF m 230 #[.val (.long q0), .second, .val (.long q1), .second, .val (.long q2), .second, .val (.long q3), .second, .val (.long q4), .second, .val (.int p5), .val (.long y0), .second, .val (.long y1), .second, .val (.long y2), .second, .val (.long y3), .second, .val (.long y4), .second, .val (.int (1 : Int32)), .val (.int sel), .val (.ref b6), .val (.long qq), .second, .unset] []))
        refine own_go (fun _ q => XS.iconst X13.here hx rfl (hb hby at_230) q) ?_
        show own_Go _ _ _ _ _ _ _ (T13.setTop (mkF m 231 #[.val (.long q0), .second, .val (.long q1), .second, .val (.long q2), .second, .val (.long q3), .second, .val (.long q4), .second, .val (.int p5), .val (.long y0), .second, .val (.long y1), .second, .val (.long y2), .second, .val (.long y3), .second, .val (.long y4), .second, .val (.int (1 : Int32)), .val (.int sel), .val (.ref b6), .val (.long qq), .second, .unset] [(.int (0 : Int32))]))
        refine own_go (fun _ q => XS.istore X13.here hx rfl (hb hby at_231) rfl (l' := #[.val (.long q0), .second, .val (.long q1), .second, .val (.long q2), .second, .val (.long q3), .second, .val (.long q4), .second, .val (.int p5), .val (.long y0), .second, .val (.long y1), .second, .val (.long y2), .second, .val (.long y3), .second, .val (.long y4), .second, .val (.int (1 : Int32)), .val (.int sel), .val (.ref b6), .val (.long qq), .second, .val (.int (0 : Int32))]) rfl q) ?_
        show own_Go _ _ _ _ _ _ _ (T13.setTop (mkF m 233 #[.val (.long q0), .second, .val (.long q1), .second, .val (.long q2), .second, .val (.long q3), .second, .val (.long q4), .second, .val (.int p5), .val (.long y0), .second, .val (.long y1), .second, .val (.long y2), .second, .val (.long y3), .second, .val (.long y4), .second, .val (.int (1 : Int32)), .val (.int sel), .val (.ref b6), .val (.long qq), .second, .val (.int (0 : Int32))] []))
        refine own_go (fun _ q => XS.aload X13.here hx rfl (hb hby at_233) rfl rfl q) ?_
        show own_Go _ _ _ _ _ _ _ (T13.setTop (mkF m 235 #[.val (.long q0), .second, .val (.long q1), .second, .val (.long q2), .second, .val (.long q3), .second, .val (.long q4), .second, .val (.int p5), .val (.long y0), .second, .val (.long y1), .second, .val (.long y2), .second, .val (.long y3), .second, .val (.long y4), .second, .val (.int (1 : Int32)), .val (.int sel), .val (.ref b6), .val (.long qq), .second, .val (.int (0 : Int32))] [(.ref b6)]))
        refine own_go (fun _ q => XS.lload X13.here hx rfl (hb hby at_235) rfl q) ?_
        show own_Go _ _ _ _ _ _ _ (T13.setTop (mkF m 237 #[.val (.long q0), .second, .val (.long q1), .second, .val (.long q2), .second, .val (.long q3), .second, .val (.long q4), .second, .val (.int p5), .val (.long y0), .second, .val (.long y1), .second, .val (.long y2), .second, .val (.long y3), .second, .val (.long y4), .second, .val (.int (1 : Int32)), .val (.int sel), .val (.ref b6), .val (.long qq), .second, .val (.int (0 : Int32))] [(.long qq), (.ref b6)]))
        refine own_virtual X13 hx hZ hown (hw _ (List.mem_of_getElem? (i := 31) rfl)) (hw _ (List.mem_of_getElem? (i := 32) rfl)) (hw _ (List.mem_of_getElem? (i := 34) rfl)) (hw _ (List.mem_of_getElem? (i := 33) rfl)) (hw _ (List.mem_of_getElem? (i := 7) rfl)) (hw _ (List.mem_of_getElem? (i := 35) rfl)) (by decide) rfl (a := b6) E_1_z (argsL := [(.long qq)]) (rest := []) (rm6 l Z a0 hw [] b6 tb_1_z Ln_1_z tbl_1_z qq (fun y => (fun _ => False) y ∨ y = y0) sz_1_z T13.heap n0 Z13 E_1_z Ft_1_z At_1_z (by rcases hLA_1_z with ⟨_, q, _⟩ | ⟨_, q, _⟩ <;> omega) (by have := I_1_z.2.2; rcases hLA_1_z with ⟨_, q, _⟩ | ⟨_, q, _⟩ <;> omega) I_1_z) 0 (by decide) (by decide) (by decide) (by decide) (by rw [hml]; rfl) pd_5 rfl rfl (Nat.le_of_eq rfl) (hb hby at_237) rfl ?_
        intro v16 T16 L16 X16 hQ16
        obtain ⟨r, rfl, N16q, e16q, hrr⟩ := hQ16
        have N16 := Fr.app N13 N16q
        show own_Go _ _ _ _ _ _ _ (T16.setTop (mkF m 240 #[.val (.long q0), .second, .val (.long q1), .second, .val (.long q2), .second, .val (.long q3), .second, .val (.long q4), .second, .val (.int p5), .val (.long y0), .second, .val (.long y1), .second, .val (.long y2), .second, .val (.long y3), .second, .val (.long y4), .second, .val (.int (1 : Int32)), .val (.int sel), .val (.ref b6), .val (.long qq), .second, .val (.int (0 : Int32))] [(.int r)]))
        refine own_go (fun _ q => XS.iload X16.here hx rfl (hb hby at_240) rfl q) ?_
        show own_Go _ _ _ _ _ _ _ (T16.setTop (mkF m 242 #[.val (.long q0), .second, .val (.long q1), .second, .val (.long q2), .second, .val (.long q3), .second, .val (.long q4), .second, .val (.int p5), .val (.long y0), .second, .val (.long y1), .second, .val (.long y2), .second, .val (.long y3), .second, .val (.long y4), .second, .val (.int (1 : Int32)), .val (.int sel), .val (.ref b6), .val (.long qq), .second, .val (.int (0 : Int32))] [(.int (0 : Int32)), (.int r)]))
        refine own_go (fun _ q => XS.icmpNo X16.here hx rfl (hb hby at_242) rfl (teq (by rcases hrr with ⟨rfl, u⟩ | ⟨rfl, u⟩; (· first | rfl | (exfalso; simp_all)); (· first | rfl | (exfalso; simp_all)))).2 q) ?_
        show own_Go _ _ _ _ _ _ _ (T16.setTop (mkF m 245 #[.val (.long q0), .second, .val (.long q1), .second, .val (.long q2), .second, .val (.long q3), .second, .val (.long q4), .second, .val (.int p5), .val (.long y0), .second, .val (.long y1), .second, .val (.long y2), .second, .val (.long y3), .second, .val (.long y4), .second, .val (.int (1 : Int32)), .val (.int sel), .val (.ref b6), .val (.long qq), .second, .val (.int (0 : Int32))] []))
        refine own_go (fun _ q => XS.iconst X16.here hx rfl (hb hby at_245) q) ?_
        show own_Go _ _ _ _ _ _ _ (T16.setTop (mkF m 246 #[.val (.long q0), .second, .val (.long q1), .second, .val (.long q2), .second, .val (.long q3), .second, .val (.long q4), .second, .val (.int p5), .val (.long y0), .second, .val (.long y1), .second, .val (.long y2), .second, .val (.long y3), .second, .val (.long y4), .second, .val (.int (1 : Int32)), .val (.int sel), .val (.ref b6), .val (.long qq), .second, .val (.int (0 : Int32))] [(.int (1 : Int32))]))
        refine own_go (fun _ q => XS.goto X16.here hx rfl (pc0 := 246) (pc' := 250) rfl (hb hby at_246) (by decide) (by decide) q) ?_
        show own_Go _ _ _ _ _ _ _ (T16.setTop (mkF m 250 #[.val (.long q0), .second, .val (.long q1), .second, .val (.long q2), .second, .val (.long q3), .second, .val (.long q4), .second, .val (.int p5), .val (.long y0), .second, .val (.long y1), .second, .val (.long y2), .second, .val (.long y3), .second, .val (.long y4), .second, .val (.int (1 : Int32)), .val (.int sel), .val (.ref b6), .val (.long qq), .second, .val (.int (0 : Int32))] [(.int (1 : Int32))]))
        exact own_retZ X16 hx hlk hret (hb hby at_250) (by decide) (by decide) (by decide) ⟨rfl, N16⟩
    refine own_go (fun _ q => XS.iload X13.here hx rfl (hb hby at_122) rfl q) ?_
    show own_Go _ _ _ _ _ _ _ (T13.setTop (mkF m 124 #[.val (.long q0), .second, .val (.long q1), .second, .val (.long q2), .second, .val (.long q3), .second, .val (.long q4), .second, .val (.int p5), .val (.long y0), .second, .val (.long y1), .second, .val (.long y2), .second, .val (.long y3), .second, .val (.long y4), .second, .val (.int (1 : Int32)), .val (.int sel), .val (.ref b6), .val (.long y4), .second, .unset] [(.int sel)]))
    by_cases hc124_17 : sel = (0 : Int32)
    · refine own_go (fun _ q => XS.ifNo X13.here hx rfl (hb hby at_124) rfl ((if0 _ _).trans (teq hc124_17).2) q) ?_
      show own_Go _ _ _ _ _ _ _ (T13.setTop (mkF m 127 #[.val (.long q0), .second, .val (.long q1), .second, .val (.long q2), .second, .val (.long q3), .second, .val (.long q4), .second, .val (.int p5), .val (.long y0), .second, .val (.long y1), .second, .val (.long y2), .second, .val (.long y3), .second, .val (.long y4), .second, .val (.int (1 : Int32)), .val (.int sel), .val (.ref b6), .val (.long y4), .second, .unset] []))
      refine own_go (fun _ q => XS.lload X13.here hx rfl (hb hby at_127) rfl q) ?_
      show own_Go _ _ _ _ _ _ _ (T13.setTop (mkF m 129 #[.val (.long q0), .second, .val (.long q1), .second, .val (.long q2), .second, .val (.long q3), .second, .val (.long q4), .second, .val (.int p5), .val (.long y0), .second, .val (.long y1), .second, .val (.long y2), .second, .val (.long y3), .second, .val (.long y4), .second, .val (.int (1 : Int32)), .val (.int sel), .val (.ref b6), .val (.long y4), .second, .unset] [(.long y0)]))
      refine own_go (fun _ q => XS.lstore X13.here hx rfl (hb hby at_129) rfl (l' := #[.val (.long q0), .second, .val (.long q1), .second, .val (.long q2), .second, .val (.long q3), .second, .val (.long q4), .second, .val (.int p5), .val (.long y0), .second, .val (.long y1), .second, .val (.long y2), .second, .val (.long y3), .second, .val (.long y4), .second, .val (.int (1 : Int32)), .val (.int sel), .val (.ref b6), .val (.long y0), .second, .unset]) rfl q) ?_
      show own_Go _ _ _ _ _ _ _ (T13.setTop (mkF m 131 #[.val (.long q0), .second, .val (.long q1), .second, .val (.long q2), .second, .val (.long q3), .second, .val (.long q4), .second, .val (.int p5), .val (.long y0), .second, .val (.long y1), .second, .val (.long y2), .second, .val (.long y3), .second, .val (.long y4), .second, .val (.int (1 : Int32)), .val (.int sel), .val (.ref b6), .val (.long y0), .second, .unset] []))
      refine own_go (fun _ q => XS.goto X13.here hx rfl (pc0 := 131) (pc' := 170) rfl (hb hby at_131) (by decide) (by decide) q) ?_
      show own_Go _ _ _ _ _ _ _ (T13.setTop (mkF m 170 #[.val (.long q0), .second, .val (.long q1), .second, .val (.long q2), .second, .val (.long q3), .second, .val (.long q4), .second, .val (.int p5), .val (.long y0), .second, .val (.long y1), .second, .val (.long y2), .second, .val (.long y3), .second, .val (.long y4), .second, .val (.int (1 : Int32)), .val (.int sel), .val (.ref b6), .val (.long y0), .second, .unset] []))
      exact join _
    · refine own_go (fun _ q => XS.ifYes X13.here hx rfl (pc0 := 124) (pc' := 134) rfl (hb hby at_124) rfl ((if0 _ _).trans (feq hc124_17).2) (by decide) (by decide) q) ?_
      show own_Go _ _ _ _ _ _ _ (T13.setTop (mkF m 134 #[.val (.long q0), .second, .val (.long q1), .second, .val (.long q2), .second, .val (.long q3), .second, .val (.long q4), .second, .val (.int p5), .val (.long y0), .second, .val (.long y1), .second, .val (.long y2), .second, .val (.long y3), .second, .val (.long y4), .second, .val (.int (1 : Int32)), .val (.int sel), .val (.ref b6), .val (.long y4), .second, .unset] []))
      refine own_go (fun _ q => XS.iload X13.here hx rfl (hb hby at_134) rfl q) ?_
      show own_Go _ _ _ _ _ _ _ (T13.setTop (mkF m 136 #[.val (.long q0), .second, .val (.long q1), .second, .val (.long q2), .second, .val (.long q3), .second, .val (.long q4), .second, .val (.int p5), .val (.long y0), .second, .val (.long y1), .second, .val (.long y2), .second, .val (.long y3), .second, .val (.long y4), .second, .val (.int (1 : Int32)), .val (.int sel), .val (.ref b6), .val (.long y4), .second, .unset] [(.int sel)]))
      refine own_go (fun _ q => XS.iconst X13.here hx rfl (hb hby at_136) q) ?_
      show own_Go _ _ _ _ _ _ _ (T13.setTop (mkF m 137 #[.val (.long q0), .second, .val (.long q1), .second, .val (.long q2), .second, .val (.long q3), .second, .val (.long q4), .second, .val (.int p5), .val (.long y0), .second, .val (.long y1), .second, .val (.long y2), .second, .val (.long y3), .second, .val (.long y4), .second, .val (.int (1 : Int32)), .val (.int sel), .val (.ref b6), .val (.long y4), .second, .unset] [(.int (1 : Int32)), (.int sel)]))
      by_cases hc137_18 : sel = (1 : Int32)
      · refine own_go (fun _ q => XS.icmpNo X13.here hx rfl (hb hby at_137) rfl (teq hc137_18).2 q) ?_
        show own_Go _ _ _ _ _ _ _ (T13.setTop (mkF m 140 #[.val (.long q0), .second, .val (.long q1), .second, .val (.long q2), .second, .val (.long q3), .second, .val (.long q4), .second, .val (.int p5), .val (.long y0), .second, .val (.long y1), .second, .val (.long y2), .second, .val (.long y3), .second, .val (.long y4), .second, .val (.int (1 : Int32)), .val (.int sel), .val (.ref b6), .val (.long y4), .second, .unset] []))
        refine own_go (fun _ q => XS.lload X13.here hx rfl (hb hby at_140) rfl q) ?_
        show own_Go _ _ _ _ _ _ _ (T13.setTop (mkF m 142 #[.val (.long q0), .second, .val (.long q1), .second, .val (.long q2), .second, .val (.long q3), .second, .val (.long q4), .second, .val (.int p5), .val (.long y0), .second, .val (.long y1), .second, .val (.long y2), .second, .val (.long y3), .second, .val (.long y4), .second, .val (.int (1 : Int32)), .val (.int sel), .val (.ref b6), .val (.long y4), .second, .unset] [(.long y1)]))
        refine own_go (fun _ q => XS.lstore X13.here hx rfl (hb hby at_142) rfl (l' := #[.val (.long q0), .second, .val (.long q1), .second, .val (.long q2), .second, .val (.long q3), .second, .val (.long q4), .second, .val (.int p5), .val (.long y0), .second, .val (.long y1), .second, .val (.long y2), .second, .val (.long y3), .second, .val (.long y4), .second, .val (.int (1 : Int32)), .val (.int sel), .val (.ref b6), .val (.long y1), .second, .unset]) rfl q) ?_
        show own_Go _ _ _ _ _ _ _ (T13.setTop (mkF m 144 #[.val (.long q0), .second, .val (.long q1), .second, .val (.long q2), .second, .val (.long q3), .second, .val (.long q4), .second, .val (.int p5), .val (.long y0), .second, .val (.long y1), .second, .val (.long y2), .second, .val (.long y3), .second, .val (.long y4), .second, .val (.int (1 : Int32)), .val (.int sel), .val (.ref b6), .val (.long y1), .second, .unset] []))
        refine own_go (fun _ q => XS.goto X13.here hx rfl (pc0 := 144) (pc' := 170) rfl (hb hby at_144) (by decide) (by decide) q) ?_
        show own_Go _ _ _ _ _ _ _ (T13.setTop (mkF m 170 #[.val (.long q0), .second, .val (.long q1), .second, .val (.long q2), .second, .val (.long q3), .second, .val (.long q4), .second, .val (.int p5), .val (.long y0), .second, .val (.long y1), .second, .val (.long y2), .second, .val (.long y3), .second, .val (.long y4), .second, .val (.int (1 : Int32)), .val (.int sel), .val (.ref b6), .val (.long y1), .second, .unset] []))
        exact join _
      · refine own_go (fun _ q => XS.icmpYes X13.here hx rfl (pc0 := 137) (pc' := 147) rfl (hb hby at_137) rfl (feq hc137_18).2 (by decide) (by decide) q) ?_
        show own_Go _ _ _ _ _ _ _ (T13.setTop (mkF m 147 #[.val (.long q0), .second, .val (.long q1), .second, .val (.long q2), .second, .val (.long q3), .second, .val (.long q4), .second, .val (.int p5), .val (.long y0), .second, .val (.long y1), .second, .val (.long y2), .second, .val (.long y3), .second, .val (.long y4), .second, .val (.int (1 : Int32)), .val (.int sel), .val (.ref b6), .val (.long y4), .second, .unset] []))
        refine own_go (fun _ q => XS.iload X13.here hx rfl (hb hby at_147) rfl q) ?_
        show own_Go _ _ _ _ _ _ _ (T13.setTop (mkF m 149 #[.val (.long q0), .second, .val (.long q1), .second, .val (.long q2), .second, .val (.long q3), .second, .val (.long q4), .second, .val (.int p5), .val (.long y0), .second, .val (.long y1), .second, .val (.long y2), .second, .val (.long y3), .second, .val (.long y4), .second, .val (.int (1 : Int32)), .val (.int sel), .val (.ref b6), .val (.long y4), .second, .unset] [(.int sel)]))
        refine own_go (fun _ q => XS.iconst X13.here hx rfl (hb hby at_149) q) ?_
        show own_Go _ _ _ _ _ _ _ (T13.setTop (mkF m 150 #[.val (.long q0), .second, .val (.long q1), .second, .val (.long q2), .second, .val (.long q3), .second, .val (.long q4), .second, .val (.int p5), .val (.long y0), .second, .val (.long y1), .second, .val (.long y2), .second, .val (.long y3), .second, .val (.long y4), .second, .val (.int (1 : Int32)), .val (.int sel), .val (.ref b6), .val (.long y4), .second, .unset] [(.int (2 : Int32)), (.int sel)]))
        by_cases hc150_19 : sel = (2 : Int32)
        · refine own_go (fun _ q => XS.icmpNo X13.here hx rfl (hb hby at_150) rfl (teq hc150_19).2 q) ?_
          show own_Go _ _ _ _ _ _ _ (T13.setTop (mkF m 153 #[.val (.long q0), .second, .val (.long q1), .second, .val (.long q2), .second, .val (.long q3), .second, .val (.long q4), .second, .val (.int p5), .val (.long y0), .second, .val (.long y1), .second, .val (.long y2), .second, .val (.long y3), .second, .val (.long y4), .second, .val (.int (1 : Int32)), .val (.int sel), .val (.ref b6), .val (.long y4), .second, .unset] []))
          refine own_go (fun _ q => XS.lload X13.here hx rfl (hb hby at_153) rfl q) ?_
          show own_Go _ _ _ _ _ _ _ (T13.setTop (mkF m 155 #[.val (.long q0), .second, .val (.long q1), .second, .val (.long q2), .second, .val (.long q3), .second, .val (.long q4), .second, .val (.int p5), .val (.long y0), .second, .val (.long y1), .second, .val (.long y2), .second, .val (.long y3), .second, .val (.long y4), .second, .val (.int (1 : Int32)), .val (.int sel), .val (.ref b6), .val (.long y4), .second, .unset] [(.long y2)]))
          refine own_go (fun _ q => XS.lstore X13.here hx rfl (hb hby at_155) rfl (l' := #[.val (.long q0), .second, .val (.long q1), .second, .val (.long q2), .second, .val (.long q3), .second, .val (.long q4), .second, .val (.int p5), .val (.long y0), .second, .val (.long y1), .second, .val (.long y2), .second, .val (.long y3), .second, .val (.long y4), .second, .val (.int (1 : Int32)), .val (.int sel), .val (.ref b6), .val (.long y2), .second, .unset]) rfl q) ?_
          show own_Go _ _ _ _ _ _ _ (T13.setTop (mkF m 157 #[.val (.long q0), .second, .val (.long q1), .second, .val (.long q2), .second, .val (.long q3), .second, .val (.long q4), .second, .val (.int p5), .val (.long y0), .second, .val (.long y1), .second, .val (.long y2), .second, .val (.long y3), .second, .val (.long y4), .second, .val (.int (1 : Int32)), .val (.int sel), .val (.ref b6), .val (.long y2), .second, .unset] []))
          refine own_go (fun _ q => XS.goto X13.here hx rfl (pc0 := 157) (pc' := 170) rfl (hb hby at_157) (by decide) (by decide) q) ?_
          show own_Go _ _ _ _ _ _ _ (T13.setTop (mkF m 170 #[.val (.long q0), .second, .val (.long q1), .second, .val (.long q2), .second, .val (.long q3), .second, .val (.long q4), .second, .val (.int p5), .val (.long y0), .second, .val (.long y1), .second, .val (.long y2), .second, .val (.long y3), .second, .val (.long y4), .second, .val (.int (1 : Int32)), .val (.int sel), .val (.ref b6), .val (.long y2), .second, .unset] []))
          exact join _
        · refine own_go (fun _ q => XS.icmpYes X13.here hx rfl (pc0 := 150) (pc' := 160) rfl (hb hby at_150) rfl (feq hc150_19).2 (by decide) (by decide) q) ?_
          show own_Go _ _ _ _ _ _ _ (T13.setTop (mkF m 160 #[.val (.long q0), .second, .val (.long q1), .second, .val (.long q2), .second, .val (.long q3), .second, .val (.long q4), .second, .val (.int p5), .val (.long y0), .second, .val (.long y1), .second, .val (.long y2), .second, .val (.long y3), .second, .val (.long y4), .second, .val (.int (1 : Int32)), .val (.int sel), .val (.ref b6), .val (.long y4), .second, .unset] []))
          refine own_go (fun _ q => XS.iload X13.here hx rfl (hb hby at_160) rfl q) ?_
          show own_Go _ _ _ _ _ _ _ (T13.setTop (mkF m 162 #[.val (.long q0), .second, .val (.long q1), .second, .val (.long q2), .second, .val (.long q3), .second, .val (.long q4), .second, .val (.int p5), .val (.long y0), .second, .val (.long y1), .second, .val (.long y2), .second, .val (.long y3), .second, .val (.long y4), .second, .val (.int (1 : Int32)), .val (.int sel), .val (.ref b6), .val (.long y4), .second, .unset] [(.int sel)]))
          refine own_go (fun _ q => XS.iconst X13.here hx rfl (hb hby at_162) q) ?_
          show own_Go _ _ _ _ _ _ _ (T13.setTop (mkF m 163 #[.val (.long q0), .second, .val (.long q1), .second, .val (.long q2), .second, .val (.long q3), .second, .val (.long q4), .second, .val (.int p5), .val (.long y0), .second, .val (.long y1), .second, .val (.long y2), .second, .val (.long y3), .second, .val (.long y4), .second, .val (.int (1 : Int32)), .val (.int sel), .val (.ref b6), .val (.long y4), .second, .unset] [(.int (3 : Int32)), (.int sel)]))
          by_cases hc163_20 : sel = (3 : Int32)
          · refine own_go (fun _ q => XS.icmpNo X13.here hx rfl (hb hby at_163) rfl (teq hc163_20).2 q) ?_
            show own_Go _ _ _ _ _ _ _ (T13.setTop (mkF m 166 #[.val (.long q0), .second, .val (.long q1), .second, .val (.long q2), .second, .val (.long q3), .second, .val (.long q4), .second, .val (.int p5), .val (.long y0), .second, .val (.long y1), .second, .val (.long y2), .second, .val (.long y3), .second, .val (.long y4), .second, .val (.int (1 : Int32)), .val (.int sel), .val (.ref b6), .val (.long y4), .second, .unset] []))
            refine own_go (fun _ q => XS.lload X13.here hx rfl (hb hby at_166) rfl q) ?_
            show own_Go _ _ _ _ _ _ _ (T13.setTop (mkF m 168 #[.val (.long q0), .second, .val (.long q1), .second, .val (.long q2), .second, .val (.long q3), .second, .val (.long q4), .second, .val (.int p5), .val (.long y0), .second, .val (.long y1), .second, .val (.long y2), .second, .val (.long y3), .second, .val (.long y4), .second, .val (.int (1 : Int32)), .val (.int sel), .val (.ref b6), .val (.long y4), .second, .unset] [(.long y3)]))
            refine own_go (fun _ q => XS.lstore X13.here hx rfl (hb hby at_168) rfl (l' := #[.val (.long q0), .second, .val (.long q1), .second, .val (.long q2), .second, .val (.long q3), .second, .val (.long q4), .second, .val (.int p5), .val (.long y0), .second, .val (.long y1), .second, .val (.long y2), .second, .val (.long y3), .second, .val (.long y4), .second, .val (.int (1 : Int32)), .val (.int sel), .val (.ref b6), .val (.long y3), .second, .unset]) rfl q) ?_
            show own_Go _ _ _ _ _ _ _ (T13.setTop (mkF m 170 #[.val (.long q0), .second, .val (.long q1), .second, .val (.long q2), .second, .val (.long q3), .second, .val (.long q4), .second, .val (.int p5), .val (.long y0), .second, .val (.long y1), .second, .val (.long y2), .second, .val (.long y3), .second, .val (.long y4), .second, .val (.int (1 : Int32)), .val (.int sel), .val (.ref b6), .val (.long y3), .second, .unset] []))
            exact join _
          · refine own_go (fun _ q => XS.icmpYes X13.here hx rfl (pc0 := 163) (pc' := 170) rfl (hb hby at_163) rfl (feq hc163_20).2 (by decide) (by decide) q) ?_
            show own_Go _ _ _ _ _ _ _ (T13.setTop (mkF m 170 #[.val (.long q0), .second, .val (.long q1), .second, .val (.long q2), .second, .val (.long q3), .second, .val (.long q4), .second, .val (.int p5), .val (.long y0), .second, .val (.long y1), .second, .val (.long y2), .second, .val (.long y3), .second, .val (.long y4), .second, .val (.int (1 : Int32)), .val (.int sel), .val (.ref b6), .val (.long y4), .second, .unset] []))
            exact join _
  · rw [q]
    show own_Go _ _ _ _ _ _ _ (T7.setTop (mkF m 65 #[.val (.long q0), .second, .val (.long q1), .second, .val (.long q2), .second, .val (.long q3), .second, .val (.long q4), .second, .val (.int p5), .val (.long y0), .second, .val (.long y1), .second, .val (.long y2), .second, .val (.long y3), .second, .val (.long y4), .second, .val (.int (2 : Int32)), .val (.int sel), .val (.ref b6), .unset, .unset, .unset] [(.int (1 : Int32)), (.int (2 : Int32))]))
    refine own_go (fun _ q => XS.icmpNo X7.here hx rfl (hb hby at_65) rfl (flt (by decide : ¬ ((2 : Int32) < (1 : Int32)))).1 q) ?_
    show own_Go _ _ _ _ _ _ _ (T7.setTop (mkF m 68 #[.val (.long q0), .second, .val (.long q1), .second, .val (.long q2), .second, .val (.long q3), .second, .val (.long q4), .second, .val (.int p5), .val (.long y0), .second, .val (.long y1), .second, .val (.long y2), .second, .val (.long y3), .second, .val (.long y4), .second, .val (.int (2 : Int32)), .val (.int sel), .val (.ref b6), .unset, .unset, .unset] []))
    refine own_go (fun _ q => XS.aload X7.here hx rfl (hb hby at_68) rfl rfl q) ?_
    show own_Go _ _ _ _ _ _ _ (T7.setTop (mkF m 70 #[.val (.long q0), .second, .val (.long q1), .second, .val (.long q2), .second, .val (.long q3), .second, .val (.long q4), .second, .val (.int p5), .val (.long y0), .second, .val (.long y1), .second, .val (.long y2), .second, .val (.long y3), .second, .val (.long y4), .second, .val (.int (2 : Int32)), .val (.int sel), .val (.ref b6), .unset, .unset, .unset] [(.ref b6)]))
    refine own_go (fun _ q => XS.lload X7.here hx rfl (hb hby at_70) rfl q) ?_
    show own_Go _ _ _ _ _ _ _ (T7.setTop (mkF m 72 #[.val (.long q0), .second, .val (.long q1), .second, .val (.long q2), .second, .val (.long q3), .second, .val (.long q4), .second, .val (.int p5), .val (.long y0), .second, .val (.long y1), .second, .val (.long y2), .second, .val (.long y3), .second, .val (.long y4), .second, .val (.int (2 : Int32)), .val (.int sel), .val (.ref b6), .unset, .unset, .unset] [(.long y0), (.ref b6)]))
    obtain ⟨tb_2_0, ad_2_0, Ln_2_0, AL_2_0, sz_2_0, tbl_2_0, add_2_0, zs_2_0, E_2_0, Ft_2_0, Fa_2_0, Fs_2_0, At_2_0, Aa_2_0, go_2_0, gt_2_0, ga_2_0, neta_2_0, neot_2_0, neoa_2_0, hzs_2_0, hk_2_0, hLA_2_0, I_2_0, HA_2_0⟩ := St7
    refine own_virtual X7 hx hZ hown (hw _ (List.mem_of_getElem? (i := 19) rfl)) (hw _ (List.mem_of_getElem? (i := 20) rfl)) (hw _ (List.mem_of_getElem? (i := 22) rfl)) (hw _ (List.mem_of_getElem? (i := 21) rfl)) (hw _ (List.mem_of_getElem? (i := 7) rfl)) (hw _ (List.mem_of_getElem? (i := 23) rfl)) (by decide) rfl (a := b6) E_2_0 (argsL := [(.long y0)]) (rest := []) (rm4 l Z a0 hw [] b6 tb_2_0 ad_2_0 Ln_2_0 AL_2_0 sz_2_0 tbl_2_0 add_2_0 zs_2_0 y0 (fun _ => False) T7.heap n0 Z7 E_2_0 Ft_2_0 Fa_2_0 Fs_2_0 At_2_0 Aa_2_0 go_2_0 gt_2_0 ga_2_0 neta_2_0 neot_2_0 neoa_2_0 hzs_2_0 (by omega) hLA_2_0 I_2_0 HA_2_0 hy0) 0 (by decide) (by decide) (by decide) (by decide) (by rw [hml]; rfl) pd_5 rfl rfl (Nat.le_of_eq rfl) (hb hby at_72) rfl ?_
    intro v21 T21 L21 X21 hQ21
    obtain ⟨r21, rfl, N21q, St21, zz21⟩ := hQ21
    have N21 := Fr.app N7 N21q
    show own_Go _ _ _ _ _ _ _ (T21.setTop (mkF m 75 #[.val (.long q0), .second, .val (.long q1), .second, .val (.long q2), .second, .val (.long q3), .second, .val (.long q4), .second, .val (.int p5), .val (.long y0), .second, .val (.long y1), .second, .val (.long y2), .second, .val (.long y3), .second, .val (.long y4), .second, .val (.int (2 : Int32)), .val (.int sel), .val (.ref b6), .unset, .unset, .unset] [(.int r21)]))
    have Z21 : n0 ≤ T21.heap.size := Nat.le_trans Z7 zz21
    have St21' := St21.mono (k' := 1) (by omega)
    refine own_go (fun _ q => XS.pop X21.here hx rfl (hb hby at_75) rfl rfl q) ?_
    show own_Go _ _ _ _ _ _ _ (T21.setTop (mkF m 76 #[.val (.long q0), .second, .val (.long q1), .second, .val (.long q2), .second, .val (.long q3), .second, .val (.long q4), .second, .val (.int p5), .val (.long y0), .second, .val (.long y1), .second, .val (.long y2), .second, .val (.long y3), .second, .val (.long y4), .second, .val (.int (2 : Int32)), .val (.int sel), .val (.ref b6), .unset, .unset, .unset] []))
    refine own_go (fun _ q => XS.iload X21.here hx rfl (hb hby at_76) rfl q) ?_
    show own_Go _ _ _ _ _ _ _ (T21.setTop (mkF m 78 #[.val (.long q0), .second, .val (.long q1), .second, .val (.long q2), .second, .val (.long q3), .second, .val (.long q4), .second, .val (.int p5), .val (.long y0), .second, .val (.long y1), .second, .val (.long y2), .second, .val (.long y3), .second, .val (.long y4), .second, .val (.int (2 : Int32)), .val (.int sel), .val (.ref b6), .unset, .unset, .unset] [(.int (2 : Int32))]))
    refine own_go (fun _ q => XS.iconst X21.here hx rfl (hb hby at_78) q) ?_
    show own_Go _ _ _ _ _ _ _ (T21.setTop (mkF m 79 #[.val (.long q0), .second, .val (.long q1), .second, .val (.long q2), .second, .val (.long q3), .second, .val (.long q4), .second, .val (.int p5), .val (.long y0), .second, .val (.long y1), .second, .val (.long y2), .second, .val (.long y3), .second, .val (.long y4), .second, .val (.int (2 : Int32)), .val (.int sel), .val (.ref b6), .unset, .unset, .unset] [(.int (2 : Int32)), (.int (2 : Int32))]))
    refine own_go (fun _ q => XS.icmpNo X21.here hx rfl (hb hby at_79) rfl (flt (by decide : ¬ ((2 : Int32) < (2 : Int32)))).1 q) ?_
    show own_Go _ _ _ _ _ _ _ (T21.setTop (mkF m 82 #[.val (.long q0), .second, .val (.long q1), .second, .val (.long q2), .second, .val (.long q3), .second, .val (.long q4), .second, .val (.int p5), .val (.long y0), .second, .val (.long y1), .second, .val (.long y2), .second, .val (.long y3), .second, .val (.long y4), .second, .val (.int (2 : Int32)), .val (.int sel), .val (.ref b6), .unset, .unset, .unset] []))
    refine own_go (fun _ q => XS.aload X21.here hx rfl (hb hby at_82) rfl rfl q) ?_
    show own_Go _ _ _ _ _ _ _ (T21.setTop (mkF m 84 #[.val (.long q0), .second, .val (.long q1), .second, .val (.long q2), .second, .val (.long q3), .second, .val (.long q4), .second, .val (.int p5), .val (.long y0), .second, .val (.long y1), .second, .val (.long y2), .second, .val (.long y3), .second, .val (.long y4), .second, .val (.int (2 : Int32)), .val (.int sel), .val (.ref b6), .unset, .unset, .unset] [(.ref b6)]))
    refine own_go (fun _ q => XS.lload X21.here hx rfl (hb hby at_84) rfl q) ?_
    show own_Go _ _ _ _ _ _ _ (T21.setTop (mkF m 86 #[.val (.long q0), .second, .val (.long q1), .second, .val (.long q2), .second, .val (.long q3), .second, .val (.long q4), .second, .val (.int p5), .val (.long y0), .second, .val (.long y1), .second, .val (.long y2), .second, .val (.long y3), .second, .val (.long y4), .second, .val (.int (2 : Int32)), .val (.int sel), .val (.ref b6), .unset, .unset, .unset] [(.long y1), (.ref b6)]))
    obtain ⟨tb_2_1, ad_2_1, Ln_2_1, AL_2_1, sz_2_1, tbl_2_1, add_2_1, zs_2_1, E_2_1, Ft_2_1, Fa_2_1, Fs_2_1, At_2_1, Aa_2_1, go_2_1, gt_2_1, ga_2_1, neta_2_1, neot_2_1, neoa_2_1, hzs_2_1, hk_2_1, hLA_2_1, I_2_1, HA_2_1⟩ := St21'
    refine own_virtual X21 hx hZ hown (hw _ (List.mem_of_getElem? (i := 19) rfl)) (hw _ (List.mem_of_getElem? (i := 20) rfl)) (hw _ (List.mem_of_getElem? (i := 22) rfl)) (hw _ (List.mem_of_getElem? (i := 21) rfl)) (hw _ (List.mem_of_getElem? (i := 7) rfl)) (hw _ (List.mem_of_getElem? (i := 23) rfl)) (by decide) rfl (a := b6) E_2_1 (argsL := [(.long y1)]) (rest := []) (rm4 l Z a0 hw [] b6 tb_2_1 ad_2_1 Ln_2_1 AL_2_1 sz_2_1 tbl_2_1 add_2_1 zs_2_1 y1 (fun y => (fun _ => False) y ∨ y = y0) T21.heap n0 Z21 E_2_1 Ft_2_1 Fa_2_1 Fs_2_1 At_2_1 Aa_2_1 go_2_1 gt_2_1 ga_2_1 neta_2_1 neot_2_1 neoa_2_1 hzs_2_1 (by omega) hLA_2_1 I_2_1 HA_2_1 hy1) 0 (by decide) (by decide) (by decide) (by decide) (by rw [hml]; rfl) pd_5 rfl rfl (Nat.le_of_eq rfl) (hb hby at_86) rfl ?_
    intro v22 T22 L22 X22 hQ22
    obtain ⟨r22, rfl, N22q, St22, zz22⟩ := hQ22
    have N22 := Fr.app N21 N22q
    show own_Go _ _ _ _ _ _ _ (T22.setTop (mkF m 89 #[.val (.long q0), .second, .val (.long q1), .second, .val (.long q2), .second, .val (.long q3), .second, .val (.long q4), .second, .val (.int p5), .val (.long y0), .second, .val (.long y1), .second, .val (.long y2), .second, .val (.long y3), .second, .val (.long y4), .second, .val (.int (2 : Int32)), .val (.int sel), .val (.ref b6), .unset, .unset, .unset] [(.int r22)]))
    have Z22 : n0 ≤ T22.heap.size := Nat.le_trans Z21 zz22
    have St22' := St22.mono (k' := 2) (by omega)
    refine own_go (fun _ q => XS.pop X22.here hx rfl (hb hby at_89) rfl rfl q) ?_
    show own_Go _ _ _ _ _ _ _ (T22.setTop (mkF m 90 #[.val (.long q0), .second, .val (.long q1), .second, .val (.long q2), .second, .val (.long q3), .second, .val (.long q4), .second, .val (.int p5), .val (.long y0), .second, .val (.long y1), .second, .val (.long y2), .second, .val (.long y3), .second, .val (.long y4), .second, .val (.int (2 : Int32)), .val (.int sel), .val (.ref b6), .unset, .unset, .unset] []))
    refine own_go (fun _ q => XS.iload X22.here hx rfl (hb hby at_90) rfl q) ?_
    show own_Go _ _ _ _ _ _ _ (T22.setTop (mkF m 92 #[.val (.long q0), .second, .val (.long q1), .second, .val (.long q2), .second, .val (.long q3), .second, .val (.long q4), .second, .val (.int p5), .val (.long y0), .second, .val (.long y1), .second, .val (.long y2), .second, .val (.long y3), .second, .val (.long y4), .second, .val (.int (2 : Int32)), .val (.int sel), .val (.ref b6), .unset, .unset, .unset] [(.int (2 : Int32))]))
    refine own_go (fun _ q => XS.iconst X22.here hx rfl (hb hby at_92) q) ?_
    show own_Go _ _ _ _ _ _ _ (T22.setTop (mkF m 93 #[.val (.long q0), .second, .val (.long q1), .second, .val (.long q2), .second, .val (.long q3), .second, .val (.long q4), .second, .val (.int p5), .val (.long y0), .second, .val (.long y1), .second, .val (.long y2), .second, .val (.long y3), .second, .val (.long y4), .second, .val (.int (2 : Int32)), .val (.int sel), .val (.ref b6), .unset, .unset, .unset] [(.int (3 : Int32)), (.int (2 : Int32))]))
    refine own_go (fun _ q => XS.icmpYes X22.here hx rfl (pc0 := 93) (pc' := 104) rfl (hb hby at_93) rfl (tlt (by decide : (2 : Int32) < (3 : Int32))).1 (by decide) (by decide) q) ?_
    show own_Go _ _ _ _ _ _ _ (T22.setTop (mkF m 104 #[.val (.long q0), .second, .val (.long q1), .second, .val (.long q2), .second, .val (.long q3), .second, .val (.long q4), .second, .val (.int p5), .val (.long y0), .second, .val (.long y1), .second, .val (.long y2), .second, .val (.long y3), .second, .val (.long y4), .second, .val (.int (2 : Int32)), .val (.int sel), .val (.ref b6), .unset, .unset, .unset] []))
    refine own_go (fun _ q => XS.iload X22.here hx rfl (hb hby at_104) rfl q) ?_
    show own_Go _ _ _ _ _ _ _ (T22.setTop (mkF m 106 #[.val (.long q0), .second, .val (.long q1), .second, .val (.long q2), .second, .val (.long q3), .second, .val (.long q4), .second, .val (.int p5), .val (.long y0), .second, .val (.long y1), .second, .val (.long y2), .second, .val (.long y3), .second, .val (.long y4), .second, .val (.int (2 : Int32)), .val (.int sel), .val (.ref b6), .unset, .unset, .unset] [(.int (2 : Int32))]))
    refine own_go (fun _ q => XS.iconst X22.here hx rfl (hb hby at_106) q) ?_
    show own_Go _ _ _ _ _ _ _ (T22.setTop (mkF m 107 #[.val (.long q0), .second, .val (.long q1), .second, .val (.long q2), .second, .val (.long q3), .second, .val (.long q4), .second, .val (.int p5), .val (.long y0), .second, .val (.long y1), .second, .val (.long y2), .second, .val (.long y3), .second, .val (.long y4), .second, .val (.int (2 : Int32)), .val (.int sel), .val (.ref b6), .unset, .unset, .unset] [(.int (4 : Int32)), (.int (2 : Int32))]))
    refine own_go (fun _ q => XS.icmpYes X22.here hx rfl (pc0 := 107) (pc' := 118) rfl (hb hby at_107) rfl (tlt (by decide : (2 : Int32) < (4 : Int32))).1 (by decide) (by decide) q) ?_
    show own_Go _ _ _ _ _ _ _ (T22.setTop (mkF m 118 #[.val (.long q0), .second, .val (.long q1), .second, .val (.long q2), .second, .val (.long q3), .second, .val (.long q4), .second, .val (.int p5), .val (.long y0), .second, .val (.long y1), .second, .val (.long y2), .second, .val (.long y3), .second, .val (.long y4), .second, .val (.int (2 : Int32)), .val (.int sel), .val (.ref b6), .unset, .unset, .unset] []))
    refine own_go (fun _ q => XS.lload X22.here hx rfl (hb hby at_118) rfl q) ?_
    show own_Go _ _ _ _ _ _ _ (T22.setTop (mkF m 120 #[.val (.long q0), .second, .val (.long q1), .second, .val (.long q2), .second, .val (.long q3), .second, .val (.long q4), .second, .val (.int p5), .val (.long y0), .second, .val (.long y1), .second, .val (.long y2), .second, .val (.long y3), .second, .val (.long y4), .second, .val (.int (2 : Int32)), .val (.int sel), .val (.ref b6), .unset, .unset, .unset] [(.long y4)]))
    refine own_go (fun _ q => XS.lstore X22.here hx rfl (hb hby at_120) rfl (l' := #[.val (.long q0), .second, .val (.long q1), .second, .val (.long q2), .second, .val (.long q3), .second, .val (.long q4), .second, .val (.int p5), .val (.long y0), .second, .val (.long y1), .second, .val (.long y2), .second, .val (.long y3), .second, .val (.long y4), .second, .val (.int (2 : Int32)), .val (.int sel), .val (.ref b6), .val (.long y4), .second, .unset]) rfl q) ?_
    show own_Go _ _ _ _ _ _ _ (T22.setTop (mkF m 122 #[.val (.long q0), .second, .val (.long q1), .second, .val (.long q2), .second, .val (.long q3), .second, .val (.long q4), .second, .val (.int p5), .val (.long y0), .second, .val (.long y1), .second, .val (.long y2), .second, .val (.long y3), .second, .val (.long y4), .second, .val (.int (2 : Int32)), .val (.int sel), .val (.ref b6), .val (.long y4), .second, .unset] []))
    obtain ⟨tb_2_z, ad_2_z, Ln_2_z, AL_2_z, sz_2_z, tbl_2_z, add_2_z, zs_2_z, E_2_z, Ft_2_z, Fa_2_z, Fs_2_z, At_2_z, Aa_2_z, go_2_z, gt_2_z, ga_2_z, neta_2_z, neot_2_z, neoa_2_z, hzs_2_z, hk_2_z, hLA_2_z, I_2_z, HA_2_z⟩ := St22'
    have join : ∀ qq : Int64, own_Go p e below s (Q0 Z q0 q1 q2 q3 q4 p5 h0 n0) room_1.cells room_1.slots (T22.setTop (mkF m 170 #[.val (.long q0), .second, .val (.long q1), .second, .val (.long q2), .second, .val (.long q3), .second, .val (.long q4), .second, .val (.int p5), .val (.long y0), .second, .val (.long y1), .second, .val (.long y2), .second, .val (.long y3), .second, .val (.long y4), .second, .val (.int (2 : Int32)), .val (.int sel), .val (.ref b6), .val (.long qq), .second, .unset] [])) := by
      intro qq
      show own_Go _ _ _ _ _ _ _ (T22.setTop (mkF m 170 #[.val (.long q0), .second, .val (.long q1), .second, .val (.long q2), .second, .val (.long q3), .second, .val (.long q4), .second, .val (.int p5), .val (.long y0), .second, .val (.long y1), .second, .val (.long y2), .second, .val (.long y3), .second, .val (.long y4), .second, .val (.int (2 : Int32)), .val (.int sel), .val (.ref b6), .val (.long qq), .second, .unset] []))
      refine own_go (fun _ q => XS.iload X22.here hx rfl (hb hby at_170) rfl q) ?_
      show own_Go _ _ _ _ _ _ _ (T22.setTop (mkF m 172 #[.val (.long q0), .second, .val (.long q1), .second, .val (.long q2), .second, .val (.long q3), .second, .val (.long q4), .second, .val (.int p5), .val (.long y0), .second, .val (.long y1), .second, .val (.long y2), .second, .val (.long y3), .second, .val (.long y4), .second, .val (.int (2 : Int32)), .val (.int sel), .val (.ref b6), .val (.long qq), .second, .unset] [(.int (2 : Int32))]))
      refine own_go (fun _ q => XS.iconst X22.here hx rfl (hb hby at_172) q) ?_
      show own_Go _ _ _ _ _ _ _ (T22.setTop (mkF m 173 #[.val (.long q0), .second, .val (.long q1), .second, .val (.long q2), .second, .val (.long q3), .second, .val (.long q4), .second, .val (.int p5), .val (.long y0), .second, .val (.long y1), .second, .val (.long y2), .second, .val (.long y3), .second, .val (.long y4), .second, .val (.int (2 : Int32)), .val (.int sel), .val (.ref b6), .val (.long qq), .second, .unset] [(.int (1 : Int32)), (.int (2 : Int32))]))
      refine own_go (fun _ q => XS.icmpNo X22.here hx rfl (hb hby at_173) rfl (flt (by decide : ¬ ((2 : Int32) < (1 : Int32)))).1 q) ?_
      show own_Go _ _ _ _ _ _ _ (T22.setTop (mkF m 176 #[.val (.long q0), .second, .val (.long q1), .second, .val (.long q2), .second, .val (.long q3), .second, .val (.long q4), .second, .val (.int p5), .val (.long y0), .second, .val (.long y1), .second, .val (.long y2), .second, .val (.long y3), .second, .val (.long y4), .second, .val (.int (2 : Int32)), .val (.int sel), .val (.ref b6), .val (.long qq), .second, .unset] []))
      refine own_go (fun _ q => XS.lload X22.here hx rfl (hb hby at_176) rfl q) ?_
      show own_Go _ _ _ _ _ _ _ (T22.setTop (mkF m 178 #[.val (.long q0), .second, .val (.long q1), .second, .val (.long q2), .second, .val (.long q3), .second, .val (.long q4), .second, .val (.int p5), .val (.long y0), .second, .val (.long y1), .second, .val (.long y2), .second, .val (.long y3), .second, .val (.long y4), .second, .val (.int (2 : Int32)), .val (.int sel), .val (.ref b6), .val (.long qq), .second, .unset] [(.long qq)]))
      refine own_go (fun _ q => XS.lload X22.here hx rfl (hb hby at_178) rfl q) ?_
      show own_Go _ _ _ _ _ _ _ (T22.setTop (mkF m 180 #[.val (.long q0), .second, .val (.long q1), .second, .val (.long q2), .second, .val (.long q3), .second, .val (.long q4), .second, .val (.int p5), .val (.long y0), .second, .val (.long y1), .second, .val (.long y2), .second, .val (.long y3), .second, .val (.long y4), .second, .val (.int (2 : Int32)), .val (.int sel), .val (.ref b6), .val (.long qq), .second, .unset] [(.long y0), (.long qq)]))
      refine own_go (fun _ q => XS.lcmp X22.here hx rfl (hb hby at_180) rfl q) ?_
      show own_Go _ _ _ _ _ _ _ (T22.setTop (mkF m 181 #[.val (.long q0), .second, .val (.long q1), .second, .val (.long q2), .second, .val (.long q3), .second, .val (.long q4), .second, .val (.int p5), .val (.long y0), .second, .val (.long y1), .second, .val (.long y2), .second, .val (.long y3), .second, .val (.long y4), .second, .val (.int (2 : Int32)), .val (.int sel), .val (.ref b6), .val (.long qq), .second, .unset] [(.int (lcmpW qq y0))]))
      by_cases hc181_23 : qq = y0
      · refine own_go (fun _ q => XS.ifYes X22.here hx rfl (pc0 := 181) (pc' := 226) rfl (hb hby at_181) rfl ((if0 _ _).trans (teq ((lw_eq _ _).mpr hc181_23)).1) (by decide) (by decide) q) ?_
        show own_Go _ _ _ _ _ _ _ (T22.setTop (mkF m 226 #[.val (.long q0), .second, .val (.long q1), .second, .val (.long q2), .second, .val (.long q3), .second, .val (.long q4), .second, .val (.int p5), .val (.long y0), .second, .val (.long y1), .second, .val (.long y2), .second, .val (.long y3), .second, .val (.long y4), .second, .val (.int (2 : Int32)), .val (.int sel), .val (.ref b6), .val (.long qq), .second, .unset] []))
        refine own_go (fun _ q => XS.iconst X22.here hx rfl (hb hby at_226) q) ?_
        show own_Go _ _ _ _ _ _ _ (T22.setTop (mkF m 227 #[.val (.long q0), .second, .val (.long q1), .second, .val (.long q2), .second, .val (.long q3), .second, .val (.long q4), .second, .val (.int p5), .val (.long y0), .second, .val (.long y1), .second, .val (.long y2), .second, .val (.long y3), .second, .val (.long y4), .second, .val (.int (2 : Int32)), .val (.int sel), .val (.ref b6), .val (.long qq), .second, .unset] [(.int (1 : Int32))]))
        refine own_go (fun _ q => XS.goto X22.here hx rfl (pc0 := 227) (pc' := 231) rfl (hb hby at_227) (by decide) (by decide) q) ?_
        show own_Go _ _ _ _ _ _ _ (T22.setTop (mkF m 231 #[.val (.long q0), .second, .val (.long q1), .second, .val (.long q2), .second, .val (.long q3), .second, .val (.long q4), .second, .val (.int p5), .val (.long y0), .second, .val (.long y1), .second, .val (.long y2), .second, .val (.long y3), .second, .val (.long y4), .second, .val (.int (2 : Int32)), .val (.int sel), .val (.ref b6), .val (.long qq), .second, .unset] [(.int (1 : Int32))]))
        refine own_go (fun _ q => XS.istore X22.here hx rfl (hb hby at_231) rfl (l' := #[.val (.long q0), .second, .val (.long q1), .second, .val (.long q2), .second, .val (.long q3), .second, .val (.long q4), .second, .val (.int p5), .val (.long y0), .second, .val (.long y1), .second, .val (.long y2), .second, .val (.long y3), .second, .val (.long y4), .second, .val (.int (2 : Int32)), .val (.int sel), .val (.ref b6), .val (.long qq), .second, .val (.int (1 : Int32))]) rfl q) ?_
        show own_Go _ _ _ _ _ _ _ (T22.setTop (mkF m 233 #[.val (.long q0), .second, .val (.long q1), .second, .val (.long q2), .second, .val (.long q3), .second, .val (.long q4), .second, .val (.int p5), .val (.long y0), .second, .val (.long y1), .second, .val (.long y2), .second, .val (.long y3), .second, .val (.long y4), .second, .val (.int (2 : Int32)), .val (.int sel), .val (.ref b6), .val (.long qq), .second, .val (.int (1 : Int32))] []))
        refine own_go (fun _ q => XS.aload X22.here hx rfl (hb hby at_233) rfl rfl q) ?_
        show own_Go _ _ _ _ _ _ _ (T22.setTop (mkF m 235 #[.val (.long q0), .second, .val (.long q1), .second, .val (.long q2), .second, .val (.long q3), .second, .val (.long q4), .second, .val (.int p5), .val (.long y0), .second, .val (.long y1), .second, .val (.long y2), .second, .val (.long y3), .second, .val (.long y4), .second, .val (.int (2 : Int32)), .val (.int sel), .val (.ref b6), .val (.long qq), .second, .val (.int (1 : Int32))] [(.ref b6)]))
        refine own_go (fun _ q => XS.lload X22.here hx rfl (hb hby at_235) rfl q) ?_
        show own_Go _ _ _ _ _ _ _ (T22.setTop (mkF m 237 #[.val (.long q0), .second, .val (.long q1), .second, .val (.long q2), .second, .val (.long q3), .second, .val (.long q4), .second, .val (.int p5), .val (.long y0), .second, .val (.long y1), .second, .val (.long y2), .second, .val (.long y3), .second, .val (.long y4), .second, .val (.int (2 : Int32)), .val (.int sel), .val (.ref b6), .val (.long qq), .second, .val (.int (1 : Int32))] [(.long qq), (.ref b6)]))
        refine own_virtual X22 hx hZ hown (hw _ (List.mem_of_getElem? (i := 31) rfl)) (hw _ (List.mem_of_getElem? (i := 32) rfl)) (hw _ (List.mem_of_getElem? (i := 34) rfl)) (hw _ (List.mem_of_getElem? (i := 33) rfl)) (hw _ (List.mem_of_getElem? (i := 7) rfl)) (hw _ (List.mem_of_getElem? (i := 35) rfl)) (by decide) rfl (a := b6) E_2_z (argsL := [(.long qq)]) (rest := []) (rm6 l Z a0 hw [] b6 tb_2_z Ln_2_z tbl_2_z qq (fun y => (fun y => (fun _ => False) y ∨ y = y0) y ∨ y = y1) sz_2_z T22.heap n0 Z22 E_2_z Ft_2_z At_2_z (by rcases hLA_2_z with ⟨_, q, _⟩ | ⟨_, q, _⟩ <;> omega) (by have := I_2_z.2.2; rcases hLA_2_z with ⟨_, q, _⟩ | ⟨_, q, _⟩ <;> omega) I_2_z) 0 (by decide) (by decide) (by decide) (by decide) (by rw [hml]; rfl) pd_5 rfl rfl (Nat.le_of_eq rfl) (hb hby at_237) rfl ?_
        intro v24 T24 L24 X24 hQ24
        obtain ⟨r, rfl, N24q, e24q, hrr⟩ := hQ24
        have N24 := Fr.app N22 N24q
        show own_Go _ _ _ _ _ _ _ (T24.setTop (mkF m 240 #[.val (.long q0), .second, .val (.long q1), .second, .val (.long q2), .second, .val (.long q3), .second, .val (.long q4), .second, .val (.int p5), .val (.long y0), .second, .val (.long y1), .second, .val (.long y2), .second, .val (.long y3), .second, .val (.long y4), .second, .val (.int (2 : Int32)), .val (.int sel), .val (.ref b6), .val (.long qq), .second, .val (.int (1 : Int32))] [(.int r)]))
        refine own_go (fun _ q => XS.iload X24.here hx rfl (hb hby at_240) rfl q) ?_
        show own_Go _ _ _ _ _ _ _ (T24.setTop (mkF m 242 #[.val (.long q0), .second, .val (.long q1), .second, .val (.long q2), .second, .val (.long q3), .second, .val (.long q4), .second, .val (.int p5), .val (.long y0), .second, .val (.long y1), .second, .val (.long y2), .second, .val (.long y3), .second, .val (.long y4), .second, .val (.int (2 : Int32)), .val (.int sel), .val (.ref b6), .val (.long qq), .second, .val (.int (1 : Int32))] [(.int (1 : Int32)), (.int r)]))
        refine own_go (fun _ q => XS.icmpNo X24.here hx rfl (hb hby at_242) rfl (teq (by rcases hrr with ⟨rfl, u⟩ | ⟨rfl, u⟩; (· first | rfl | (exfalso; simp_all)); (· first | rfl | (exfalso; simp_all)))).2 q) ?_
        show own_Go _ _ _ _ _ _ _ (T24.setTop (mkF m 245 #[.val (.long q0), .second, .val (.long q1), .second, .val (.long q2), .second, .val (.long q3), .second, .val (.long q4), .second, .val (.int p5), .val (.long y0), .second, .val (.long y1), .second, .val (.long y2), .second, .val (.long y3), .second, .val (.long y4), .second, .val (.int (2 : Int32)), .val (.int sel), .val (.ref b6), .val (.long qq), .second, .val (.int (1 : Int32))] []))
        refine own_go (fun _ q => XS.iconst X24.here hx rfl (hb hby at_245) q) ?_
        show own_Go _ _ _ _ _ _ _ (T24.setTop (mkF m 246 #[.val (.long q0), .second, .val (.long q1), .second, .val (.long q2), .second, .val (.long q3), .second, .val (.long q4), .second, .val (.int p5), .val (.long y0), .second, .val (.long y1), .second, .val (.long y2), .second, .val (.long y3), .second, .val (.long y4), .second, .val (.int (2 : Int32)), .val (.int sel), .val (.ref b6), .val (.long qq), .second, .val (.int (1 : Int32))] [(.int (1 : Int32))]))
        refine own_go (fun _ q => XS.goto X24.here hx rfl (pc0 := 246) (pc' := 250) rfl (hb hby at_246) (by decide) (by decide) q) ?_
        show own_Go _ _ _ _ _ _ _ (T24.setTop (mkF m 250 #[.val (.long q0), .second, .val (.long q1), .second, .val (.long q2), .second, .val (.long q3), .second, .val (.long q4), .second, .val (.int p5), .val (.long y0), .second, .val (.long y1), .second, .val (.long y2), .second, .val (.long y3), .second, .val (.long y4), .second, .val (.int (2 : Int32)), .val (.int sel), .val (.ref b6), .val (.long qq), .second, .val (.int (1 : Int32))] [(.int (1 : Int32))]))
        exact own_retZ X24 hx hlk hret (hb hby at_250) (by decide) (by decide) (by decide) ⟨rfl, N24⟩
      · refine own_go (fun _ q => XS.ifNo X22.here hx rfl (hb hby at_181) rfl ((if0 _ _).trans (feq (fun q => hc181_23 ((lw_eq _ _).mp q))).1) q) ?_
        show own_Go _ _ _ _ _ _ _ (T22.setTop (mkF m 184 #[.val (.long q0), .second, .val (.long q1), .second, .val (.long q2), .second, .val (.long q3), .second, .val (.long q4), .second, .val (.int p5), .val (.long y0), .second, .val (.long y1), .second, .val (.long y2), .second, .val (.long y3), .second, .val (.long y4), .second, .val (.int (2 : Int32)), .val (.int sel), .val (.ref b6), .val (.long qq), .second, .unset] []))
        refine own_go (fun _ q => XS.iload X22.here hx rfl (hb hby at_184) rfl q) ?_
        show own_Go _ _ _ _ _ _ _ (T22.setTop (mkF m 186 #[.val (.long q0), .second, .val (.long q1), .second, .val (.long q2), .second, .val (.long q3), .second, .val (.long q4), .second, .val (.int p5), .val (.long y0), .second, .val (.long y1), .second, .val (.long y2), .second, .val (.long y3), .second, .val (.long y4), .second, .val (.int (2 : Int32)), .val (.int sel), .val (.ref b6), .val (.long qq), .second, .unset] [(.int (2 : Int32))]))
        refine own_go (fun _ q => XS.iconst X22.here hx rfl (hb hby at_186) q) ?_
        show own_Go _ _ _ _ _ _ _ (T22.setTop (mkF m 187 #[.val (.long q0), .second, .val (.long q1), .second, .val (.long q2), .second, .val (.long q3), .second, .val (.long q4), .second, .val (.int p5), .val (.long y0), .second, .val (.long y1), .second, .val (.long y2), .second, .val (.long y3), .second, .val (.long y4), .second, .val (.int (2 : Int32)), .val (.int sel), .val (.ref b6), .val (.long qq), .second, .unset] [(.int (2 : Int32)), (.int (2 : Int32))]))
        refine own_go (fun _ q => XS.icmpNo X22.here hx rfl (hb hby at_187) rfl (flt (by decide : ¬ ((2 : Int32) < (2 : Int32)))).1 q) ?_
        show own_Go _ _ _ _ _ _ _ (T22.setTop (mkF m 190 #[.val (.long q0), .second, .val (.long q1), .second, .val (.long q2), .second, .val (.long q3), .second, .val (.long q4), .second, .val (.int p5), .val (.long y0), .second, .val (.long y1), .second, .val (.long y2), .second, .val (.long y3), .second, .val (.long y4), .second, .val (.int (2 : Int32)), .val (.int sel), .val (.ref b6), .val (.long qq), .second, .unset] []))
        refine own_go (fun _ q => XS.lload X22.here hx rfl (hb hby at_190) rfl q) ?_
        show own_Go _ _ _ _ _ _ _ (T22.setTop (mkF m 192 #[.val (.long q0), .second, .val (.long q1), .second, .val (.long q2), .second, .val (.long q3), .second, .val (.long q4), .second, .val (.int p5), .val (.long y0), .second, .val (.long y1), .second, .val (.long y2), .second, .val (.long y3), .second, .val (.long y4), .second, .val (.int (2 : Int32)), .val (.int sel), .val (.ref b6), .val (.long qq), .second, .unset] [(.long qq)]))
        refine own_go (fun _ q => XS.lload X22.here hx rfl (hb hby at_192) rfl q) ?_
        show own_Go _ _ _ _ _ _ _ (T22.setTop (mkF m 194 #[.val (.long q0), .second, .val (.long q1), .second, .val (.long q2), .second, .val (.long q3), .second, .val (.long q4), .second, .val (.int p5), .val (.long y0), .second, .val (.long y1), .second, .val (.long y2), .second, .val (.long y3), .second, .val (.long y4), .second, .val (.int (2 : Int32)), .val (.int sel), .val (.ref b6), .val (.long qq), .second, .unset] [(.long y1), (.long qq)]))
        refine own_go (fun _ q => XS.lcmp X22.here hx rfl (hb hby at_194) rfl q) ?_
        show own_Go _ _ _ _ _ _ _ (T22.setTop (mkF m 195 #[.val (.long q0), .second, .val (.long q1), .second, .val (.long q2), .second, .val (.long q3), .second, .val (.long q4), .second, .val (.int p5), .val (.long y0), .second, .val (.long y1), .second, .val (.long y2), .second, .val (.long y3), .second, .val (.long y4), .second, .val (.int (2 : Int32)), .val (.int sel), .val (.ref b6), .val (.long qq), .second, .unset] [(.int (lcmpW qq y1))]))
        by_cases hc195_25 : qq = y1
        · refine own_go (fun _ q => XS.ifYes X22.here hx rfl (pc0 := 195) (pc' := 226) rfl (hb hby at_195) rfl ((if0 _ _).trans (teq ((lw_eq _ _).mpr hc195_25)).1) (by decide) (by decide) q) ?_
          show own_Go _ _ _ _ _ _ _ (T22.setTop (mkF m 226 #[.val (.long q0), .second, .val (.long q1), .second, .val (.long q2), .second, .val (.long q3), .second, .val (.long q4), .second, .val (.int p5), .val (.long y0), .second, .val (.long y1), .second, .val (.long y2), .second, .val (.long y3), .second, .val (.long y4), .second, .val (.int (2 : Int32)), .val (.int sel), .val (.ref b6), .val (.long qq), .second, .unset] []))
          refine own_go (fun _ q => XS.iconst X22.here hx rfl (hb hby at_226) q) ?_
          show own_Go _ _ _ _ _ _ _ (T22.setTop (mkF m 227 #[.val (.long q0), .second, .val (.long q1), .second, .val (.long q2), .second, .val (.long q3), .second, .val (.long q4), .second, .val (.int p5), .val (.long y0), .second, .val (.long y1), .second, .val (.long y2), .second, .val (.long y3), .second, .val (.long y4), .second, .val (.int (2 : Int32)), .val (.int sel), .val (.ref b6), .val (.long qq), .second, .unset] [(.int (1 : Int32))]))
          refine own_go (fun _ q => XS.goto X22.here hx rfl (pc0 := 227) (pc' := 231) rfl (hb hby at_227) (by decide) (by decide) q) ?_
          show own_Go _ _ _ _ _ _ _ (T22.setTop (mkF m 231 #[.val (.long q0), .second, .val (.long q1), .second, .val (.long q2), .second, .val (.long q3), .second, .val (.long q4), .second, .val (.int p5), .val (.long y0), .second, .val (.long y1), .second, .val (.long y2), .second, .val (.long y3), .second, .val (.long y4), .second, .val (.int (2 : Int32)), .val (.int sel), .val (.ref b6), .val (.long qq), .second, .unset] [(.int (1 : Int32))]))
          refine own_go (fun _ q => XS.istore X22.here hx rfl (hb hby at_231) rfl (l' := #[.val (.long q0), .second, .val (.long q1), .second, .val (.long q2), .second, .val (.long q3), .second, .val (.long q4), .second, .val (.int p5), .val (.long y0), .second, .val (.long y1), .second, .val (.long y2), .second, .val (.long y3), .second, .val (.long y4), .second, .val (.int (2 : Int32)), .val (.int sel), .val (.ref b6), .val (.long qq), .second, .val (.int (1 : Int32))]) rfl q) ?_
          show own_Go _ _ _ _ _ _ _ (T22.setTop (mkF m 233 #[.val (.long q0), .second, .val (.long q1), .second, .val (.long q2), .second, .val (.long q3), .second, .val (.long q4), .second, .val (.int p5), .val (.long y0), .second, .val (.long y1), .second, .val (.long y2), .second, .val (.long y3), .second, .val (.long y4), .second, .val (.int (2 : Int32)), .val (.int sel), .val (.ref b6), .val (.long qq), .second, .val (.int (1 : Int32))] []))
          refine own_go (fun _ q => XS.aload X22.here hx rfl (hb hby at_233) rfl rfl q) ?_
          show own_Go _ _ _ _ _ _ _ (T22.setTop (mkF m 235 #[.val (.long q0), .second, .val (.long q1), .second, .val (.long q2), .second, .val (.long q3), .second, .val (.long q4), .second, .val (.int p5), .val (.long y0), .second, .val (.long y1), .second, .val (.long y2), .second, .val (.long y3), .second, .val (.long y4), .second, .val (.int (2 : Int32)), .val (.int sel), .val (.ref b6), .val (.long qq), .second, .val (.int (1 : Int32))] [(.ref b6)]))
          refine own_go (fun _ q => XS.lload X22.here hx rfl (hb hby at_235) rfl q) ?_
          show own_Go _ _ _ _ _ _ _ (T22.setTop (mkF m 237 #[.val (.long q0), .second, .val (.long q1), .second, .val (.long q2), .second, .val (.long q3), .second, .val (.long q4), .second, .val (.int p5), .val (.long y0), .second, .val (.long y1), .second, .val (.long y2), .second, .val (.long y3), .second, .val (.long y4), .second, .val (.int (2 : Int32)), .val (.int sel), .val (.ref b6), .val (.long qq), .second, .val (.int (1 : Int32))] [(.long qq), (.ref b6)]))
          refine own_virtual X22 hx hZ hown (hw _ (List.mem_of_getElem? (i := 31) rfl)) (hw _ (List.mem_of_getElem? (i := 32) rfl)) (hw _ (List.mem_of_getElem? (i := 34) rfl)) (hw _ (List.mem_of_getElem? (i := 33) rfl)) (hw _ (List.mem_of_getElem? (i := 7) rfl)) (hw _ (List.mem_of_getElem? (i := 35) rfl)) (by decide) rfl (a := b6) E_2_z (argsL := [(.long qq)]) (rest := []) (rm6 l Z a0 hw [] b6 tb_2_z Ln_2_z tbl_2_z qq (fun y => (fun y => (fun _ => False) y ∨ y = y0) y ∨ y = y1) sz_2_z T22.heap n0 Z22 E_2_z Ft_2_z At_2_z (by rcases hLA_2_z with ⟨_, q, _⟩ | ⟨_, q, _⟩ <;> omega) (by have := I_2_z.2.2; rcases hLA_2_z with ⟨_, q, _⟩ | ⟨_, q, _⟩ <;> omega) I_2_z) 0 (by decide) (by decide) (by decide) (by decide) (by rw [hml]; rfl) pd_5 rfl rfl (Nat.le_of_eq rfl) (hb hby at_237) rfl ?_
          intro v26 T26 L26 X26 hQ26
          obtain ⟨r, rfl, N26q, e26q, hrr⟩ := hQ26
          have N26 := Fr.app N22 N26q
          show own_Go _ _ _ _ _ _ _ (T26.setTop (mkF m 240 #[.val (.long q0), .second, .val (.long q1), .second, .val (.long q2), .second, .val (.long q3), .second, .val (.long q4), .second, .val (.int p5), .val (.long y0), .second, .val (.long y1), .second, .val (.long y2), .second, .val (.long y3), .second, .val (.long y4), .second, .val (.int (2 : Int32)), .val (.int sel), .val (.ref b6), .val (.long qq), .second, .val (.int (1 : Int32))] [(.int r)]))
          refine own_go (fun _ q => XS.iload X26.here hx rfl (hb hby at_240) rfl q) ?_
          show own_Go _ _ _ _ _ _ _ (T26.setTop (mkF m 242 #[.val (.long q0), .second, .val (.long q1), .second, .val (.long q2), .second, .val (.long q3), .second, .val (.long q4), .second, .val (.int p5), .val (.long y0), .second, .val (.long y1), .second, .val (.long y2), .second, .val (.long y3), .second, .val (.long y4), .second, .val (.int (2 : Int32)), .val (.int sel), .val (.ref b6), .val (.long qq), .second, .val (.int (1 : Int32))] [(.int (1 : Int32)), (.int r)]))
          refine own_go (fun _ q => XS.icmpNo X26.here hx rfl (hb hby at_242) rfl (teq (by rcases hrr with ⟨rfl, u⟩ | ⟨rfl, u⟩; (· first | rfl | (exfalso; simp_all)); (· first | rfl | (exfalso; simp_all)))).2 q) ?_
          show own_Go _ _ _ _ _ _ _ (T26.setTop (mkF m 245 #[.val (.long q0), .second, .val (.long q1), .second, .val (.long q2), .second, .val (.long q3), .second, .val (.long q4), .second, .val (.int p5), .val (.long y0), .second, .val (.long y1), .second, .val (.long y2), .second, .val (.long y3), .second, .val (.long y4), .second, .val (.int (2 : Int32)), .val (.int sel), .val (.ref b6), .val (.long qq), .second, .val (.int (1 : Int32))] []))
          refine own_go (fun _ q => XS.iconst X26.here hx rfl (hb hby at_245) q) ?_
          show own_Go _ _ _ _ _ _ _ (T26.setTop (mkF m 246 #[.val (.long q0), .second, .val (.long q1), .second, .val (.long q2), .second, .val (.long q3), .second, .val (.long q4), .second, .val (.int p5), .val (.long y0), .second, .val (.long y1), .second, .val (.long y2), .second, .val (.long y3), .second, .val (.long y4), .second, .val (.int (2 : Int32)), .val (.int sel), .val (.ref b6), .val (.long qq), .second, .val (.int (1 : Int32))] [(.int (1 : Int32))]))
          refine own_go (fun _ q => XS.goto X26.here hx rfl (pc0 := 246) (pc' := 250) rfl (hb hby at_246) (by decide) (by decide) q) ?_
          show own_Go _ _ _ _ _ _ _ (T26.setTop (mkF m 250 #[.val (.long q0), .second, .val (.long q1), .second, .val (.long q2), .second, .val (.long q3), .second, .val (.long q4), .second, .val (.int p5), .val (.long y0), .second, .val (.long y1), .second, .val (.long y2), .second, .val (.long y3), .second, .val (.long y4), .second, .val (.int (2 : Int32)), .val (.int sel), .val (.ref b6), .val (.long qq), .second, .val (.int (1 : Int32))] [(.int (1 : Int32))]))
          exact own_retZ X26 hx hlk hret (hb hby at_250) (by decide) (by decide) (by decide) ⟨rfl, N26⟩
        · refine own_go (fun _ q => XS.ifNo X22.here hx rfl (hb hby at_195) rfl ((if0 _ _).trans (feq (fun q => hc195_25 ((lw_eq _ _).mp q))).1) q) ?_
          show own_Go _ _ _ _ _ _ _ (T22.setTop (mkF m 198 #[.val (.long q0), .second, .val (.long q1), .second, .val (.long q2), .second, .val (.long q3), .second, .val (.long q4), .second, .val (.int p5), .val (.long y0), .second, .val (.long y1), .second, .val (.long y2), .second, .val (.long y3), .second, .val (.long y4), .second, .val (.int (2 : Int32)), .val (.int sel), .val (.ref b6), .val (.long qq), .second, .unset] []))
          refine own_go (fun _ q => XS.iload X22.here hx rfl (hb hby at_198) rfl q) ?_
          show own_Go _ _ _ _ _ _ _ (T22.setTop (mkF m 200 #[.val (.long q0), .second, .val (.long q1), .second, .val (.long q2), .second, .val (.long q3), .second, .val (.long q4), .second, .val (.int p5), .val (.long y0), .second, .val (.long y1), .second, .val (.long y2), .second, .val (.long y3), .second, .val (.long y4), .second, .val (.int (2 : Int32)), .val (.int sel), .val (.ref b6), .val (.long qq), .second, .unset] [(.int (2 : Int32))]))
          refine own_go (fun _ q => XS.iconst X22.here hx rfl (hb hby at_200) q) ?_
          show own_Go _ _ _ _ _ _ _ (T22.setTop (mkF m 201 #[.val (.long q0), .second, .val (.long q1), .second, .val (.long q2), .second, .val (.long q3), .second, .val (.long q4), .second, .val (.int p5), .val (.long y0), .second, .val (.long y1), .second, .val (.long y2), .second, .val (.long y3), .second, .val (.long y4), .second, .val (.int (2 : Int32)), .val (.int sel), .val (.ref b6), .val (.long qq), .second, .unset] [(.int (3 : Int32)), (.int (2 : Int32))]))
          refine own_go (fun _ q => XS.icmpYes X22.here hx rfl (pc0 := 201) (pc' := 212) rfl (hb hby at_201) rfl (tlt (by decide : (2 : Int32) < (3 : Int32))).1 (by decide) (by decide) q) ?_
          show own_Go _ _ _ _ _ _ _ (T22.setTop (mkF m 212 #[.val (.long q0), .second, .val (.long q1), .second, .val (.long q2), .second, .val (.long q3), .second, .val (.long q4), .second, .val (.int p5), .val (.long y0), .second, .val (.long y1), .second, .val (.long y2), .second, .val (.long y3), .second, .val (.long y4), .second, .val (.int (2 : Int32)), .val (.int sel), .val (.ref b6), .val (.long qq), .second, .unset] []))
          refine own_go (fun _ q => XS.iload X22.here hx rfl (hb hby at_212) rfl q) ?_
          show own_Go _ _ _ _ _ _ _ (T22.setTop (mkF m 214 #[.val (.long q0), .second, .val (.long q1), .second, .val (.long q2), .second, .val (.long q3), .second, .val (.long q4), .second, .val (.int p5), .val (.long y0), .second, .val (.long y1), .second, .val (.long y2), .second, .val (.long y3), .second, .val (.long y4), .second, .val (.int (2 : Int32)), .val (.int sel), .val (.ref b6), .val (.long qq), .second, .unset] [(.int (2 : Int32))]))
          refine own_go (fun _ q => XS.iconst X22.here hx rfl (hb hby at_214) q) ?_
          show own_Go _ _ _ _ _ _ _ (T22.setTop (mkF m 215 #[.val (.long q0), .second, .val (.long q1), .second, .val (.long q2), .second, .val (.long q3), .second, .val (.long q4), .second, .val (.int p5), .val (.long y0), .second, .val (.long y1), .second, .val (.long y2), .second, .val (.long y3), .second, .val (.long y4), .second, .val (.int (2 : Int32)), .val (.int sel), .val (.ref b6), .val (.long qq), .second, .unset] [(.int (4 : Int32)), (.int (2 : Int32))]))
          refine own_go (fun _ q => XS.icmpYes X22.here hx rfl (pc0 := 215) (pc' := 230) rfl (hb hby at_215) rfl (tlt (by decide : (2 : Int32) < (4 : Int32))).1 (by decide) (by decide) q) ?_
          show own_Go _ _ _ _ _ _ _ (T22.setTop (mkF m 230 #[.val (.long q0), .second, .val (.long q1), .second, .val (.long q2), .second, .val (.long q3), .second, .val (.long q4), .second, .val (.int p5), .val (.long y0), .second, .val (.long y1), .second, .val (.long y2), .second, .val (.long y3), .second, .val (.long y4), .second, .val (.int (2 : Int32)), .val (.int sel), .val (.ref b6), .val (.long qq), .second, .unset] []))
          refine own_go (fun _ q => XS.iconst X22.here hx rfl (hb hby at_230) q) ?_
          show own_Go _ _ _ _ _ _ _ (T22.setTop (mkF m 231 #[.val (.long q0), .second, .val (.long q1), .second, .val (.long q2), .second, .val (.long q3), .second, .val (.long q4), .second, .val (.int p5), .val (.long y0), .second, .val (.long y1), .second, .val (.long y2), .second, .val (.long y3), .second, .val (.long y4), .second, .val (.int (2 : Int32)), .val (.int sel), .val (.ref b6), .val (.long qq), .second, .unset] [(.int (0 : Int32))]))
          refine own_go (fun _ q => XS.istore X22.here hx rfl (hb hby at_231) rfl (l' := #[.val (.long q0), .second, .val (.long q1), .second, .val (.long q2), .second, .val (.long q3), .second, .val (.long q4), .second, .val (.int p5), .val (.long y0), .second, .val (.long y1), .second, .val (.long y2), .second, .val (.long y3), .second, .val (.long y4), .second, .val (.int (2 : Int32)), .val (.int sel), .val (.ref b6), .val (.long qq), .second, .val (.int (0 : Int32))]) rfl q) ?_
          show own_Go _ _ _ _ _ _ _ (T22.setTop (mkF m 233 #[.val (.long q0), .second, .val (.long q1), .second, .val (.long q2), .second, .val (.long q3), .second, .val (.long q4), .second, .val (.int p5), .val (.long y0), .second, .val (.long y1), .second, .val (.long y2), .second, .val (.long y3), .second, .val (.long y4), .second, .val (.int (2 : Int32)), .val (.int sel), .val (.ref b6), .val (.long qq), .second, .val (.int (0 : Int32))] []))
          refine own_go (fun _ q => XS.aload X22.here hx rfl (hb hby at_233) rfl rfl q) ?_
          show own_Go _ _ _ _ _ _ _ (T22.setTop (mkF m 235 #[.val (.long q0), .second, .val (.long q1), .second, .val (.long q2), .second, .val (.long q3), .second, .val (.long q4), .second, .val (.int p5), .val (.long y0), .second, .val (.long y1), .second, .val (.long y2), .second, .val (.long y3), .second, .val (.long y4), .second, .val (.int (2 : Int32)), .val (.int sel), .val (.ref b6), .val (.long qq), .second, .val (.int (0 : Int32))] [(.ref b6)]))
          refine own_go (fun _ q => XS.lload X22.here hx rfl (hb hby at_235) rfl q) ?_
          show own_Go _ _ _ _ _ _ _ (T22.setTop (mkF m 237 #[.val (.long q0), .second, .val (.long q1), .second, .val (.long q2), .second, .val (.long q3), .second, .val (.long q4), .second, .val (.int p5), .val (.long y0), .second, .val (.long y1), .second, .val (.long y2), .second, .val (.long y3), .second, .val (.long y4), .second, .val (.int (2 : Int32)), .val (.int sel), .val (.ref b6), .val (.long qq), .second, .val (.int (0 : Int32))] [(.long qq), (.ref b6)]))
          refine own_virtual X22 hx hZ hown (hw _ (List.mem_of_getElem? (i := 31) rfl)) (hw _ (List.mem_of_getElem? (i := 32) rfl)) (hw _ (List.mem_of_getElem? (i := 34) rfl)) (hw _ (List.mem_of_getElem? (i := 33) rfl)) (hw _ (List.mem_of_getElem? (i := 7) rfl)) (hw _ (List.mem_of_getElem? (i := 35) rfl)) (by decide) rfl (a := b6) E_2_z (argsL := [(.long qq)]) (rest := []) (rm6 l Z a0 hw [] b6 tb_2_z Ln_2_z tbl_2_z qq (fun y => (fun y => (fun _ => False) y ∨ y = y0) y ∨ y = y1) sz_2_z T22.heap n0 Z22 E_2_z Ft_2_z At_2_z (by rcases hLA_2_z with ⟨_, q, _⟩ | ⟨_, q, _⟩ <;> omega) (by have := I_2_z.2.2; rcases hLA_2_z with ⟨_, q, _⟩ | ⟨_, q, _⟩ <;> omega) I_2_z) 0 (by decide) (by decide) (by decide) (by decide) (by rw [hml]; rfl) pd_5 rfl rfl (Nat.le_of_eq rfl) (hb hby at_237) rfl ?_
          intro v27 T27 L27 X27 hQ27
          obtain ⟨r, rfl, N27q, e27q, hrr⟩ := hQ27
          have N27 := Fr.app N22 N27q
          show own_Go _ _ _ _ _ _ _ (T27.setTop (mkF m 240 #[.val (.long q0), .second, .val (.long q1), .second, .val (.long q2), .second, .val (.long q3), .second, .val (.long q4), .second, .val (.int p5), .val (.long y0), .second, .val (.long y1), .second, .val (.long y2), .second, .val (.long y3), .second, .val (.long y4), .second, .val (.int (2 : Int32)), .val (.int sel), .val (.ref b6), .val (.long qq), .second, .val (.int (0 : Int32))] [(.int r)]))
          refine own_go (fun _ q => XS.iload X27.here hx rfl (hb hby at_240) rfl q) ?_
          show own_Go _ _ _ _ _ _ _ (T27.setTop (mkF m 242 #[.val (.long q0), .second, .val (.long q1), .second, .val (.long q2), .second, .val (.long q3), .second, .val (.long q4), .second, .val (.int p5), .val (.long y0), .second, .val (.long y1), .second, .val (.long y2), .second, .val (.long y3), .second, .val (.long y4), .second, .val (.int (2 : Int32)), .val (.int sel), .val (.ref b6), .val (.long qq), .second, .val (.int (0 : Int32))] [(.int (0 : Int32)), (.int r)]))
          refine own_go (fun _ q => XS.icmpNo X27.here hx rfl (hb hby at_242) rfl (teq (by rcases hrr with ⟨rfl, u⟩ | ⟨rfl, u⟩; (· first | rfl | (exfalso; simp_all)); (· first | rfl | (exfalso; simp_all)))).2 q) ?_
          show own_Go _ _ _ _ _ _ _ (T27.setTop (mkF m 245 #[.val (.long q0), .second, .val (.long q1), .second, .val (.long q2), .second, .val (.long q3), .second, .val (.long q4), .second, .val (.int p5), .val (.long y0), .second, .val (.long y1), .second, .val (.long y2), .second, .val (.long y3), .second, .val (.long y4), .second, .val (.int (2 : Int32)), .val (.int sel), .val (.ref b6), .val (.long qq), .second, .val (.int (0 : Int32))] []))
          refine own_go (fun _ q => XS.iconst X27.here hx rfl (hb hby at_245) q) ?_
          show own_Go _ _ _ _ _ _ _ (T27.setTop (mkF m 246 #[.val (.long q0), .second, .val (.long q1), .second, .val (.long q2), .second, .val (.long q3), .second, .val (.long q4), .second, .val (.int p5), .val (.long y0), .second, .val (.long y1), .second, .val (.long y2), .second, .val (.long y3), .second, .val (.long y4), .second, .val (.int (2 : Int32)), .val (.int sel), .val (.ref b6), .val (.long qq), .second, .val (.int (0 : Int32))] [(.int (1 : Int32))]))
          refine own_go (fun _ q => XS.goto X27.here hx rfl (pc0 := 246) (pc' := 250) rfl (hb hby at_246) (by decide) (by decide) q) ?_
          show own_Go _ _ _ _ _ _ _ (T27.setTop (mkF m 250 #[.val (.long q0), .second, .val (.long q1), .second, .val (.long q2), .second, .val (.long q3), .second, .val (.long q4), .second, .val (.int p5), .val (.long y0), .second, .val (.long y1), .second, .val (.long y2), .second, .val (.long y3), .second, .val (.long y4), .second, .val (.int (2 : Int32)), .val (.int sel), .val (.ref b6), .val (.long qq), .second, .val (.int (0 : Int32))] [(.int (1 : Int32))]))
          exact own_retZ X27 hx hlk hret (hb hby at_250) (by decide) (by decide) (by decide) ⟨rfl, N27⟩
    refine own_go (fun _ q => XS.iload X22.here hx rfl (hb hby at_122) rfl q) ?_
    show own_Go _ _ _ _ _ _ _ (T22.setTop (mkF m 124 #[.val (.long q0), .second, .val (.long q1), .second, .val (.long q2), .second, .val (.long q3), .second, .val (.long q4), .second, .val (.int p5), .val (.long y0), .second, .val (.long y1), .second, .val (.long y2), .second, .val (.long y3), .second, .val (.long y4), .second, .val (.int (2 : Int32)), .val (.int sel), .val (.ref b6), .val (.long y4), .second, .unset] [(.int sel)]))
    by_cases hc124_28 : sel = (0 : Int32)
    · refine own_go (fun _ q => XS.ifNo X22.here hx rfl (hb hby at_124) rfl ((if0 _ _).trans (teq hc124_28).2) q) ?_
      show own_Go _ _ _ _ _ _ _ (T22.setTop (mkF m 127 #[.val (.long q0), .second, .val (.long q1), .second, .val (.long q2), .second, .val (.long q3), .second, .val (.long q4), .second, .val (.int p5), .val (.long y0), .second, .val (.long y1), .second, .val (.long y2), .second, .val (.long y3), .second, .val (.long y4), .second, .val (.int (2 : Int32)), .val (.int sel), .val (.ref b6), .val (.long y4), .second, .unset] []))
      refine own_go (fun _ q => XS.lload X22.here hx rfl (hb hby at_127) rfl q) ?_
      show own_Go _ _ _ _ _ _ _ (T22.setTop (mkF m 129 #[.val (.long q0), .second, .val (.long q1), .second, .val (.long q2), .second, .val (.long q3), .second, .val (.long q4), .second, .val (.int p5), .val (.long y0), .second, .val (.long y1), .second, .val (.long y2), .second, .val (.long y3), .second, .val (.long y4), .second, .val (.int (2 : Int32)), .val (.int sel), .val (.ref b6), .val (.long y4), .second, .unset] [(.long y0)]))
      refine own_go (fun _ q => XS.lstore X22.here hx rfl (hb hby at_129) rfl (l' := #[.val (.long q0), .second, .val (.long q1), .second, .val (.long q2), .second, .val (.long q3), .second, .val (.long q4), .second, .val (.int p5), .val (.long y0), .second, .val (.long y1), .second, .val (.long y2), .second, .val (.long y3), .second, .val (.long y4), .second, .val (.int (2 : Int32)), .val (.int sel), .val (.ref b6), .val (.long y0), .second, .unset]) rfl q) ?_
      show own_Go _ _ _ _ _ _ _ (T22.setTop (mkF m 131 #[.val (.long q0), .second, .val (.long q1), .second, .val (.long q2), .second, .val (.long q3), .second, .val (.long q4), .second, .val (.int p5), .val (.long y0), .second, .val (.long y1), .second, .val (.long y2), .second, .val (.long y3), .second, .val (.long y4), .second, .val (.int (2 : Int32)), .val (.int sel), .val (.ref b6), .val (.long y0), .second, .unset] []))
      refine own_go (fun _ q => XS.goto X22.here hx rfl (pc0 := 131) (pc' := 170) rfl (hb hby at_131) (by decide) (by decide) q) ?_
      show own_Go _ _ _ _ _ _ _ (T22.setTop (mkF m 170 #[.val (.long q0), .second, .val (.long q1), .second, .val (.long q2), .second, .val (.long q3), .second, .val (.long q4), .second, .val (.int p5), .val (.long y0), .second, .val (.long y1), .second, .val (.long y2), .second, .val (.long y3), .second, .val (.long y4), .second, .val (.int (2 : Int32)), .val (.int sel), .val (.ref b6), .val (.long y0), .second, .unset] []))
      exact join _
    · refine own_go (fun _ q => XS.ifYes X22.here hx rfl (pc0 := 124) (pc' := 134) rfl (hb hby at_124) rfl ((if0 _ _).trans (feq hc124_28).2) (by decide) (by decide) q) ?_
      show own_Go _ _ _ _ _ _ _ (T22.setTop (mkF m 134 #[.val (.long q0), .second, .val (.long q1), .second, .val (.long q2), .second, .val (.long q3), .second, .val (.long q4), .second, .val (.int p5), .val (.long y0), .second, .val (.long y1), .second, .val (.long y2), .second, .val (.long y3), .second, .val (.long y4), .second, .val (.int (2 : Int32)), .val (.int sel), .val (.ref b6), .val (.long y4), .second, .unset] []))
      refine own_go (fun _ q => XS.iload X22.here hx rfl (hb hby at_134) rfl q) ?_
      show own_Go _ _ _ _ _ _ _ (T22.setTop (mkF m 136 #[.val (.long q0), .second, .val (.long q1), .second, .val (.long q2), .second, .val (.long q3), .second, .val (.long q4), .second, .val (.int p5), .val (.long y0), .second, .val (.long y1), .second, .val (.long y2), .second, .val (.long y3), .second, .val (.long y4), .second, .val (.int (2 : Int32)), .val (.int sel), .val (.ref b6), .val (.long y4), .second, .unset] [(.int sel)]))
      refine own_go (fun _ q => XS.iconst X22.here hx rfl (hb hby at_136) q) ?_
      show own_Go _ _ _ _ _ _ _ (T22.setTop (mkF m 137 #[.val (.long q0), .second, .val (.long q1), .second, .val (.long q2), .second, .val (.long q3), .second, .val (.long q4), .second, .val (.int p5), .val (.long y0), .second, .val (.long y1), .second, .val (.long y2), .second, .val (.long y3), .second, .val (.long y4), .second, .val (.int (2 : Int32)), .val (.int sel), .val (.ref b6), .val (.long y4), .second, .unset] [(.int (1 : Int32)), (.int sel)]))
      by_cases hc137_29 : sel = (1 : Int32)
      · refine own_go (fun _ q => XS.icmpNo X22.here hx rfl (hb hby at_137) rfl (teq hc137_29).2 q) ?_
        show own_Go _ _ _ _ _ _ _ (T22.setTop (mkF m 140 #[.val (.long q0), .second, .val (.long q1), .second, .val (.long q2), .second, .val (.long q3), .second, .val (.long q4), .second, .val (.int p5), .val (.long y0), .second, .val (.long y1), .second, .val (.long y2), .second, .val (.long y3), .second, .val (.long y4), .second, .val (.int (2 : Int32)), .val (.int sel), .val (.ref b6), .val (.long y4), .second, .unset] []))
        refine own_go (fun _ q => XS.lload X22.here hx rfl (hb hby at_140) rfl q) ?_
        show own_Go _ _ _ _ _ _ _ (T22.setTop (mkF m 142 #[.val (.long q0), .second, .val (.long q1), .second, .val (.long q2), .second, .val (.long q3), .second, .val (.long q4), .second, .val (.int p5), .val (.long y0), .second, .val (.long y1), .second, .val (.long y2), .second, .val (.long y3), .second, .val (.long y4), .second, .val (.int (2 : Int32)), .val (.int sel), .val (.ref b6), .val (.long y4), .second, .unset] [(.long y1)]))
        refine own_go (fun _ q => XS.lstore X22.here hx rfl (hb hby at_142) rfl (l' := #[.val (.long q0), .second, .val (.long q1), .second, .val (.long q2), .second, .val (.long q3), .second, .val (.long q4), .second, .val (.int p5), .val (.long y0), .second, .val (.long y1), .second, .val (.long y2), .second, .val (.long y3), .second, .val (.long y4), .second, .val (.int (2 : Int32)), .val (.int sel), .val (.ref b6), .val (.long y1), .second, .unset]) rfl q) ?_
        show own_Go _ _ _ _ _ _ _ (T22.setTop (mkF m 144 #[.val (.long q0), .second, .val (.long q1), .second, .val (.long q2), .second, .val (.long q3), .second, .val (.long q4), .second, .val (.int p5), .val (.long y0), .second, .val (.long y1), .second, .val (.long y2), .second, .val (.long y3), .second, .val (.long y4), .second, .val (.int (2 : Int32)), .val (.int sel), .val (.ref b6), .val (.long y1), .second, .unset] []))
        refine own_go (fun _ q => XS.goto X22.here hx rfl (pc0 := 144) (pc' := 170) rfl (hb hby at_144) (by decide) (by decide) q) ?_
        show own_Go _ _ _ _ _ _ _ (T22.setTop (mkF m 170 #[.val (.long q0), .second, .val (.long q1), .second, .val (.long q2), .second, .val (.long q3), .second, .val (.long q4), .second, .val (.int p5), .val (.long y0), .second, .val (.long y1), .second, .val (.long y2), .second, .val (.long y3), .second, .val (.long y4), .second, .val (.int (2 : Int32)), .val (.int sel), .val (.ref b6), .val (.long y1), .second, .unset] []))
        exact join _
      · refine own_go (fun _ q => XS.icmpYes X22.here hx rfl (pc0 := 137) (pc' := 147) rfl (hb hby at_137) rfl (feq hc137_29).2 (by decide) (by decide) q) ?_
        show own_Go _ _ _ _ _ _ _ (T22.setTop (mkF m 147 #[.val (.long q0), .second, .val (.long q1), .second, .val (.long q2), .second, .val (.long q3), .second, .val (.long q4), .second, .val (.int p5), .val (.long y0), .second, .val (.long y1), .second, .val (.long y2), .second, .val (.long y3), .second, .val (.long y4), .second, .val (.int (2 : Int32)), .val (.int sel), .val (.ref b6), .val (.long y4), .second, .unset] []))
        refine own_go (fun _ q => XS.iload X22.here hx rfl (hb hby at_147) rfl q) ?_
        show own_Go _ _ _ _ _ _ _ (T22.setTop (mkF m 149 #[.val (.long q0), .second, .val (.long q1), .second, .val (.long q2), .second, .val (.long q3), .second, .val (.long q4), .second, .val (.int p5), .val (.long y0), .second, .val (.long y1), .second, .val (.long y2), .second, .val (.long y3), .second, .val (.long y4), .second, .val (.int (2 : Int32)), .val (.int sel), .val (.ref b6), .val (.long y4), .second, .unset] [(.int sel)]))
        refine own_go (fun _ q => XS.iconst X22.here hx rfl (hb hby at_149) q) ?_
        show own_Go _ _ _ _ _ _ _ (T22.setTop (mkF m 150 #[.val (.long q0), .second, .val (.long q1), .second, .val (.long q2), .second, .val (.long q3), .second, .val (.long q4), .second, .val (.int p5), .val (.long y0), .second, .val (.long y1), .second, .val (.long y2), .second, .val (.long y3), .second, .val (.long y4), .second, .val (.int (2 : Int32)), .val (.int sel), .val (.ref b6), .val (.long y4), .second, .unset] [(.int (2 : Int32)), (.int sel)]))
        by_cases hc150_30 : sel = (2 : Int32)
        · refine own_go (fun _ q => XS.icmpNo X22.here hx rfl (hb hby at_150) rfl (teq hc150_30).2 q) ?_
          show own_Go _ _ _ _ _ _ _ (T22.setTop (mkF m 153 #[.val (.long q0), .second, .val (.long q1), .second, .val (.long q2), .second, .val (.long q3), .second, .val (.long q4), .second, .val (.int p5), .val (.long y0), .second, .val (.long y1), .second, .val (.long y2), .second, .val (.long y3), .second, .val (.long y4), .second, .val (.int (2 : Int32)), .val (.int sel), .val (.ref b6), .val (.long y4), .second, .unset] []))
          refine own_go (fun _ q => XS.lload X22.here hx rfl (hb hby at_153) rfl q) ?_
          show own_Go _ _ _ _ _ _ _ (T22.setTop (mkF m 155 #[.val (.long q0), .second, .val (.long q1), .second, .val (.long q2), .second, .val (.long q3), .second, .val (.long q4), .second, .val (.int p5), .val (.long y0), .second, .val (.long y1), .second, .val (.long y2), .second, .val (.long y3), .second, .val (.long y4), .second, .val (.int (2 : Int32)), .val (.int sel), .val (.ref b6), .val (.long y4), .second, .unset] [(.long y2)]))
          refine own_go (fun _ q => XS.lstore X22.here hx rfl (hb hby at_155) rfl (l' := #[.val (.long q0), .second, .val (.long q1), .second, .val (.long q2), .second, .val (.long q3), .second, .val (.long q4), .second, .val (.int p5), .val (.long y0), .second, .val (.long y1), .second, .val (.long y2), .second, .val (.long y3), .second, .val (.long y4), .second, .val (.int (2 : Int32)), .val (.int sel), .val (.ref b6), .val (.long y2), .second, .unset]) rfl q) ?_
          show own_Go _ _ _ _ _ _ _ (T22.setTop (mkF m 157 #[.val (.long q0), .second, .val (.long q1), .second, .val (.long q2), .second, .val (.long q3), .second, .val (.long q4), .second, .val (.int p5), .val (.long y0), .second, .val (.long y1), .second, .val (.long y2), .second, .val (.long y3), .second, .val (.long y4), .second, .val (.int (2 : Int32)), .val (.int sel), .val (.ref b6), .val (.long y2), .second, .unset] []))
          refine own_go (fun _ q => XS.goto X22.here hx rfl (pc0 := 157) (pc' := 170) rfl (hb hby at_157) (by decide) (by decide) q) ?_
          show own_Go _ _ _ _ _ _ _ (T22.setTop (mkF m 170 #[.val (.long q0), .second, .val (.long q1), .second, .val (.long q2), .second, .val (.long q3), .second, .val (.long q4), .second, .val (.int p5), .val (.long y0), .second, .val (.long y1), .second, .val (.long y2), .second, .val (.long y3), .second, .val (.long y4), .second, .val (.int (2 : Int32)), .val (.int sel), .val (.ref b6), .val (.long y2), .second, .unset] []))
          exact join _
        · refine own_go (fun _ q => XS.icmpYes X22.here hx rfl (pc0 := 150) (pc' := 160) rfl (hb hby at_150) rfl (feq hc150_30).2 (by decide) (by decide) q) ?_
          show own_Go _ _ _ _ _ _ _ (T22.setTop (mkF m 160 #[.val (.long q0), .second, .val (.long q1), .second, .val (.long q2), .second, .val (.long q3), .second, .val (.long q4), .second, .val (.int p5), .val (.long y0), .second, .val (.long y1), .second, .val (.long y2), .second, .val (.long y3), .second, .val (.long y4), .second, .val (.int (2 : Int32)), .val (.int sel), .val (.ref b6), .val (.long y4), .second, .unset] []))
          refine own_go (fun _ q => XS.iload X22.here hx rfl (hb hby at_160) rfl q) ?_
          show own_Go _ _ _ _ _ _ _ (T22.setTop (mkF m 162 #[.val (.long q0), .second, .val (.long q1), .second, .val (.long q2), .second, .val (.long q3), .second, .val (.long q4), .second, .val (.int p5), .val (.long y0), .second, .val (.long y1), .second, .val (.long y2), .second, .val (.long y3), .second, .val (.long y4), .second, .val (.int (2 : Int32)), .val (.int sel), .val (.ref b6), .val (.long y4), .second, .unset] [(.int sel)]))
          refine own_go (fun _ q => XS.iconst X22.here hx rfl (hb hby at_162) q) ?_
          show own_Go _ _ _ _ _ _ _ (T22.setTop (mkF m 163 #[.val (.long q0), .second, .val (.long q1), .second, .val (.long q2), .second, .val (.long q3), .second, .val (.long q4), .second, .val (.int p5), .val (.long y0), .second, .val (.long y1), .second, .val (.long y2), .second, .val (.long y3), .second, .val (.long y4), .second, .val (.int (2 : Int32)), .val (.int sel), .val (.ref b6), .val (.long y4), .second, .unset] [(.int (3 : Int32)), (.int sel)]))
          by_cases hc163_31 : sel = (3 : Int32)
          · refine own_go (fun _ q => XS.icmpNo X22.here hx rfl (hb hby at_163) rfl (teq hc163_31).2 q) ?_
            show own_Go _ _ _ _ _ _ _ (T22.setTop (mkF m 166 #[.val (.long q0), .second, .val (.long q1), .second, .val (.long q2), .second, .val (.long q3), .second, .val (.long q4), .second, .val (.int p5), .val (.long y0), .second, .val (.long y1), .second, .val (.long y2), .second, .val (.long y3), .second, .val (.long y4), .second, .val (.int (2 : Int32)), .val (.int sel), .val (.ref b6), .val (.long y4), .second, .unset] []))
            refine own_go (fun _ q => XS.lload X22.here hx rfl (hb hby at_166) rfl q) ?_
            show own_Go _ _ _ _ _ _ _ (T22.setTop (mkF m 168 #[.val (.long q0), .second, .val (.long q1), .second, .val (.long q2), .second, .val (.long q3), .second, .val (.long q4), .second, .val (.int p5), .val (.long y0), .second, .val (.long y1), .second, .val (.long y2), .second, .val (.long y3), .second, .val (.long y4), .second, .val (.int (2 : Int32)), .val (.int sel), .val (.ref b6), .val (.long y4), .second, .unset] [(.long y3)]))
            refine own_go (fun _ q => XS.lstore X22.here hx rfl (hb hby at_168) rfl (l' := #[.val (.long q0), .second, .val (.long q1), .second, .val (.long q2), .second, .val (.long q3), .second, .val (.long q4), .second, .val (.int p5), .val (.long y0), .second, .val (.long y1), .second, .val (.long y2), .second, .val (.long y3), .second, .val (.long y4), .second, .val (.int (2 : Int32)), .val (.int sel), .val (.ref b6), .val (.long y3), .second, .unset]) rfl q) ?_
            show own_Go _ _ _ _ _ _ _ (T22.setTop (mkF m 170 #[.val (.long q0), .second, .val (.long q1), .second, .val (.long q2), .second, .val (.long q3), .second, .val (.long q4), .second, .val (.int p5), .val (.long y0), .second, .val (.long y1), .second, .val (.long y2), .second, .val (.long y3), .second, .val (.long y4), .second, .val (.int (2 : Int32)), .val (.int sel), .val (.ref b6), .val (.long y3), .second, .unset] []))
            exact join _
          · refine own_go (fun _ q => XS.icmpYes X22.here hx rfl (pc0 := 163) (pc' := 170) rfl (hb hby at_163) rfl (feq hc163_31).2 (by decide) (by decide) q) ?_
            show own_Go _ _ _ _ _ _ _ (T22.setTop (mkF m 170 #[.val (.long q0), .second, .val (.long q1), .second, .val (.long q2), .second, .val (.long q3), .second, .val (.long q4), .second, .val (.int p5), .val (.long y0), .second, .val (.long y1), .second, .val (.long y2), .second, .val (.long y3), .second, .val (.long y4), .second, .val (.int (2 : Int32)), .val (.int sel), .val (.ref b6), .val (.long y4), .second, .unset] []))
            exact join _
  · rw [q]
    show own_Go _ _ _ _ _ _ _ (T7.setTop (mkF m 65 #[.val (.long q0), .second, .val (.long q1), .second, .val (.long q2), .second, .val (.long q3), .second, .val (.long q4), .second, .val (.int p5), .val (.long y0), .second, .val (.long y1), .second, .val (.long y2), .second, .val (.long y3), .second, .val (.long y4), .second, .val (.int (3 : Int32)), .val (.int sel), .val (.ref b6), .unset, .unset, .unset] [(.int (1 : Int32)), (.int (3 : Int32))]))
    refine own_go (fun _ q => XS.icmpNo X7.here hx rfl (hb hby at_65) rfl (flt (by decide : ¬ ((3 : Int32) < (1 : Int32)))).1 q) ?_
    show own_Go _ _ _ _ _ _ _ (T7.setTop (mkF m 68 #[.val (.long q0), .second, .val (.long q1), .second, .val (.long q2), .second, .val (.long q3), .second, .val (.long q4), .second, .val (.int p5), .val (.long y0), .second, .val (.long y1), .second, .val (.long y2), .second, .val (.long y3), .second, .val (.long y4), .second, .val (.int (3 : Int32)), .val (.int sel), .val (.ref b6), .unset, .unset, .unset] []))
    refine own_go (fun _ q => XS.aload X7.here hx rfl (hb hby at_68) rfl rfl q) ?_
    show own_Go _ _ _ _ _ _ _ (T7.setTop (mkF m 70 #[.val (.long q0), .second, .val (.long q1), .second, .val (.long q2), .second, .val (.long q3), .second, .val (.long q4), .second, .val (.int p5), .val (.long y0), .second, .val (.long y1), .second, .val (.long y2), .second, .val (.long y3), .second, .val (.long y4), .second, .val (.int (3 : Int32)), .val (.int sel), .val (.ref b6), .unset, .unset, .unset] [(.ref b6)]))
    refine own_go (fun _ q => XS.lload X7.here hx rfl (hb hby at_70) rfl q) ?_
    show own_Go _ _ _ _ _ _ _ (T7.setTop (mkF m 72 #[.val (.long q0), .second, .val (.long q1), .second, .val (.long q2), .second, .val (.long q3), .second, .val (.long q4), .second, .val (.int p5), .val (.long y0), .second, .val (.long y1), .second, .val (.long y2), .second, .val (.long y3), .second, .val (.long y4), .second, .val (.int (3 : Int32)), .val (.int sel), .val (.ref b6), .unset, .unset, .unset] [(.long y0), (.ref b6)]))
    obtain ⟨tb_3_0, ad_3_0, Ln_3_0, AL_3_0, sz_3_0, tbl_3_0, add_3_0, zs_3_0, E_3_0, Ft_3_0, Fa_3_0, Fs_3_0, At_3_0, Aa_3_0, go_3_0, gt_3_0, ga_3_0, neta_3_0, neot_3_0, neoa_3_0, hzs_3_0, hk_3_0, hLA_3_0, I_3_0, HA_3_0⟩ := St7
    refine own_virtual X7 hx hZ hown (hw _ (List.mem_of_getElem? (i := 19) rfl)) (hw _ (List.mem_of_getElem? (i := 20) rfl)) (hw _ (List.mem_of_getElem? (i := 22) rfl)) (hw _ (List.mem_of_getElem? (i := 21) rfl)) (hw _ (List.mem_of_getElem? (i := 7) rfl)) (hw _ (List.mem_of_getElem? (i := 23) rfl)) (by decide) rfl (a := b6) E_3_0 (argsL := [(.long y0)]) (rest := []) (rm4 l Z a0 hw [] b6 tb_3_0 ad_3_0 Ln_3_0 AL_3_0 sz_3_0 tbl_3_0 add_3_0 zs_3_0 y0 (fun _ => False) T7.heap n0 Z7 E_3_0 Ft_3_0 Fa_3_0 Fs_3_0 At_3_0 Aa_3_0 go_3_0 gt_3_0 ga_3_0 neta_3_0 neot_3_0 neoa_3_0 hzs_3_0 (by omega) hLA_3_0 I_3_0 HA_3_0 hy0) 0 (by decide) (by decide) (by decide) (by decide) (by rw [hml]; rfl) pd_5 rfl rfl (Nat.le_of_eq rfl) (hb hby at_72) rfl ?_
    intro v32 T32 L32 X32 hQ32
    obtain ⟨r32, rfl, N32q, St32, zz32⟩ := hQ32
    have N32 := Fr.app N7 N32q
    show own_Go _ _ _ _ _ _ _ (T32.setTop (mkF m 75 #[.val (.long q0), .second, .val (.long q1), .second, .val (.long q2), .second, .val (.long q3), .second, .val (.long q4), .second, .val (.int p5), .val (.long y0), .second, .val (.long y1), .second, .val (.long y2), .second, .val (.long y3), .second, .val (.long y4), .second, .val (.int (3 : Int32)), .val (.int sel), .val (.ref b6), .unset, .unset, .unset] [(.int r32)]))
    have Z32 : n0 ≤ T32.heap.size := Nat.le_trans Z7 zz32
    have St32' := St32.mono (k' := 1) (by omega)
    refine own_go (fun _ q => XS.pop X32.here hx rfl (hb hby at_75) rfl rfl q) ?_
    show own_Go _ _ _ _ _ _ _ (T32.setTop (mkF m 76 #[.val (.long q0), .second, .val (.long q1), .second, .val (.long q2), .second, .val (.long q3), .second, .val (.long q4), .second, .val (.int p5), .val (.long y0), .second, .val (.long y1), .second, .val (.long y2), .second, .val (.long y3), .second, .val (.long y4), .second, .val (.int (3 : Int32)), .val (.int sel), .val (.ref b6), .unset, .unset, .unset] []))
    refine own_go (fun _ q => XS.iload X32.here hx rfl (hb hby at_76) rfl q) ?_
    show own_Go _ _ _ _ _ _ _ (T32.setTop (mkF m 78 #[.val (.long q0), .second, .val (.long q1), .second, .val (.long q2), .second, .val (.long q3), .second, .val (.long q4), .second, .val (.int p5), .val (.long y0), .second, .val (.long y1), .second, .val (.long y2), .second, .val (.long y3), .second, .val (.long y4), .second, .val (.int (3 : Int32)), .val (.int sel), .val (.ref b6), .unset, .unset, .unset] [(.int (3 : Int32))]))
    refine own_go (fun _ q => XS.iconst X32.here hx rfl (hb hby at_78) q) ?_
    show own_Go _ _ _ _ _ _ _ (T32.setTop (mkF m 79 #[.val (.long q0), .second, .val (.long q1), .second, .val (.long q2), .second, .val (.long q3), .second, .val (.long q4), .second, .val (.int p5), .val (.long y0), .second, .val (.long y1), .second, .val (.long y2), .second, .val (.long y3), .second, .val (.long y4), .second, .val (.int (3 : Int32)), .val (.int sel), .val (.ref b6), .unset, .unset, .unset] [(.int (2 : Int32)), (.int (3 : Int32))]))
    refine own_go (fun _ q => XS.icmpNo X32.here hx rfl (hb hby at_79) rfl (flt (by decide : ¬ ((3 : Int32) < (2 : Int32)))).1 q) ?_
    show own_Go _ _ _ _ _ _ _ (T32.setTop (mkF m 82 #[.val (.long q0), .second, .val (.long q1), .second, .val (.long q2), .second, .val (.long q3), .second, .val (.long q4), .second, .val (.int p5), .val (.long y0), .second, .val (.long y1), .second, .val (.long y2), .second, .val (.long y3), .second, .val (.long y4), .second, .val (.int (3 : Int32)), .val (.int sel), .val (.ref b6), .unset, .unset, .unset] []))
    refine own_go (fun _ q => XS.aload X32.here hx rfl (hb hby at_82) rfl rfl q) ?_
    show own_Go _ _ _ _ _ _ _ (T32.setTop (mkF m 84 #[.val (.long q0), .second, .val (.long q1), .second, .val (.long q2), .second, .val (.long q3), .second, .val (.long q4), .second, .val (.int p5), .val (.long y0), .second, .val (.long y1), .second, .val (.long y2), .second, .val (.long y3), .second, .val (.long y4), .second, .val (.int (3 : Int32)), .val (.int sel), .val (.ref b6), .unset, .unset, .unset] [(.ref b6)]))
    refine own_go (fun _ q => XS.lload X32.here hx rfl (hb hby at_84) rfl q) ?_
    show own_Go _ _ _ _ _ _ _ (T32.setTop (mkF m 86 #[.val (.long q0), .second, .val (.long q1), .second, .val (.long q2), .second, .val (.long q3), .second, .val (.long q4), .second, .val (.int p5), .val (.long y0), .second, .val (.long y1), .second, .val (.long y2), .second, .val (.long y3), .second, .val (.long y4), .second, .val (.int (3 : Int32)), .val (.int sel), .val (.ref b6), .unset, .unset, .unset] [(.long y1), (.ref b6)]))
    obtain ⟨tb_3_1, ad_3_1, Ln_3_1, AL_3_1, sz_3_1, tbl_3_1, add_3_1, zs_3_1, E_3_1, Ft_3_1, Fa_3_1, Fs_3_1, At_3_1, Aa_3_1, go_3_1, gt_3_1, ga_3_1, neta_3_1, neot_3_1, neoa_3_1, hzs_3_1, hk_3_1, hLA_3_1, I_3_1, HA_3_1⟩ := St32'
    refine own_virtual X32 hx hZ hown (hw _ (List.mem_of_getElem? (i := 19) rfl)) (hw _ (List.mem_of_getElem? (i := 20) rfl)) (hw _ (List.mem_of_getElem? (i := 22) rfl)) (hw _ (List.mem_of_getElem? (i := 21) rfl)) (hw _ (List.mem_of_getElem? (i := 7) rfl)) (hw _ (List.mem_of_getElem? (i := 23) rfl)) (by decide) rfl (a := b6) E_3_1 (argsL := [(.long y1)]) (rest := []) (rm4 l Z a0 hw [] b6 tb_3_1 ad_3_1 Ln_3_1 AL_3_1 sz_3_1 tbl_3_1 add_3_1 zs_3_1 y1 (fun y => (fun _ => False) y ∨ y = y0) T32.heap n0 Z32 E_3_1 Ft_3_1 Fa_3_1 Fs_3_1 At_3_1 Aa_3_1 go_3_1 gt_3_1 ga_3_1 neta_3_1 neot_3_1 neoa_3_1 hzs_3_1 (by omega) hLA_3_1 I_3_1 HA_3_1 hy1) 0 (by decide) (by decide) (by decide) (by decide) (by rw [hml]; rfl) pd_5 rfl rfl (Nat.le_of_eq rfl) (hb hby at_86) rfl ?_
    intro v33 T33 L33 X33 hQ33
    obtain ⟨r33, rfl, N33q, St33, zz33⟩ := hQ33
    have N33 := Fr.app N32 N33q
    show own_Go _ _ _ _ _ _ _ (T33.setTop (mkF m 89 #[.val (.long q0), .second, .val (.long q1), .second, .val (.long q2), .second, .val (.long q3), .second, .val (.long q4), .second, .val (.int p5), .val (.long y0), .second, .val (.long y1), .second, .val (.long y2), .second, .val (.long y3), .second, .val (.long y4), .second, .val (.int (3 : Int32)), .val (.int sel), .val (.ref b6), .unset, .unset, .unset] [(.int r33)]))
    have Z33 : n0 ≤ T33.heap.size := Nat.le_trans Z32 zz33
    have St33' := St33.mono (k' := 2) (by omega)
    refine own_go (fun _ q => XS.pop X33.here hx rfl (hb hby at_89) rfl rfl q) ?_
    show own_Go _ _ _ _ _ _ _ (T33.setTop (mkF m 90 #[.val (.long q0), .second, .val (.long q1), .second, .val (.long q2), .second, .val (.long q3), .second, .val (.long q4), .second, .val (.int p5), .val (.long y0), .second, .val (.long y1), .second, .val (.long y2), .second, .val (.long y3), .second, .val (.long y4), .second, .val (.int (3 : Int32)), .val (.int sel), .val (.ref b6), .unset, .unset, .unset] []))
    refine own_go (fun _ q => XS.iload X33.here hx rfl (hb hby at_90) rfl q) ?_
    show own_Go _ _ _ _ _ _ _ (T33.setTop (mkF m 92 #[.val (.long q0), .second, .val (.long q1), .second, .val (.long q2), .second, .val (.long q3), .second, .val (.long q4), .second, .val (.int p5), .val (.long y0), .second, .val (.long y1), .second, .val (.long y2), .second, .val (.long y3), .second, .val (.long y4), .second, .val (.int (3 : Int32)), .val (.int sel), .val (.ref b6), .unset, .unset, .unset] [(.int (3 : Int32))]))
    refine own_go (fun _ q => XS.iconst X33.here hx rfl (hb hby at_92) q) ?_
    show own_Go _ _ _ _ _ _ _ (T33.setTop (mkF m 93 #[.val (.long q0), .second, .val (.long q1), .second, .val (.long q2), .second, .val (.long q3), .second, .val (.long q4), .second, .val (.int p5), .val (.long y0), .second, .val (.long y1), .second, .val (.long y2), .second, .val (.long y3), .second, .val (.long y4), .second, .val (.int (3 : Int32)), .val (.int sel), .val (.ref b6), .unset, .unset, .unset] [(.int (3 : Int32)), (.int (3 : Int32))]))
    refine own_go (fun _ q => XS.icmpNo X33.here hx rfl (hb hby at_93) rfl (flt (by decide : ¬ ((3 : Int32) < (3 : Int32)))).1 q) ?_
    show own_Go _ _ _ _ _ _ _ (T33.setTop (mkF m 96 #[.val (.long q0), .second, .val (.long q1), .second, .val (.long q2), .second, .val (.long q3), .second, .val (.long q4), .second, .val (.int p5), .val (.long y0), .second, .val (.long y1), .second, .val (.long y2), .second, .val (.long y3), .second, .val (.long y4), .second, .val (.int (3 : Int32)), .val (.int sel), .val (.ref b6), .unset, .unset, .unset] []))
    refine own_go (fun _ q => XS.aload X33.here hx rfl (hb hby at_96) rfl rfl q) ?_
    show own_Go _ _ _ _ _ _ _ (T33.setTop (mkF m 98 #[.val (.long q0), .second, .val (.long q1), .second, .val (.long q2), .second, .val (.long q3), .second, .val (.long q4), .second, .val (.int p5), .val (.long y0), .second, .val (.long y1), .second, .val (.long y2), .second, .val (.long y3), .second, .val (.long y4), .second, .val (.int (3 : Int32)), .val (.int sel), .val (.ref b6), .unset, .unset, .unset] [(.ref b6)]))
    refine own_go (fun _ q => XS.lload X33.here hx rfl (hb hby at_98) rfl q) ?_
    show own_Go _ _ _ _ _ _ _ (T33.setTop (mkF m 100 #[.val (.long q0), .second, .val (.long q1), .second, .val (.long q2), .second, .val (.long q3), .second, .val (.long q4), .second, .val (.int p5), .val (.long y0), .second, .val (.long y1), .second, .val (.long y2), .second, .val (.long y3), .second, .val (.long y4), .second, .val (.int (3 : Int32)), .val (.int sel), .val (.ref b6), .unset, .unset, .unset] [(.long y2), (.ref b6)]))
    obtain ⟨tb_3_2, ad_3_2, Ln_3_2, AL_3_2, sz_3_2, tbl_3_2, add_3_2, zs_3_2, E_3_2, Ft_3_2, Fa_3_2, Fs_3_2, At_3_2, Aa_3_2, go_3_2, gt_3_2, ga_3_2, neta_3_2, neot_3_2, neoa_3_2, hzs_3_2, hk_3_2, hLA_3_2, I_3_2, HA_3_2⟩ := St33'
    refine own_virtual X33 hx hZ hown (hw _ (List.mem_of_getElem? (i := 19) rfl)) (hw _ (List.mem_of_getElem? (i := 20) rfl)) (hw _ (List.mem_of_getElem? (i := 22) rfl)) (hw _ (List.mem_of_getElem? (i := 21) rfl)) (hw _ (List.mem_of_getElem? (i := 7) rfl)) (hw _ (List.mem_of_getElem? (i := 23) rfl)) (by decide) rfl (a := b6) E_3_2 (argsL := [(.long y2)]) (rest := []) (rm4 l Z a0 hw [] b6 tb_3_2 ad_3_2 Ln_3_2 AL_3_2 sz_3_2 tbl_3_2 add_3_2 zs_3_2 y2 (fun y => (fun y => (fun _ => False) y ∨ y = y0) y ∨ y = y1) T33.heap n0 Z33 E_3_2 Ft_3_2 Fa_3_2 Fs_3_2 At_3_2 Aa_3_2 go_3_2 gt_3_2 ga_3_2 neta_3_2 neot_3_2 neoa_3_2 hzs_3_2 (by omega) hLA_3_2 I_3_2 HA_3_2 hy2) 0 (by decide) (by decide) (by decide) (by decide) (by rw [hml]; rfl) pd_5 rfl rfl (Nat.le_of_eq rfl) (hb hby at_100) rfl ?_
    intro v34 T34 L34 X34 hQ34
    obtain ⟨r34, rfl, N34q, St34, zz34⟩ := hQ34
    have N34 := Fr.app N33 N34q
    show own_Go _ _ _ _ _ _ _ (T34.setTop (mkF m 103 #[.val (.long q0), .second, .val (.long q1), .second, .val (.long q2), .second, .val (.long q3), .second, .val (.long q4), .second, .val (.int p5), .val (.long y0), .second, .val (.long y1), .second, .val (.long y2), .second, .val (.long y3), .second, .val (.long y4), .second, .val (.int (3 : Int32)), .val (.int sel), .val (.ref b6), .unset, .unset, .unset] [(.int r34)]))
    have Z34 : n0 ≤ T34.heap.size := Nat.le_trans Z33 zz34
    have St34' := St34.mono (k' := 3) (by omega)
    refine own_go (fun _ q => XS.pop X34.here hx rfl (hb hby at_103) rfl rfl q) ?_
    show own_Go _ _ _ _ _ _ _ (T34.setTop (mkF m 104 #[.val (.long q0), .second, .val (.long q1), .second, .val (.long q2), .second, .val (.long q3), .second, .val (.long q4), .second, .val (.int p5), .val (.long y0), .second, .val (.long y1), .second, .val (.long y2), .second, .val (.long y3), .second, .val (.long y4), .second, .val (.int (3 : Int32)), .val (.int sel), .val (.ref b6), .unset, .unset, .unset] []))
    refine own_go (fun _ q => XS.iload X34.here hx rfl (hb hby at_104) rfl q) ?_
    show own_Go _ _ _ _ _ _ _ (T34.setTop (mkF m 106 #[.val (.long q0), .second, .val (.long q1), .second, .val (.long q2), .second, .val (.long q3), .second, .val (.long q4), .second, .val (.int p5), .val (.long y0), .second, .val (.long y1), .second, .val (.long y2), .second, .val (.long y3), .second, .val (.long y4), .second, .val (.int (3 : Int32)), .val (.int sel), .val (.ref b6), .unset, .unset, .unset] [(.int (3 : Int32))]))
    refine own_go (fun _ q => XS.iconst X34.here hx rfl (hb hby at_106) q) ?_
    show own_Go _ _ _ _ _ _ _ (T34.setTop (mkF m 107 #[.val (.long q0), .second, .val (.long q1), .second, .val (.long q2), .second, .val (.long q3), .second, .val (.long q4), .second, .val (.int p5), .val (.long y0), .second, .val (.long y1), .second, .val (.long y2), .second, .val (.long y3), .second, .val (.long y4), .second, .val (.int (3 : Int32)), .val (.int sel), .val (.ref b6), .unset, .unset, .unset] [(.int (4 : Int32)), (.int (3 : Int32))]))
    refine own_go (fun _ q => XS.icmpYes X34.here hx rfl (pc0 := 107) (pc' := 118) rfl (hb hby at_107) rfl (tlt (by decide : (3 : Int32) < (4 : Int32))).1 (by decide) (by decide) q) ?_
    show own_Go _ _ _ _ _ _ _ (T34.setTop (mkF m 118 #[.val (.long q0), .second, .val (.long q1), .second, .val (.long q2), .second, .val (.long q3), .second, .val (.long q4), .second, .val (.int p5), .val (.long y0), .second, .val (.long y1), .second, .val (.long y2), .second, .val (.long y3), .second, .val (.long y4), .second, .val (.int (3 : Int32)), .val (.int sel), .val (.ref b6), .unset, .unset, .unset] []))
    refine own_go (fun _ q => XS.lload X34.here hx rfl (hb hby at_118) rfl q) ?_
    show own_Go _ _ _ _ _ _ _ (T34.setTop (mkF m 120 #[.val (.long q0), .second, .val (.long q1), .second, .val (.long q2), .second, .val (.long q3), .second, .val (.long q4), .second, .val (.int p5), .val (.long y0), .second, .val (.long y1), .second, .val (.long y2), .second, .val (.long y3), .second, .val (.long y4), .second, .val (.int (3 : Int32)), .val (.int sel), .val (.ref b6), .unset, .unset, .unset] [(.long y4)]))
    refine own_go (fun _ q => XS.lstore X34.here hx rfl (hb hby at_120) rfl (l' := #[.val (.long q0), .second, .val (.long q1), .second, .val (.long q2), .second, .val (.long q3), .second, .val (.long q4), .second, .val (.int p5), .val (.long y0), .second, .val (.long y1), .second, .val (.long y2), .second, .val (.long y3), .second, .val (.long y4), .second, .val (.int (3 : Int32)), .val (.int sel), .val (.ref b6), .val (.long y4), .second, .unset]) rfl q) ?_
    show own_Go _ _ _ _ _ _ _ (T34.setTop (mkF m 122 #[.val (.long q0), .second, .val (.long q1), .second, .val (.long q2), .second, .val (.long q3), .second, .val (.long q4), .second, .val (.int p5), .val (.long y0), .second, .val (.long y1), .second, .val (.long y2), .second, .val (.long y3), .second, .val (.long y4), .second, .val (.int (3 : Int32)), .val (.int sel), .val (.ref b6), .val (.long y4), .second, .unset] []))
    obtain ⟨tb_3_z, ad_3_z, Ln_3_z, AL_3_z, sz_3_z, tbl_3_z, add_3_z, zs_3_z, E_3_z, Ft_3_z, Fa_3_z, Fs_3_z, At_3_z, Aa_3_z, go_3_z, gt_3_z, ga_3_z, neta_3_z, neot_3_z, neoa_3_z, hzs_3_z, hk_3_z, hLA_3_z, I_3_z, HA_3_z⟩ := St34'
    have join : ∀ qq : Int64, own_Go p e below s (Q0 Z q0 q1 q2 q3 q4 p5 h0 n0) room_1.cells room_1.slots (T34.setTop (mkF m 170 #[.val (.long q0), .second, .val (.long q1), .second, .val (.long q2), .second, .val (.long q3), .second, .val (.long q4), .second, .val (.int p5), .val (.long y0), .second, .val (.long y1), .second, .val (.long y2), .second, .val (.long y3), .second, .val (.long y4), .second, .val (.int (3 : Int32)), .val (.int sel), .val (.ref b6), .val (.long qq), .second, .unset] [])) := by
      intro qq
      show own_Go _ _ _ _ _ _ _ (T34.setTop (mkF m 170 #[.val (.long q0), .second, .val (.long q1), .second, .val (.long q2), .second, .val (.long q3), .second, .val (.long q4), .second, .val (.int p5), .val (.long y0), .second, .val (.long y1), .second, .val (.long y2), .second, .val (.long y3), .second, .val (.long y4), .second, .val (.int (3 : Int32)), .val (.int sel), .val (.ref b6), .val (.long qq), .second, .unset] []))
      refine own_go (fun _ q => XS.iload X34.here hx rfl (hb hby at_170) rfl q) ?_
      show own_Go _ _ _ _ _ _ _ (T34.setTop (mkF m 172 #[.val (.long q0), .second, .val (.long q1), .second, .val (.long q2), .second, .val (.long q3), .second, .val (.long q4), .second, .val (.int p5), .val (.long y0), .second, .val (.long y1), .second, .val (.long y2), .second, .val (.long y3), .second, .val (.long y4), .second, .val (.int (3 : Int32)), .val (.int sel), .val (.ref b6), .val (.long qq), .second, .unset] [(.int (3 : Int32))]))
      refine own_go (fun _ q => XS.iconst X34.here hx rfl (hb hby at_172) q) ?_
      show own_Go _ _ _ _ _ _ _ (T34.setTop (mkF m 173 #[.val (.long q0), .second, .val (.long q1), .second, .val (.long q2), .second, .val (.long q3), .second, .val (.long q4), .second, .val (.int p5), .val (.long y0), .second, .val (.long y1), .second, .val (.long y2), .second, .val (.long y3), .second, .val (.long y4), .second, .val (.int (3 : Int32)), .val (.int sel), .val (.ref b6), .val (.long qq), .second, .unset] [(.int (1 : Int32)), (.int (3 : Int32))]))
      refine own_go (fun _ q => XS.icmpNo X34.here hx rfl (hb hby at_173) rfl (flt (by decide : ¬ ((3 : Int32) < (1 : Int32)))).1 q) ?_
      show own_Go _ _ _ _ _ _ _ (T34.setTop (mkF m 176 #[.val (.long q0), .second, .val (.long q1), .second, .val (.long q2), .second, .val (.long q3), .second, .val (.long q4), .second, .val (.int p5), .val (.long y0), .second, .val (.long y1), .second, .val (.long y2), .second, .val (.long y3), .second, .val (.long y4), .second, .val (.int (3 : Int32)), .val (.int sel), .val (.ref b6), .val (.long qq), .second, .unset] []))
      refine own_go (fun _ q => XS.lload X34.here hx rfl (hb hby at_176) rfl q) ?_
      show own_Go _ _ _ _ _ _ _ (T34.setTop (mkF m 178 #[.val (.long q0), .second, .val (.long q1), .second, .val (.long q2), .second, .val (.long q3), .second, .val (.long q4), .second, .val (.int p5), .val (.long y0), .second, .val (.long y1), .second, .val (.long y2), .second, .val (.long y3), .second, .val (.long y4), .second, .val (.int (3 : Int32)), .val (.int sel), .val (.ref b6), .val (.long qq), .second, .unset] [(.long qq)]))
      refine own_go (fun _ q => XS.lload X34.here hx rfl (hb hby at_178) rfl q) ?_
      show own_Go _ _ _ _ _ _ _ (T34.setTop (mkF m 180 #[.val (.long q0), .second, .val (.long q1), .second, .val (.long q2), .second, .val (.long q3), .second, .val (.long q4), .second, .val (.int p5), .val (.long y0), .second, .val (.long y1), .second, .val (.long y2), .second, .val (.long y3), .second, .val (.long y4), .second, .val (.int (3 : Int32)), .val (.int sel), .val (.ref b6), .val (.long qq), .second, .unset] [(.long y0), (.long qq)]))
      refine own_go (fun _ q => XS.lcmp X34.here hx rfl (hb hby at_180) rfl q) ?_
      show own_Go _ _ _ _ _ _ _ (T34.setTop (mkF m 181 #[.val (.long q0), .second, .val (.long q1), .second, .val (.long q2), .second, .val (.long q3), .second, .val (.long q4), .second, .val (.int p5), .val (.long y0), .second, .val (.long y1), .second, .val (.long y2), .second, .val (.long y3), .second, .val (.long y4), .second, .val (.int (3 : Int32)), .val (.int sel), .val (.ref b6), .val (.long qq), .second, .unset] [(.int (lcmpW qq y0))]))
      by_cases hc181_35 : qq = y0
      · refine own_go (fun _ q => XS.ifYes X34.here hx rfl (pc0 := 181) (pc' := 226) rfl (hb hby at_181) rfl ((if0 _ _).trans (teq ((lw_eq _ _).mpr hc181_35)).1) (by decide) (by decide) q) ?_
        show own_Go _ _ _ _ _ _ _ (T34.setTop (mkF m 226 #[.val (.long q0), .second, .val (.long q1), .second, .val (.long q2), .second, .val (.long q3), .second, .val (.long q4), .second, .val (.int p5), .val (.long y0), .second, .val (.long y1), .second, .val (.long y2), .second, .val (.long y3), .second, .val (.long y4), .second, .val (.int (3 : Int32)), .val (.int sel), .val (.ref b6), .val (.long qq), .second, .unset] []))
        refine own_go (fun _ q => XS.iconst X34.here hx rfl (hb hby at_226) q) ?_
        show own_Go _ _ _ _ _ _ _ (T34.setTop (mkF m 227 #[.val (.long q0), .second, .val (.long q1), .second, .val (.long q2), .second, .val (.long q3), .second, .val (.long q4), .second, .val (.int p5), .val (.long y0), .second, .val (.long y1), .second, .val (.long y2), .second, .val (.long y3), .second, .val (.long y4), .second, .val (.int (3 : Int32)), .val (.int sel), .val (.ref b6), .val (.long qq), .second, .unset] [(.int (1 : Int32))]))
        refine own_go (fun _ q => XS.goto X34.here hx rfl (pc0 := 227) (pc' := 231) rfl (hb hby at_227) (by decide) (by decide) q) ?_
        show own_Go _ _ _ _ _ _ _ (T34.setTop (mkF m 231 #[.val (.long q0), .second, .val (.long q1), .second, .val (.long q2), .second, .val (.long q3), .second, .val (.long q4), .second, .val (.int p5), .val (.long y0), .second, .val (.long y1), .second, .val (.long y2), .second, .val (.long y3), .second, .val (.long y4), .second, .val (.int (3 : Int32)), .val (.int sel), .val (.ref b6), .val (.long qq), .second, .unset] [(.int (1 : Int32))]))
        refine own_go (fun _ q => XS.istore X34.here hx rfl (hb hby at_231) rfl (l' := #[.val (.long q0), .second, .val (.long q1), .second, .val (.long q2), .second, .val (.long q3), .second, .val (.long q4), .second, .val (.int p5), .val (.long y0), .second, .val (.long y1), .second, .val (.long y2), .second, .val (.long y3), .second, .val (.long y4), .second, .val (.int (3 : Int32)), .val (.int sel), .val (.ref b6), .val (.long qq), .second, .val (.int (1 : Int32))]) rfl q) ?_
        show own_Go _ _ _ _ _ _ _ (T34.setTop (mkF m 233 #[.val (.long q0), .second, .val (.long q1), .second, .val (.long q2), .second, .val (.long q3), .second, .val (.long q4), .second, .val (.int p5), .val (.long y0), .second, .val (.long y1), .second, .val (.long y2), .second, .val (.long y3), .second, .val (.long y4), .second, .val (.int (3 : Int32)), .val (.int sel), .val (.ref b6), .val (.long qq), .second, .val (.int (1 : Int32))] []))
        refine own_go (fun _ q => XS.aload X34.here hx rfl (hb hby at_233) rfl rfl q) ?_
        show own_Go _ _ _ _ _ _ _ (T34.setTop (mkF m 235 #[.val (.long q0), .second, .val (.long q1), .second, .val (.long q2), .second, .val (.long q3), .second, .val (.long q4), .second, .val (.int p5), .val (.long y0), .second, .val (.long y1), .second, .val (.long y2), .second, .val (.long y3), .second, .val (.long y4), .second, .val (.int (3 : Int32)), .val (.int sel), .val (.ref b6), .val (.long qq), .second, .val (.int (1 : Int32))] [(.ref b6)]))
        refine own_go (fun _ q => XS.lload X34.here hx rfl (hb hby at_235) rfl q) ?_
        show own_Go _ _ _ _ _ _ _ (T34.setTop (mkF m 237 #[.val (.long q0), .second, .val (.long q1), .second, .val (.long q2), .second, .val (.long q3), .second, .val (.long q4), .second, .val (.int p5), .val (.long y0), .second, .val (.long y1), .second, .val (.long y2), .second, .val (.long y3), .second, .val (.long y4), .second, .val (.int (3 : Int32)), .val (.int sel), .val (.ref b6), .val (.long qq), .second, .val (.int (1 : Int32))] [(.long qq), (.ref b6)]))
        refine own_virtual X34 hx hZ hown (hw _ (List.mem_of_getElem? (i := 31) rfl)) (hw _ (List.mem_of_getElem? (i := 32) rfl)) (hw _ (List.mem_of_getElem? (i := 34) rfl)) (hw _ (List.mem_of_getElem? (i := 33) rfl)) (hw _ (List.mem_of_getElem? (i := 7) rfl)) (hw _ (List.mem_of_getElem? (i := 35) rfl)) (by decide) rfl (a := b6) E_3_z (argsL := [(.long qq)]) (rest := []) (rm6 l Z a0 hw [] b6 tb_3_z Ln_3_z tbl_3_z qq (fun y => (fun y => (fun y => (fun _ => False) y ∨ y = y0) y ∨ y = y1) y ∨ y = y2) sz_3_z T34.heap n0 Z34 E_3_z Ft_3_z At_3_z (by rcases hLA_3_z with ⟨_, q, _⟩ | ⟨_, q, _⟩ <;> omega) (by have := I_3_z.2.2; rcases hLA_3_z with ⟨_, q, _⟩ | ⟨_, q, _⟩ <;> omega) I_3_z) 0 (by decide) (by decide) (by decide) (by decide) (by rw [hml]; rfl) pd_5 rfl rfl (Nat.le_of_eq rfl) (hb hby at_237) rfl ?_
        intro v36 T36 L36 X36 hQ36
        obtain ⟨r, rfl, N36q, e36q, hrr⟩ := hQ36
        have N36 := Fr.app N34 N36q
        show own_Go _ _ _ _ _ _ _ (T36.setTop (mkF m 240 #[.val (.long q0), .second, .val (.long q1), .second, .val (.long q2), .second, .val (.long q3), .second, .val (.long q4), .second, .val (.int p5), .val (.long y0), .second, .val (.long y1), .second, .val (.long y2), .second, .val (.long y3), .second, .val (.long y4), .second, .val (.int (3 : Int32)), .val (.int sel), .val (.ref b6), .val (.long qq), .second, .val (.int (1 : Int32))] [(.int r)]))
        refine own_go (fun _ q => XS.iload X36.here hx rfl (hb hby at_240) rfl q) ?_
        show own_Go _ _ _ _ _ _ _ (T36.setTop (mkF m 242 #[.val (.long q0), .second, .val (.long q1), .second, .val (.long q2), .second, .val (.long q3), .second, .val (.long q4), .second, .val (.int p5), .val (.long y0), .second, .val (.long y1), .second, .val (.long y2), .second, .val (.long y3), .second, .val (.long y4), .second, .val (.int (3 : Int32)), .val (.int sel), .val (.ref b6), .val (.long qq), .second, .val (.int (1 : Int32))] [(.int (1 : Int32)), (.int r)]))
        refine own_go (fun _ q => XS.icmpNo X36.here hx rfl (hb hby at_242) rfl (teq (by rcases hrr with ⟨rfl, u⟩ | ⟨rfl, u⟩; (· first | rfl | (exfalso; simp_all)); (· first | rfl | (exfalso; simp_all)))).2 q) ?_
        show own_Go _ _ _ _ _ _ _ (T36.setTop (mkF m 245 #[.val (.long q0), .second, .val (.long q1), .second, .val (.long q2), .second, .val (.long q3), .second, .val (.long q4), .second, .val (.int p5), .val (.long y0), .second, .val (.long y1), .second, .val (.long y2), .second, .val (.long y3), .second, .val (.long y4), .second, .val (.int (3 : Int32)), .val (.int sel), .val (.ref b6), .val (.long qq), .second, .val (.int (1 : Int32))] []))
        refine own_go (fun _ q => XS.iconst X36.here hx rfl (hb hby at_245) q) ?_
        show own_Go _ _ _ _ _ _ _ (T36.setTop (mkF m 246 #[.val (.long q0), .second, .val (.long q1), .second, .val (.long q2), .second, .val (.long q3), .second, .val (.long q4), .second, .val (.int p5), .val (.long y0), .second, .val (.long y1), .second, .val (.long y2), .second, .val (.long y3), .second, .val (.long y4), .second, .val (.int (3 : Int32)), .val (.int sel), .val (.ref b6), .val (.long qq), .second, .val (.int (1 : Int32))] [(.int (1 : Int32))]))
        refine own_go (fun _ q => XS.goto X36.here hx rfl (pc0 := 246) (pc' := 250) rfl (hb hby at_246) (by decide) (by decide) q) ?_
        show own_Go _ _ _ _ _ _ _ (T36.setTop (mkF m 250 #[.val (.long q0), .second, .val (.long q1), .second, .val (.long q2), .second, .val (.long q3), .second, .val (.long q4), .second, .val (.int p5), .val (.long y0), .second, .val (.long y1), .second, .val (.long y2), .second, .val (.long y3), .second, .val (.long y4), .second, .val (.int (3 : Int32)), .val (.int sel), .val (.ref b6), .val (.long qq), .second, .val (.int (1 : Int32))] [(.int (1 : Int32))]))
        exact own_retZ X36 hx hlk hret (hb hby at_250) (by decide) (by decide) (by decide) ⟨rfl, N36⟩
      · refine own_go (fun _ q => XS.ifNo X34.here hx rfl (hb hby at_181) rfl ((if0 _ _).trans (feq (fun q => hc181_35 ((lw_eq _ _).mp q))).1) q) ?_
        show own_Go _ _ _ _ _ _ _ (T34.setTop (mkF m 184 #[.val (.long q0), .second, .val (.long q1), .second, .val (.long q2), .second, .val (.long q3), .second, .val (.long q4), .second, .val (.int p5), .val (.long y0), .second, .val (.long y1), .second, .val (.long y2), .second, .val (.long y3), .second, .val (.long y4), .second, .val (.int (3 : Int32)), .val (.int sel), .val (.ref b6), .val (.long qq), .second, .unset] []))
        refine own_go (fun _ q => XS.iload X34.here hx rfl (hb hby at_184) rfl q) ?_
        show own_Go _ _ _ _ _ _ _ (T34.setTop (mkF m 186 #[.val (.long q0), .second, .val (.long q1), .second, .val (.long q2), .second, .val (.long q3), .second, .val (.long q4), .second, .val (.int p5), .val (.long y0), .second, .val (.long y1), .second, .val (.long y2), .second, .val (.long y3), .second, .val (.long y4), .second, .val (.int (3 : Int32)), .val (.int sel), .val (.ref b6), .val (.long qq), .second, .unset] [(.int (3 : Int32))]))
        refine own_go (fun _ q => XS.iconst X34.here hx rfl (hb hby at_186) q) ?_
        show own_Go _ _ _ _ _ _ _ (T34.setTop (mkF m 187 #[.val (.long q0), .second, .val (.long q1), .second, .val (.long q2), .second, .val (.long q3), .second, .val (.long q4), .second, .val (.int p5), .val (.long y0), .second, .val (.long y1), .second, .val (.long y2), .second, .val (.long y3), .second, .val (.long y4), .second, .val (.int (3 : Int32)), .val (.int sel), .val (.ref b6), .val (.long qq), .second, .unset] [(.int (2 : Int32)), (.int (3 : Int32))]))
        refine own_go (fun _ q => XS.icmpNo X34.here hx rfl (hb hby at_187) rfl (flt (by decide : ¬ ((3 : Int32) < (2 : Int32)))).1 q) ?_
        show own_Go _ _ _ _ _ _ _ (T34.setTop (mkF m 190 #[.val (.long q0), .second, .val (.long q1), .second, .val (.long q2), .second, .val (.long q3), .second, .val (.long q4), .second, .val (.int p5), .val (.long y0), .second, .val (.long y1), .second, .val (.long y2), .second, .val (.long y3), .second, .val (.long y4), .second, .val (.int (3 : Int32)), .val (.int sel), .val (.ref b6), .val (.long qq), .second, .unset] []))
        refine own_go (fun _ q => XS.lload X34.here hx rfl (hb hby at_190) rfl q) ?_
        show own_Go _ _ _ _ _ _ _ (T34.setTop (mkF m 192 #[.val (.long q0), .second, .val (.long q1), .second, .val (.long q2), .second, .val (.long q3), .second, .val (.long q4), .second, .val (.int p5), .val (.long y0), .second, .val (.long y1), .second, .val (.long y2), .second, .val (.long y3), .second, .val (.long y4), .second, .val (.int (3 : Int32)), .val (.int sel), .val (.ref b6), .val (.long qq), .second, .unset] [(.long qq)]))
        refine own_go (fun _ q => XS.lload X34.here hx rfl (hb hby at_192) rfl q) ?_
        show own_Go _ _ _ _ _ _ _ (T34.setTop (mkF m 194 #[.val (.long q0), .second, .val (.long q1), .second, .val (.long q2), .second, .val (.long q3), .second, .val (.long q4), .second, .val (.int p5), .val (.long y0), .second, .val (.long y1), .second, .val (.long y2), .second, .val (.long y3), .second, .val (.long y4), .second, .val (.int (3 : Int32)), .val (.int sel), .val (.ref b6), .val (.long qq), .second, .unset] [(.long y1), (.long qq)]))
        refine own_go (fun _ q => XS.lcmp X34.here hx rfl (hb hby at_194) rfl q) ?_
        show own_Go _ _ _ _ _ _ _ (T34.setTop (mkF m 195 #[.val (.long q0), .second, .val (.long q1), .second, .val (.long q2), .second, .val (.long q3), .second, .val (.long q4), .second, .val (.int p5), .val (.long y0), .second, .val (.long y1), .second, .val (.long y2), .second, .val (.long y3), .second, .val (.long y4), .second, .val (.int (3 : Int32)), .val (.int sel), .val (.ref b6), .val (.long qq), .second, .unset] [(.int (lcmpW qq y1))]))
        by_cases hc195_37 : qq = y1
        · refine own_go (fun _ q => XS.ifYes X34.here hx rfl (pc0 := 195) (pc' := 226) rfl (hb hby at_195) rfl ((if0 _ _).trans (teq ((lw_eq _ _).mpr hc195_37)).1) (by decide) (by decide) q) ?_
          show own_Go _ _ _ _ _ _ _ (T34.setTop (mkF m 226 #[.val (.long q0), .second, .val (.long q1), .second, .val (.long q2), .second, .val (.long q3), .second, .val (.long q4), .second, .val (.int p5), .val (.long y0), .second, .val (.long y1), .second, .val (.long y2), .second, .val (.long y3), .second, .val (.long y4), .second, .val (.int (3 : Int32)), .val (.int sel), .val (.ref b6), .val (.long qq), .second, .unset] []))
          refine own_go (fun _ q => XS.iconst X34.here hx rfl (hb hby at_226) q) ?_
          show own_Go _ _ _ _ _ _ _ (T34.setTop (mkF m 227 #[.val (.long q0), .second, .val (.long q1), .second, .val (.long q2), .second, .val (.long q3), .second, .val (.long q4), .second, .val (.int p5), .val (.long y0), .second, .val (.long y1), .second, .val (.long y2), .second, .val (.long y3), .second, .val (.long y4), .second, .val (.int (3 : Int32)), .val (.int sel), .val (.ref b6), .val (.long qq), .second, .unset] [(.int (1 : Int32))]))
          refine own_go (fun _ q => XS.goto X34.here hx rfl (pc0 := 227) (pc' := 231) rfl (hb hby at_227) (by decide) (by decide) q) ?_
          show own_Go _ _ _ _ _ _ _ (T34.setTop (mkF m 231 #[.val (.long q0), .second, .val (.long q1), .second, .val (.long q2), .second, .val (.long q3), .second, .val (.long q4), .second, .val (.int p5), .val (.long y0), .second, .val (.long y1), .second, .val (.long y2), .second, .val (.long y3), .second, .val (.long y4), .second, .val (.int (3 : Int32)), .val (.int sel), .val (.ref b6), .val (.long qq), .second, .unset] [(.int (1 : Int32))]))
          refine own_go (fun _ q => XS.istore X34.here hx rfl (hb hby at_231) rfl (l' := #[.val (.long q0), .second, .val (.long q1), .second, .val (.long q2), .second, .val (.long q3), .second, .val (.long q4), .second, .val (.int p5), .val (.long y0), .second, .val (.long y1), .second, .val (.long y2), .second, .val (.long y3), .second, .val (.long y4), .second, .val (.int (3 : Int32)), .val (.int sel), .val (.ref b6), .val (.long qq), .second, .val (.int (1 : Int32))]) rfl q) ?_
          show own_Go _ _ _ _ _ _ _ (T34.setTop (mkF m 233 #[.val (.long q0), .second, .val (.long q1), .second, .val (.long q2), .second, .val (.long q3), .second, .val (.long q4), .second, .val (.int p5), .val (.long y0), .second, .val (.long y1), .second, .val (.long y2), .second, .val (.long y3), .second, .val (.long y4), .second, .val (.int (3 : Int32)), .val (.int sel), .val (.ref b6), .val (.long qq), .second, .val (.int (1 : Int32))] []))
          refine own_go (fun _ q => XS.aload X34.here hx rfl (hb hby at_233) rfl rfl q) ?_
          show own_Go _ _ _ _ _ _ _ (T34.setTop (mkF m 235 #[.val (.long q0), .second, .val (.long q1), .second, .val (.long q2), .second, .val (.long q3), .second, .val (.long q4), .second, .val (.int p5), .val (.long y0), .second, .val (.long y1), .second, .val (.long y2), .second, .val (.long y3), .second, .val (.long y4), .second, .val (.int (3 : Int32)), .val (.int sel), .val (.ref b6), .val (.long qq), .second, .val (.int (1 : Int32))] [(.ref b6)]))
          refine own_go (fun _ q => XS.lload X34.here hx rfl (hb hby at_235) rfl q) ?_
          show own_Go _ _ _ _ _ _ _ (T34.setTop (mkF m 237 #[.val (.long q0), .second, .val (.long q1), .second, .val (.long q2), .second, .val (.long q3), .second, .val (.long q4), .second, .val (.int p5), .val (.long y0), .second, .val (.long y1), .second, .val (.long y2), .second, .val (.long y3), .second, .val (.long y4), .second, .val (.int (3 : Int32)), .val (.int sel), .val (.ref b6), .val (.long qq), .second, .val (.int (1 : Int32))] [(.long qq), (.ref b6)]))
          refine own_virtual X34 hx hZ hown (hw _ (List.mem_of_getElem? (i := 31) rfl)) (hw _ (List.mem_of_getElem? (i := 32) rfl)) (hw _ (List.mem_of_getElem? (i := 34) rfl)) (hw _ (List.mem_of_getElem? (i := 33) rfl)) (hw _ (List.mem_of_getElem? (i := 7) rfl)) (hw _ (List.mem_of_getElem? (i := 35) rfl)) (by decide) rfl (a := b6) E_3_z (argsL := [(.long qq)]) (rest := []) (rm6 l Z a0 hw [] b6 tb_3_z Ln_3_z tbl_3_z qq (fun y => (fun y => (fun y => (fun _ => False) y ∨ y = y0) y ∨ y = y1) y ∨ y = y2) sz_3_z T34.heap n0 Z34 E_3_z Ft_3_z At_3_z (by rcases hLA_3_z with ⟨_, q, _⟩ | ⟨_, q, _⟩ <;> omega) (by have := I_3_z.2.2; rcases hLA_3_z with ⟨_, q, _⟩ | ⟨_, q, _⟩ <;> omega) I_3_z) 0 (by decide) (by decide) (by decide) (by decide) (by rw [hml]; rfl) pd_5 rfl rfl (Nat.le_of_eq rfl) (hb hby at_237) rfl ?_
          intro v38 T38 L38 X38 hQ38
          obtain ⟨r, rfl, N38q, e38q, hrr⟩ := hQ38
          have N38 := Fr.app N34 N38q
          show own_Go _ _ _ _ _ _ _ (T38.setTop (mkF m 240 #[.val (.long q0), .second, .val (.long q1), .second, .val (.long q2), .second, .val (.long q3), .second, .val (.long q4), .second, .val (.int p5), .val (.long y0), .second, .val (.long y1), .second, .val (.long y2), .second, .val (.long y3), .second, .val (.long y4), .second, .val (.int (3 : Int32)), .val (.int sel), .val (.ref b6), .val (.long qq), .second, .val (.int (1 : Int32))] [(.int r)]))
          refine own_go (fun _ q => XS.iload X38.here hx rfl (hb hby at_240) rfl q) ?_
          show own_Go _ _ _ _ _ _ _ (T38.setTop (mkF m 242 #[.val (.long q0), .second, .val (.long q1), .second, .val (.long q2), .second, .val (.long q3), .second, .val (.long q4), .second, .val (.int p5), .val (.long y0), .second, .val (.long y1), .second, .val (.long y2), .second, .val (.long y3), .second, .val (.long y4), .second, .val (.int (3 : Int32)), .val (.int sel), .val (.ref b6), .val (.long qq), .second, .val (.int (1 : Int32))] [(.int (1 : Int32)), (.int r)]))
          refine own_go (fun _ q => XS.icmpNo X38.here hx rfl (hb hby at_242) rfl (teq (by rcases hrr with ⟨rfl, u⟩ | ⟨rfl, u⟩; (· first | rfl | (exfalso; simp_all)); (· first | rfl | (exfalso; simp_all)))).2 q) ?_
          show own_Go _ _ _ _ _ _ _ (T38.setTop (mkF m 245 #[.val (.long q0), .second, .val (.long q1), .second, .val (.long q2), .second, .val (.long q3), .second, .val (.long q4), .second, .val (.int p5), .val (.long y0), .second, .val (.long y1), .second, .val (.long y2), .second, .val (.long y3), .second, .val (.long y4), .second, .val (.int (3 : Int32)), .val (.int sel), .val (.ref b6), .val (.long qq), .second, .val (.int (1 : Int32))] []))
          refine own_go (fun _ q => XS.iconst X38.here hx rfl (hb hby at_245) q) ?_
          show own_Go _ _ _ _ _ _ _ (T38.setTop (mkF m 246 #[.val (.long q0), .second, .val (.long q1), .second, .val (.long q2), .second, .val (.long q3), .second, .val (.long q4), .second, .val (.int p5), .val (.long y0), .second, .val (.long y1), .second, .val (.long y2), .second, .val (.long y3), .second, .val (.long y4), .second, .val (.int (3 : Int32)), .val (.int sel), .val (.ref b6), .val (.long qq), .second, .val (.int (1 : Int32))] [(.int (1 : Int32))]))
          refine own_go (fun _ q => XS.goto X38.here hx rfl (pc0 := 246) (pc' := 250) rfl (hb hby at_246) (by decide) (by decide) q) ?_
          show own_Go _ _ _ _ _ _ _ (T38.setTop (mkF m 250 #[.val (.long q0), .second, .val (.long q1), .second, .val (.long q2), .second, .val (.long q3), .second, .val (.long q4), .second, .val (.int p5), .val (.long y0), .second, .val (.long y1), .second, .val (.long y2), .second, .val (.long y3), .second, .val (.long y4), .second, .val (.int (3 : Int32)), .val (.int sel), .val (.ref b6), .val (.long qq), .second, .val (.int (1 : Int32))] [(.int (1 : Int32))]))
          exact own_retZ X38 hx hlk hret (hb hby at_250) (by decide) (by decide) (by decide) ⟨rfl, N38⟩
        · refine own_go (fun _ q => XS.ifNo X34.here hx rfl (hb hby at_195) rfl ((if0 _ _).trans (feq (fun q => hc195_37 ((lw_eq _ _).mp q))).1) q) ?_
          show own_Go _ _ _ _ _ _ _ (T34.setTop (mkF m 198 #[.val (.long q0), .second, .val (.long q1), .second, .val (.long q2), .second, .val (.long q3), .second, .val (.long q4), .second, .val (.int p5), .val (.long y0), .second, .val (.long y1), .second, .val (.long y2), .second, .val (.long y3), .second, .val (.long y4), .second, .val (.int (3 : Int32)), .val (.int sel), .val (.ref b6), .val (.long qq), .second, .unset] []))
          refine own_go (fun _ q => XS.iload X34.here hx rfl (hb hby at_198) rfl q) ?_
          show own_Go _ _ _ _ _ _ _ (T34.setTop (mkF m 200 #[.val (.long q0), .second, .val (.long q1), .second, .val (.long q2), .second, .val (.long q3), .second, .val (.long q4), .second, .val (.int p5), .val (.long y0), .second, .val (.long y1), .second, .val (.long y2), .second, .val (.long y3), .second, .val (.long y4), .second, .val (.int (3 : Int32)), .val (.int sel), .val (.ref b6), .val (.long qq), .second, .unset] [(.int (3 : Int32))]))
          refine own_go (fun _ q => XS.iconst X34.here hx rfl (hb hby at_200) q) ?_
          show own_Go _ _ _ _ _ _ _ (T34.setTop (mkF m 201 #[.val (.long q0), .second, .val (.long q1), .second, .val (.long q2), .second, .val (.long q3), .second, .val (.long q4), .second, .val (.int p5), .val (.long y0), .second, .val (.long y1), .second, .val (.long y2), .second, .val (.long y3), .second, .val (.long y4), .second, .val (.int (3 : Int32)), .val (.int sel), .val (.ref b6), .val (.long qq), .second, .unset] [(.int (3 : Int32)), (.int (3 : Int32))]))
          refine own_go (fun _ q => XS.icmpNo X34.here hx rfl (hb hby at_201) rfl (flt (by decide : ¬ ((3 : Int32) < (3 : Int32)))).1 q) ?_
          show own_Go _ _ _ _ _ _ _ (T34.setTop (mkF m 204 #[.val (.long q0), .second, .val (.long q1), .second, .val (.long q2), .second, .val (.long q3), .second, .val (.long q4), .second, .val (.int p5), .val (.long y0), .second, .val (.long y1), .second, .val (.long y2), .second, .val (.long y3), .second, .val (.long y4), .second, .val (.int (3 : Int32)), .val (.int sel), .val (.ref b6), .val (.long qq), .second, .unset] []))
          refine own_go (fun _ q => XS.lload X34.here hx rfl (hb hby at_204) rfl q) ?_
          show own_Go _ _ _ _ _ _ _ (T34.setTop (mkF m 206 #[.val (.long q0), .second, .val (.long q1), .second, .val (.long q2), .second, .val (.long q3), .second, .val (.long q4), .second, .val (.int p5), .val (.long y0), .second, .val (.long y1), .second, .val (.long y2), .second, .val (.long y3), .second, .val (.long y4), .second, .val (.int (3 : Int32)), .val (.int sel), .val (.ref b6), .val (.long qq), .second, .unset] [(.long qq)]))
          refine own_go (fun _ q => XS.lload X34.here hx rfl (hb hby at_206) rfl q) ?_
          show own_Go _ _ _ _ _ _ _ (T34.setTop (mkF m 208 #[.val (.long q0), .second, .val (.long q1), .second, .val (.long q2), .second, .val (.long q3), .second, .val (.long q4), .second, .val (.int p5), .val (.long y0), .second, .val (.long y1), .second, .val (.long y2), .second, .val (.long y3), .second, .val (.long y4), .second, .val (.int (3 : Int32)), .val (.int sel), .val (.ref b6), .val (.long qq), .second, .unset] [(.long y2), (.long qq)]))
          refine own_go (fun _ q => XS.lcmp X34.here hx rfl (hb hby at_208) rfl q) ?_
          show own_Go _ _ _ _ _ _ _ (T34.setTop (mkF m 209 #[.val (.long q0), .second, .val (.long q1), .second, .val (.long q2), .second, .val (.long q3), .second, .val (.long q4), .second, .val (.int p5), .val (.long y0), .second, .val (.long y1), .second, .val (.long y2), .second, .val (.long y3), .second, .val (.long y4), .second, .val (.int (3 : Int32)), .val (.int sel), .val (.ref b6), .val (.long qq), .second, .unset] [(.int (lcmpW qq y2))]))
          by_cases hc209_39 : qq = y2
          · refine own_go (fun _ q => XS.ifYes X34.here hx rfl (pc0 := 209) (pc' := 226) rfl (hb hby at_209) rfl ((if0 _ _).trans (teq ((lw_eq _ _).mpr hc209_39)).1) (by decide) (by decide) q) ?_
            show own_Go _ _ _ _ _ _ _ (T34.setTop (mkF m 226 #[.val (.long q0), .second, .val (.long q1), .second, .val (.long q2), .second, .val (.long q3), .second, .val (.long q4), .second, .val (.int p5), .val (.long y0), .second, .val (.long y1), .second, .val (.long y2), .second, .val (.long y3), .second, .val (.long y4), .second, .val (.int (3 : Int32)), .val (.int sel), .val (.ref b6), .val (.long qq), .second, .unset] []))
            refine own_go (fun _ q => XS.iconst X34.here hx rfl (hb hby at_226) q) ?_
            show own_Go _ _ _ _ _ _ _ (T34.setTop (mkF m 227 #[.val (.long q0), .second, .val (.long q1), .second, .val (.long q2), .second, .val (.long q3), .second, .val (.long q4), .second, .val (.int p5), .val (.long y0), .second, .val (.long y1), .second, .val (.long y2), .second, .val (.long y3), .second, .val (.long y4), .second, .val (.int (3 : Int32)), .val (.int sel), .val (.ref b6), .val (.long qq), .second, .unset] [(.int (1 : Int32))]))
            refine own_go (fun _ q => XS.goto X34.here hx rfl (pc0 := 227) (pc' := 231) rfl (hb hby at_227) (by decide) (by decide) q) ?_
            show own_Go _ _ _ _ _ _ _ (T34.setTop (mkF m 231 #[.val (.long q0), .second, .val (.long q1), .second, .val (.long q2), .second, .val (.long q3), .second, .val (.long q4), .second, .val (.int p5), .val (.long y0), .second, .val (.long y1), .second, .val (.long y2), .second, .val (.long y3), .second, .val (.long y4), .second, .val (.int (3 : Int32)), .val (.int sel), .val (.ref b6), .val (.long qq), .second, .unset] [(.int (1 : Int32))]))
            refine own_go (fun _ q => XS.istore X34.here hx rfl (hb hby at_231) rfl (l' := #[.val (.long q0), .second, .val (.long q1), .second, .val (.long q2), .second, .val (.long q3), .second, .val (.long q4), .second, .val (.int p5), .val (.long y0), .second, .val (.long y1), .second, .val (.long y2), .second, .val (.long y3), .second, .val (.long y4), .second, .val (.int (3 : Int32)), .val (.int sel), .val (.ref b6), .val (.long qq), .second, .val (.int (1 : Int32))]) rfl q) ?_
            show own_Go _ _ _ _ _ _ _ (T34.setTop (mkF m 233 #[.val (.long q0), .second, .val (.long q1), .second, .val (.long q2), .second, .val (.long q3), .second, .val (.long q4), .second, .val (.int p5), .val (.long y0), .second, .val (.long y1), .second, .val (.long y2), .second, .val (.long y3), .second, .val (.long y4), .second, .val (.int (3 : Int32)), .val (.int sel), .val (.ref b6), .val (.long qq), .second, .val (.int (1 : Int32))] []))
            refine own_go (fun _ q => XS.aload X34.here hx rfl (hb hby at_233) rfl rfl q) ?_
            show own_Go _ _ _ _ _ _ _ (T34.setTop (mkF m 235 #[.val (.long q0), .second, .val (.long q1), .second, .val (.long q2), .second, .val (.long q3), .second, .val (.long q4), .second, .val (.int p5), .val (.long y0), .second, .val (.long y1), .second, .val (.long y2), .second, .val (.long y3), .second, .val (.long y4), .second, .val (.int (3 : Int32)), .val (.int sel), .val (.ref b6), .val (.long qq), .second, .val (.int (1 : Int32))] [(.ref b6)]))
            refine own_go (fun _ q => XS.lload X34.here hx rfl (hb hby at_235) rfl q) ?_
            show own_Go _ _ _ _ _ _ _ (T34.setTop (mkF m 237 #[.val (.long q0), .second, .val (.long q1), .second, .val (.long q2), .second, .val (.long q3), .second, .val (.long q4), .second, .val (.int p5), .val (.long y0), .second, .val (.long y1), .second, .val (.long y2), .second, .val (.long y3), .second, .val (.long y4), .second, .val (.int (3 : Int32)), .val (.int sel), .val (.ref b6), .val (.long qq), .second, .val (.int (1 : Int32))] [(.long qq), (.ref b6)]))
            refine own_virtual X34 hx hZ hown (hw _ (List.mem_of_getElem? (i := 31) rfl)) (hw _ (List.mem_of_getElem? (i := 32) rfl)) (hw _ (List.mem_of_getElem? (i := 34) rfl)) (hw _ (List.mem_of_getElem? (i := 33) rfl)) (hw _ (List.mem_of_getElem? (i := 7) rfl)) (hw _ (List.mem_of_getElem? (i := 35) rfl)) (by decide) rfl (a := b6) E_3_z (argsL := [(.long qq)]) (rest := []) (rm6 l Z a0 hw [] b6 tb_3_z Ln_3_z tbl_3_z qq (fun y => (fun y => (fun y => (fun _ => False) y ∨ y = y0) y ∨ y = y1) y ∨ y = y2) sz_3_z T34.heap n0 Z34 E_3_z Ft_3_z At_3_z (by rcases hLA_3_z with ⟨_, q, _⟩ | ⟨_, q, _⟩ <;> omega) (by have := I_3_z.2.2; rcases hLA_3_z with ⟨_, q, _⟩ | ⟨_, q, _⟩ <;> omega) I_3_z) 0 (by decide) (by decide) (by decide) (by decide) (by rw [hml]; rfl) pd_5 rfl rfl (Nat.le_of_eq rfl) (hb hby at_237) rfl ?_
            intro v40 T40 L40 X40 hQ40
            obtain ⟨r, rfl, N40q, e40q, hrr⟩ := hQ40
            have N40 := Fr.app N34 N40q
            show own_Go _ _ _ _ _ _ _ (T40.setTop (mkF m 240 #[.val (.long q0), .second, .val (.long q1), .second, .val (.long q2), .second, .val (.long q3), .second, .val (.long q4), .second, .val (.int p5), .val (.long y0), .second, .val (.long y1), .second, .val (.long y2), .second, .val (.long y3), .second, .val (.long y4), .second, .val (.int (3 : Int32)), .val (.int sel), .val (.ref b6), .val (.long qq), .second, .val (.int (1 : Int32))] [(.int r)]))
            refine own_go (fun _ q => XS.iload X40.here hx rfl (hb hby at_240) rfl q) ?_
            show own_Go _ _ _ _ _ _ _ (T40.setTop (mkF m 242 #[.val (.long q0), .second, .val (.long q1), .second, .val (.long q2), .second, .val (.long q3), .second, .val (.long q4), .second, .val (.int p5), .val (.long y0), .second, .val (.long y1), .second, .val (.long y2), .second, .val (.long y3), .second, .val (.long y4), .second, .val (.int (3 : Int32)), .val (.int sel), .val (.ref b6), .val (.long qq), .second, .val (.int (1 : Int32))] [(.int (1 : Int32)), (.int r)]))
            refine own_go (fun _ q => XS.icmpNo X40.here hx rfl (hb hby at_242) rfl (teq (by rcases hrr with ⟨rfl, u⟩ | ⟨rfl, u⟩; (· first | rfl | (exfalso; simp_all)); (· first | rfl | (exfalso; simp_all)))).2 q) ?_
            show own_Go _ _ _ _ _ _ _ (T40.setTop (mkF m 245 #[.val (.long q0), .second, .val (.long q1), .second, .val (.long q2), .second, .val (.long q3), .second, .val (.long q4), .second, .val (.int p5), .val (.long y0), .second, .val (.long y1), .second, .val (.long y2), .second, .val (.long y3), .second, .val (.long y4), .second, .val (.int (3 : Int32)), .val (.int sel), .val (.ref b6), .val (.long qq), .second, .val (.int (1 : Int32))] []))
            refine own_go (fun _ q => XS.iconst X40.here hx rfl (hb hby at_245) q) ?_
            show own_Go _ _ _ _ _ _ _ (T40.setTop (mkF m 246 #[.val (.long q0), .second, .val (.long q1), .second, .val (.long q2), .second, .val (.long q3), .second, .val (.long q4), .second, .val (.int p5), .val (.long y0), .second, .val (.long y1), .second, .val (.long y2), .second, .val (.long y3), .second, .val (.long y4), .second, .val (.int (3 : Int32)), .val (.int sel), .val (.ref b6), .val (.long qq), .second, .val (.int (1 : Int32))] [(.int (1 : Int32))]))
            refine own_go (fun _ q => XS.goto X40.here hx rfl (pc0 := 246) (pc' := 250) rfl (hb hby at_246) (by decide) (by decide) q) ?_
            show own_Go _ _ _ _ _ _ _ (T40.setTop (mkF m 250 #[.val (.long q0), .second, .val (.long q1), .second, .val (.long q2), .second, .val (.long q3), .second, .val (.long q4), .second, .val (.int p5), .val (.long y0), .second, .val (.long y1), .second, .val (.long y2), .second, .val (.long y3), .second, .val (.long y4), .second, .val (.int (3 : Int32)), .val (.int sel), .val (.ref b6), .val (.long qq), .second, .val (.int (1 : Int32))] [(.int (1 : Int32))]))
            exact own_retZ X40 hx hlk hret (hb hby at_250) (by decide) (by decide) (by decide) ⟨rfl, N40⟩
          · refine own_go (fun _ q => XS.ifNo X34.here hx rfl (hb hby at_209) rfl ((if0 _ _).trans (feq (fun q => hc209_39 ((lw_eq _ _).mp q))).1) q) ?_
            show own_Go _ _ _ _ _ _ _ (T34.setTop (mkF m 212 #[.val (.long q0), .second, .val (.long q1), .second, .val (.long q2), .second, .val (.long q3), .second, .val (.long q4), .second, .val (.int p5), .val (.long y0), .second, .val (.long y1), .second, .val (.long y2), .second, .val (.long y3), .second, .val (.long y4), .second, .val (.int (3 : Int32)), .val (.int sel), .val (.ref b6), .val (.long qq), .second, .unset] []))
            refine own_go (fun _ q => XS.iload X34.here hx rfl (hb hby at_212) rfl q) ?_
            show own_Go _ _ _ _ _ _ _ (T34.setTop (mkF m 214 #[.val (.long q0), .second, .val (.long q1), .second, .val (.long q2), .second, .val (.long q3), .second, .val (.long q4), .second, .val (.int p5), .val (.long y0), .second, .val (.long y1), .second, .val (.long y2), .second, .val (.long y3), .second, .val (.long y4), .second, .val (.int (3 : Int32)), .val (.int sel), .val (.ref b6), .val (.long qq), .second, .unset] [(.int (3 : Int32))]))
            refine own_go (fun _ q => XS.iconst X34.here hx rfl (hb hby at_214) q) ?_
            show own_Go _ _ _ _ _ _ _ (T34.setTop (mkF m 215 #[.val (.long q0), .second, .val (.long q1), .second, .val (.long q2), .second, .val (.long q3), .second, .val (.long q4), .second, .val (.int p5), .val (.long y0), .second, .val (.long y1), .second, .val (.long y2), .second, .val (.long y3), .second, .val (.long y4), .second, .val (.int (3 : Int32)), .val (.int sel), .val (.ref b6), .val (.long qq), .second, .unset] [(.int (4 : Int32)), (.int (3 : Int32))]))
            refine own_go (fun _ q => XS.icmpYes X34.here hx rfl (pc0 := 215) (pc' := 230) rfl (hb hby at_215) rfl (tlt (by decide : (3 : Int32) < (4 : Int32))).1 (by decide) (by decide) q) ?_
            show own_Go _ _ _ _ _ _ _ (T34.setTop (mkF m 230 #[.val (.long q0), .second, .val (.long q1), .second, .val (.long q2), .second, .val (.long q3), .second, .val (.long q4), .second, .val (.int p5), .val (.long y0), .second, .val (.long y1), .second, .val (.long y2), .second, .val (.long y3), .second, .val (.long y4), .second, .val (.int (3 : Int32)), .val (.int sel), .val (.ref b6), .val (.long qq), .second, .unset] []))
            refine own_go (fun _ q => XS.iconst X34.here hx rfl (hb hby at_230) q) ?_
            show own_Go _ _ _ _ _ _ _ (T34.setTop (mkF m 231 #[.val (.long q0), .second, .val (.long q1), .second, .val (.long q2), .second, .val (.long q3), .second, .val (.long q4), .second, .val (.int p5), .val (.long y0), .second, .val (.long y1), .second, .val (.long y2), .second, .val (.long y3), .second, .val (.long y4), .second, .val (.int (3 : Int32)), .val (.int sel), .val (.ref b6), .val (.long qq), .second, .unset] [(.int (0 : Int32))]))
            refine own_go (fun _ q => XS.istore X34.here hx rfl (hb hby at_231) rfl (l' := #[.val (.long q0), .second, .val (.long q1), .second, .val (.long q2), .second, .val (.long q3), .second, .val (.long q4), .second, .val (.int p5), .val (.long y0), .second, .val (.long y1), .second, .val (.long y2), .second, .val (.long y3), .second, .val (.long y4), .second, .val (.int (3 : Int32)), .val (.int sel), .val (.ref b6), .val (.long qq), .second, .val (.int (0 : Int32))]) rfl q) ?_
            show own_Go _ _ _ _ _ _ _ (T34.setTop (mkF m 233 #[.val (.long q0), .second, .val (.long q1), .second, .val (.long q2), .second, .val (.long q3), .second, .val (.long q4), .second, .val (.int p5), .val (.long y0), .second, .val (.long y1), .second, .val (.long y2), .second, .val (.long y3), .second, .val (.long y4), .second, .val (.int (3 : Int32)), .val (.int sel), .val (.ref b6), .val (.long qq), .second, .val (.int (0 : Int32))] []))
            refine own_go (fun _ q => XS.aload X34.here hx rfl (hb hby at_233) rfl rfl q) ?_
            show own_Go _ _ _ _ _ _ _ (T34.setTop (mkF m 235 #[.val (.long q0), .second, .val (.long q1), .second, .val (.long q2), .second, .val (.long q3), .second, .val (.long q4), .second, .val (.int p5), .val (.long y0), .second, .val (.long y1), .second, .val (.long y2), .second, .val (.long y3), .second, .val (.long y4), .second, .val (.int (3 : Int32)), .val (.int sel), .val (.ref b6), .val (.long qq), .second, .val (.int (0 : Int32))] [(.ref b6)]))
            refine own_go (fun _ q => XS.lload X34.here hx rfl (hb hby at_235) rfl q) ?_
            show own_Go _ _ _ _ _ _ _ (T34.setTop (mkF m 237 #[.val (.long q0), .second, .val (.long q1), .second, .val (.long q2), .second, .val (.long q3), .second, .val (.long q4), .second, .val (.int p5), .val (.long y0), .second, .val (.long y1), .second, .val (.long y2), .second, .val (.long y3), .second, .val (.long y4), .second, .val (.int (3 : Int32)), .val (.int sel), .val (.ref b6), .val (.long qq), .second, .val (.int (0 : Int32))] [(.long qq), (.ref b6)]))
            refine own_virtual X34 hx hZ hown (hw _ (List.mem_of_getElem? (i := 31) rfl)) (hw _ (List.mem_of_getElem? (i := 32) rfl)) (hw _ (List.mem_of_getElem? (i := 34) rfl)) (hw _ (List.mem_of_getElem? (i := 33) rfl)) (hw _ (List.mem_of_getElem? (i := 7) rfl)) (hw _ (List.mem_of_getElem? (i := 35) rfl)) (by decide) rfl (a := b6) E_3_z (argsL := [(.long qq)]) (rest := []) (rm6 l Z a0 hw [] b6 tb_3_z Ln_3_z tbl_3_z qq (fun y => (fun y => (fun y => (fun _ => False) y ∨ y = y0) y ∨ y = y1) y ∨ y = y2) sz_3_z T34.heap n0 Z34 E_3_z Ft_3_z At_3_z (by rcases hLA_3_z with ⟨_, q, _⟩ | ⟨_, q, _⟩ <;> omega) (by have := I_3_z.2.2; rcases hLA_3_z with ⟨_, q, _⟩ | ⟨_, q, _⟩ <;> omega) I_3_z) 0 (by decide) (by decide) (by decide) (by decide) (by rw [hml]; rfl) pd_5 rfl rfl (Nat.le_of_eq rfl) (hb hby at_237) rfl ?_
            intro v41 T41 L41 X41 hQ41
            obtain ⟨r, rfl, N41q, e41q, hrr⟩ := hQ41
            have N41 := Fr.app N34 N41q
            show own_Go _ _ _ _ _ _ _ (T41.setTop (mkF m 240 #[.val (.long q0), .second, .val (.long q1), .second, .val (.long q2), .second, .val (.long q3), .second, .val (.long q4), .second, .val (.int p5), .val (.long y0), .second, .val (.long y1), .second, .val (.long y2), .second, .val (.long y3), .second, .val (.long y4), .second, .val (.int (3 : Int32)), .val (.int sel), .val (.ref b6), .val (.long qq), .second, .val (.int (0 : Int32))] [(.int r)]))
            refine own_go (fun _ q => XS.iload X41.here hx rfl (hb hby at_240) rfl q) ?_
            show own_Go _ _ _ _ _ _ _ (T41.setTop (mkF m 242 #[.val (.long q0), .second, .val (.long q1), .second, .val (.long q2), .second, .val (.long q3), .second, .val (.long q4), .second, .val (.int p5), .val (.long y0), .second, .val (.long y1), .second, .val (.long y2), .second, .val (.long y3), .second, .val (.long y4), .second, .val (.int (3 : Int32)), .val (.int sel), .val (.ref b6), .val (.long qq), .second, .val (.int (0 : Int32))] [(.int (0 : Int32)), (.int r)]))
            refine own_go (fun _ q => XS.icmpNo X41.here hx rfl (hb hby at_242) rfl (teq (by rcases hrr with ⟨rfl, u⟩ | ⟨rfl, u⟩; (· first | rfl | (exfalso; simp_all)); (· first | rfl | (exfalso; simp_all)))).2 q) ?_
            show own_Go _ _ _ _ _ _ _ (T41.setTop (mkF m 245 #[.val (.long q0), .second, .val (.long q1), .second, .val (.long q2), .second, .val (.long q3), .second, .val (.long q4), .second, .val (.int p5), .val (.long y0), .second, .val (.long y1), .second, .val (.long y2), .second, .val (.long y3), .second, .val (.long y4), .second, .val (.int (3 : Int32)), .val (.int sel), .val (.ref b6), .val (.long qq), .second, .val (.int (0 : Int32))] []))
            refine own_go (fun _ q => XS.iconst X41.here hx rfl (hb hby at_245) q) ?_
            show own_Go _ _ _ _ _ _ _ (T41.setTop (mkF m 246 #[.val (.long q0), .second, .val (.long q1), .second, .val (.long q2), .second, .val (.long q3), .second, .val (.long q4), .second, .val (.int p5), .val (.long y0), .second, .val (.long y1), .second, .val (.long y2), .second, .val (.long y3), .second, .val (.long y4), .second, .val (.int (3 : Int32)), .val (.int sel), .val (.ref b6), .val (.long qq), .second, .val (.int (0 : Int32))] [(.int (1 : Int32))]))
            refine own_go (fun _ q => XS.goto X41.here hx rfl (pc0 := 246) (pc' := 250) rfl (hb hby at_246) (by decide) (by decide) q) ?_
            show own_Go _ _ _ _ _ _ _ (T41.setTop (mkF m 250 #[.val (.long q0), .second, .val (.long q1), .second, .val (.long q2), .second, .val (.long q3), .second, .val (.long q4), .second, .val (.int p5), .val (.long y0), .second, .val (.long y1), .second, .val (.long y2), .second, .val (.long y3), .second, .val (.long y4), .second, .val (.int (3 : Int32)), .val (.int sel), .val (.ref b6), .val (.long qq), .second, .val (.int (0 : Int32))] [(.int (1 : Int32))]))
            exact own_retZ X41 hx hlk hret (hb hby at_250) (by decide) (by decide) (by decide) ⟨rfl, N41⟩
    refine own_go (fun _ q => XS.iload X34.here hx rfl (hb hby at_122) rfl q) ?_
    show own_Go _ _ _ _ _ _ _ (T34.setTop (mkF m 124 #[.val (.long q0), .second, .val (.long q1), .second, .val (.long q2), .second, .val (.long q3), .second, .val (.long q4), .second, .val (.int p5), .val (.long y0), .second, .val (.long y1), .second, .val (.long y2), .second, .val (.long y3), .second, .val (.long y4), .second, .val (.int (3 : Int32)), .val (.int sel), .val (.ref b6), .val (.long y4), .second, .unset] [(.int sel)]))
    by_cases hc124_42 : sel = (0 : Int32)
    · refine own_go (fun _ q => XS.ifNo X34.here hx rfl (hb hby at_124) rfl ((if0 _ _).trans (teq hc124_42).2) q) ?_
      show own_Go _ _ _ _ _ _ _ (T34.setTop (mkF m 127 #[.val (.long q0), .second, .val (.long q1), .second, .val (.long q2), .second, .val (.long q3), .second, .val (.long q4), .second, .val (.int p5), .val (.long y0), .second, .val (.long y1), .second, .val (.long y2), .second, .val (.long y3), .second, .val (.long y4), .second, .val (.int (3 : Int32)), .val (.int sel), .val (.ref b6), .val (.long y4), .second, .unset] []))
      refine own_go (fun _ q => XS.lload X34.here hx rfl (hb hby at_127) rfl q) ?_
      show own_Go _ _ _ _ _ _ _ (T34.setTop (mkF m 129 #[.val (.long q0), .second, .val (.long q1), .second, .val (.long q2), .second, .val (.long q3), .second, .val (.long q4), .second, .val (.int p5), .val (.long y0), .second, .val (.long y1), .second, .val (.long y2), .second, .val (.long y3), .second, .val (.long y4), .second, .val (.int (3 : Int32)), .val (.int sel), .val (.ref b6), .val (.long y4), .second, .unset] [(.long y0)]))
      refine own_go (fun _ q => XS.lstore X34.here hx rfl (hb hby at_129) rfl (l' := #[.val (.long q0), .second, .val (.long q1), .second, .val (.long q2), .second, .val (.long q3), .second, .val (.long q4), .second, .val (.int p5), .val (.long y0), .second, .val (.long y1), .second, .val (.long y2), .second, .val (.long y3), .second, .val (.long y4), .second, .val (.int (3 : Int32)), .val (.int sel), .val (.ref b6), .val (.long y0), .second, .unset]) rfl q) ?_
      show own_Go _ _ _ _ _ _ _ (T34.setTop (mkF m 131 #[.val (.long q0), .second, .val (.long q1), .second, .val (.long q2), .second, .val (.long q3), .second, .val (.long q4), .second, .val (.int p5), .val (.long y0), .second, .val (.long y1), .second, .val (.long y2), .second, .val (.long y3), .second, .val (.long y4), .second, .val (.int (3 : Int32)), .val (.int sel), .val (.ref b6), .val (.long y0), .second, .unset] []))
      refine own_go (fun _ q => XS.goto X34.here hx rfl (pc0 := 131) (pc' := 170) rfl (hb hby at_131) (by decide) (by decide) q) ?_
      show own_Go _ _ _ _ _ _ _ (T34.setTop (mkF m 170 #[.val (.long q0), .second, .val (.long q1), .second, .val (.long q2), .second, .val (.long q3), .second, .val (.long q4), .second, .val (.int p5), .val (.long y0), .second, .val (.long y1), .second, .val (.long y2), .second, .val (.long y3), .second, .val (.long y4), .second, .val (.int (3 : Int32)), .val (.int sel), .val (.ref b6), .val (.long y0), .second, .unset] []))
      exact join _
    · refine own_go (fun _ q => XS.ifYes X34.here hx rfl (pc0 := 124) (pc' := 134) rfl (hb hby at_124) rfl ((if0 _ _).trans (feq hc124_42).2) (by decide) (by decide) q) ?_
      show own_Go _ _ _ _ _ _ _ (T34.setTop (mkF m 134 #[.val (.long q0), .second, .val (.long q1), .second, .val (.long q2), .second, .val (.long q3), .second, .val (.long q4), .second, .val (.int p5), .val (.long y0), .second, .val (.long y1), .second, .val (.long y2), .second, .val (.long y3), .second, .val (.long y4), .second, .val (.int (3 : Int32)), .val (.int sel), .val (.ref b6), .val (.long y4), .second, .unset] []))
      refine own_go (fun _ q => XS.iload X34.here hx rfl (hb hby at_134) rfl q) ?_
      show own_Go _ _ _ _ _ _ _ (T34.setTop (mkF m 136 #[.val (.long q0), .second, .val (.long q1), .second, .val (.long q2), .second, .val (.long q3), .second, .val (.long q4), .second, .val (.int p5), .val (.long y0), .second, .val (.long y1), .second, .val (.long y2), .second, .val (.long y3), .second, .val (.long y4), .second, .val (.int (3 : Int32)), .val (.int sel), .val (.ref b6), .val (.long y4), .second, .unset] [(.int sel)]))
      refine own_go (fun _ q => XS.iconst X34.here hx rfl (hb hby at_136) q) ?_
      show own_Go _ _ _ _ _ _ _ (T34.setTop (mkF m 137 #[.val (.long q0), .second, .val (.long q1), .second, .val (.long q2), .second, .val (.long q3), .second, .val (.long q4), .second, .val (.int p5), .val (.long y0), .second, .val (.long y1), .second, .val (.long y2), .second, .val (.long y3), .second, .val (.long y4), .second, .val (.int (3 : Int32)), .val (.int sel), .val (.ref b6), .val (.long y4), .second, .unset] [(.int (1 : Int32)), (.int sel)]))
      by_cases hc137_43 : sel = (1 : Int32)
      · refine own_go (fun _ q => XS.icmpNo X34.here hx rfl (hb hby at_137) rfl (teq hc137_43).2 q) ?_
        show own_Go _ _ _ _ _ _ _ (T34.setTop (mkF m 140 #[.val (.long q0), .second, .val (.long q1), .second, .val (.long q2), .second, .val (.long q3), .second, .val (.long q4), .second, .val (.int p5), .val (.long y0), .second, .val (.long y1), .second, .val (.long y2), .second, .val (.long y3), .second, .val (.long y4), .second, .val (.int (3 : Int32)), .val (.int sel), .val (.ref b6), .val (.long y4), .second, .unset] []))
        refine own_go (fun _ q => XS.lload X34.here hx rfl (hb hby at_140) rfl q) ?_
        show own_Go _ _ _ _ _ _ _ (T34.setTop (mkF m 142 #[.val (.long q0), .second, .val (.long q1), .second, .val (.long q2), .second, .val (.long q3), .second, .val (.long q4), .second, .val (.int p5), .val (.long y0), .second, .val (.long y1), .second, .val (.long y2), .second, .val (.long y3), .second, .val (.long y4), .second, .val (.int (3 : Int32)), .val (.int sel), .val (.ref b6), .val (.long y4), .second, .unset] [(.long y1)]))
        refine own_go (fun _ q => XS.lstore X34.here hx rfl (hb hby at_142) rfl (l' := #[.val (.long q0), .second, .val (.long q1), .second, .val (.long q2), .second, .val (.long q3), .second, .val (.long q4), .second, .val (.int p5), .val (.long y0), .second, .val (.long y1), .second, .val (.long y2), .second, .val (.long y3), .second, .val (.long y4), .second, .val (.int (3 : Int32)), .val (.int sel), .val (.ref b6), .val (.long y1), .second, .unset]) rfl q) ?_
        show own_Go _ _ _ _ _ _ _ (T34.setTop (mkF m 144 #[.val (.long q0), .second, .val (.long q1), .second, .val (.long q2), .second, .val (.long q3), .second, .val (.long q4), .second, .val (.int p5), .val (.long y0), .second, .val (.long y1), .second, .val (.long y2), .second, .val (.long y3), .second, .val (.long y4), .second, .val (.int (3 : Int32)), .val (.int sel), .val (.ref b6), .val (.long y1), .second, .unset] []))
        refine own_go (fun _ q => XS.goto X34.here hx rfl (pc0 := 144) (pc' := 170) rfl (hb hby at_144) (by decide) (by decide) q) ?_
        show own_Go _ _ _ _ _ _ _ (T34.setTop (mkF m 170 #[.val (.long q0), .second, .val (.long q1), .second, .val (.long q2), .second, .val (.long q3), .second, .val (.long q4), .second, .val (.int p5), .val (.long y0), .second, .val (.long y1), .second, .val (.long y2), .second, .val (.long y3), .second, .val (.long y4), .second, .val (.int (3 : Int32)), .val (.int sel), .val (.ref b6), .val (.long y1), .second, .unset] []))
        exact join _
      · refine own_go (fun _ q => XS.icmpYes X34.here hx rfl (pc0 := 137) (pc' := 147) rfl (hb hby at_137) rfl (feq hc137_43).2 (by decide) (by decide) q) ?_
        show own_Go _ _ _ _ _ _ _ (T34.setTop (mkF m 147 #[.val (.long q0), .second, .val (.long q1), .second, .val (.long q2), .second, .val (.long q3), .second, .val (.long q4), .second, .val (.int p5), .val (.long y0), .second, .val (.long y1), .second, .val (.long y2), .second, .val (.long y3), .second, .val (.long y4), .second, .val (.int (3 : Int32)), .val (.int sel), .val (.ref b6), .val (.long y4), .second, .unset] []))
        refine own_go (fun _ q => XS.iload X34.here hx rfl (hb hby at_147) rfl q) ?_
        show own_Go _ _ _ _ _ _ _ (T34.setTop (mkF m 149 #[.val (.long q0), .second, .val (.long q1), .second, .val (.long q2), .second, .val (.long q3), .second, .val (.long q4), .second, .val (.int p5), .val (.long y0), .second, .val (.long y1), .second, .val (.long y2), .second, .val (.long y3), .second, .val (.long y4), .second, .val (.int (3 : Int32)), .val (.int sel), .val (.ref b6), .val (.long y4), .second, .unset] [(.int sel)]))
        refine own_go (fun _ q => XS.iconst X34.here hx rfl (hb hby at_149) q) ?_
        show own_Go _ _ _ _ _ _ _ (T34.setTop (mkF m 150 #[.val (.long q0), .second, .val (.long q1), .second, .val (.long q2), .second, .val (.long q3), .second, .val (.long q4), .second, .val (.int p5), .val (.long y0), .second, .val (.long y1), .second, .val (.long y2), .second, .val (.long y3), .second, .val (.long y4), .second, .val (.int (3 : Int32)), .val (.int sel), .val (.ref b6), .val (.long y4), .second, .unset] [(.int (2 : Int32)), (.int sel)]))
        by_cases hc150_44 : sel = (2 : Int32)
        · refine own_go (fun _ q => XS.icmpNo X34.here hx rfl (hb hby at_150) rfl (teq hc150_44).2 q) ?_
          show own_Go _ _ _ _ _ _ _ (T34.setTop (mkF m 153 #[.val (.long q0), .second, .val (.long q1), .second, .val (.long q2), .second, .val (.long q3), .second, .val (.long q4), .second, .val (.int p5), .val (.long y0), .second, .val (.long y1), .second, .val (.long y2), .second, .val (.long y3), .second, .val (.long y4), .second, .val (.int (3 : Int32)), .val (.int sel), .val (.ref b6), .val (.long y4), .second, .unset] []))
          refine own_go (fun _ q => XS.lload X34.here hx rfl (hb hby at_153) rfl q) ?_
          show own_Go _ _ _ _ _ _ _ (T34.setTop (mkF m 155 #[.val (.long q0), .second, .val (.long q1), .second, .val (.long q2), .second, .val (.long q3), .second, .val (.long q4), .second, .val (.int p5), .val (.long y0), .second, .val (.long y1), .second, .val (.long y2), .second, .val (.long y3), .second, .val (.long y4), .second, .val (.int (3 : Int32)), .val (.int sel), .val (.ref b6), .val (.long y4), .second, .unset] [(.long y2)]))
          refine own_go (fun _ q => XS.lstore X34.here hx rfl (hb hby at_155) rfl (l' := #[.val (.long q0), .second, .val (.long q1), .second, .val (.long q2), .second, .val (.long q3), .second, .val (.long q4), .second, .val (.int p5), .val (.long y0), .second, .val (.long y1), .second, .val (.long y2), .second, .val (.long y3), .second, .val (.long y4), .second, .val (.int (3 : Int32)), .val (.int sel), .val (.ref b6), .val (.long y2), .second, .unset]) rfl q) ?_
          show own_Go _ _ _ _ _ _ _ (T34.setTop (mkF m 157 #[.val (.long q0), .second, .val (.long q1), .second, .val (.long q2), .second, .val (.long q3), .second, .val (.long q4), .second, .val (.int p5), .val (.long y0), .second, .val (.long y1), .second, .val (.long y2), .second, .val (.long y3), .second, .val (.long y4), .second, .val (.int (3 : Int32)), .val (.int sel), .val (.ref b6), .val (.long y2), .second, .unset] []))
          refine own_go (fun _ q => XS.goto X34.here hx rfl (pc0 := 157) (pc' := 170) rfl (hb hby at_157) (by decide) (by decide) q) ?_
          show own_Go _ _ _ _ _ _ _ (T34.setTop (mkF m 170 #[.val (.long q0), .second, .val (.long q1), .second, .val (.long q2), .second, .val (.long q3), .second, .val (.long q4), .second, .val (.int p5), .val (.long y0), .second, .val (.long y1), .second, .val (.long y2), .second, .val (.long y3), .second, .val (.long y4), .second, .val (.int (3 : Int32)), .val (.int sel), .val (.ref b6), .val (.long y2), .second, .unset] []))
          exact join _
        · refine own_go (fun _ q => XS.icmpYes X34.here hx rfl (pc0 := 150) (pc' := 160) rfl (hb hby at_150) rfl (feq hc150_44).2 (by decide) (by decide) q) ?_
          show own_Go _ _ _ _ _ _ _ (T34.setTop (mkF m 160 #[.val (.long q0), .second, .val (.long q1), .second, .val (.long q2), .second, .val (.long q3), .second, .val (.long q4), .second, .val (.int p5), .val (.long y0), .second, .val (.long y1), .second, .val (.long y2), .second, .val (.long y3), .second, .val (.long y4), .second, .val (.int (3 : Int32)), .val (.int sel), .val (.ref b6), .val (.long y4), .second, .unset] []))
          refine own_go (fun _ q => XS.iload X34.here hx rfl (hb hby at_160) rfl q) ?_
          show own_Go _ _ _ _ _ _ _ (T34.setTop (mkF m 162 #[.val (.long q0), .second, .val (.long q1), .second, .val (.long q2), .second, .val (.long q3), .second, .val (.long q4), .second, .val (.int p5), .val (.long y0), .second, .val (.long y1), .second, .val (.long y2), .second, .val (.long y3), .second, .val (.long y4), .second, .val (.int (3 : Int32)), .val (.int sel), .val (.ref b6), .val (.long y4), .second, .unset] [(.int sel)]))
          refine own_go (fun _ q => XS.iconst X34.here hx rfl (hb hby at_162) q) ?_
          show own_Go _ _ _ _ _ _ _ (T34.setTop (mkF m 163 #[.val (.long q0), .second, .val (.long q1), .second, .val (.long q2), .second, .val (.long q3), .second, .val (.long q4), .second, .val (.int p5), .val (.long y0), .second, .val (.long y1), .second, .val (.long y2), .second, .val (.long y3), .second, .val (.long y4), .second, .val (.int (3 : Int32)), .val (.int sel), .val (.ref b6), .val (.long y4), .second, .unset] [(.int (3 : Int32)), (.int sel)]))
          by_cases hc163_45 : sel = (3 : Int32)
          · refine own_go (fun _ q => XS.icmpNo X34.here hx rfl (hb hby at_163) rfl (teq hc163_45).2 q) ?_
            show own_Go _ _ _ _ _ _ _ (T34.setTop (mkF m 166 #[.val (.long q0), .second, .val (.long q1), .second, .val (.long q2), .second, .val (.long q3), .second, .val (.long q4), .second, .val (.int p5), .val (.long y0), .second, .val (.long y1), .second, .val (.long y2), .second, .val (.long y3), .second, .val (.long y4), .second, .val (.int (3 : Int32)), .val (.int sel), .val (.ref b6), .val (.long y4), .second, .unset] []))
            refine own_go (fun _ q => XS.lload X34.here hx rfl (hb hby at_166) rfl q) ?_
            show own_Go _ _ _ _ _ _ _ (T34.setTop (mkF m 168 #[.val (.long q0), .second, .val (.long q1), .second, .val (.long q2), .second, .val (.long q3), .second, .val (.long q4), .second, .val (.int p5), .val (.long y0), .second, .val (.long y1), .second, .val (.long y2), .second, .val (.long y3), .second, .val (.long y4), .second, .val (.int (3 : Int32)), .val (.int sel), .val (.ref b6), .val (.long y4), .second, .unset] [(.long y3)]))
            refine own_go (fun _ q => XS.lstore X34.here hx rfl (hb hby at_168) rfl (l' := #[.val (.long q0), .second, .val (.long q1), .second, .val (.long q2), .second, .val (.long q3), .second, .val (.long q4), .second, .val (.int p5), .val (.long y0), .second, .val (.long y1), .second, .val (.long y2), .second, .val (.long y3), .second, .val (.long y4), .second, .val (.int (3 : Int32)), .val (.int sel), .val (.ref b6), .val (.long y3), .second, .unset]) rfl q) ?_
            show own_Go _ _ _ _ _ _ _ (T34.setTop (mkF m 170 #[.val (.long q0), .second, .val (.long q1), .second, .val (.long q2), .second, .val (.long q3), .second, .val (.long q4), .second, .val (.int p5), .val (.long y0), .second, .val (.long y1), .second, .val (.long y2), .second, .val (.long y3), .second, .val (.long y4), .second, .val (.int (3 : Int32)), .val (.int sel), .val (.ref b6), .val (.long y3), .second, .unset] []))
            exact join _
          · refine own_go (fun _ q => XS.icmpYes X34.here hx rfl (pc0 := 163) (pc' := 170) rfl (hb hby at_163) rfl (feq hc163_45).2 (by decide) (by decide) q) ?_
            show own_Go _ _ _ _ _ _ _ (T34.setTop (mkF m 170 #[.val (.long q0), .second, .val (.long q1), .second, .val (.long q2), .second, .val (.long q3), .second, .val (.long q4), .second, .val (.int p5), .val (.long y0), .second, .val (.long y1), .second, .val (.long y2), .second, .val (.long y3), .second, .val (.long y4), .second, .val (.int (3 : Int32)), .val (.int sel), .val (.ref b6), .val (.long y4), .second, .unset] []))
            exact join _
  · rw [q]
    show own_Go _ _ _ _ _ _ _ (T7.setTop (mkF m 65 #[.val (.long q0), .second, .val (.long q1), .second, .val (.long q2), .second, .val (.long q3), .second, .val (.long q4), .second, .val (.int p5), .val (.long y0), .second, .val (.long y1), .second, .val (.long y2), .second, .val (.long y3), .second, .val (.long y4), .second, .val (.int (4 : Int32)), .val (.int sel), .val (.ref b6), .unset, .unset, .unset] [(.int (1 : Int32)), (.int (4 : Int32))]))
    refine own_go (fun _ q => XS.icmpNo X7.here hx rfl (hb hby at_65) rfl (flt (by decide : ¬ ((4 : Int32) < (1 : Int32)))).1 q) ?_
    show own_Go _ _ _ _ _ _ _ (T7.setTop (mkF m 68 #[.val (.long q0), .second, .val (.long q1), .second, .val (.long q2), .second, .val (.long q3), .second, .val (.long q4), .second, .val (.int p5), .val (.long y0), .second, .val (.long y1), .second, .val (.long y2), .second, .val (.long y3), .second, .val (.long y4), .second, .val (.int (4 : Int32)), .val (.int sel), .val (.ref b6), .unset, .unset, .unset] []))
    refine own_go (fun _ q => XS.aload X7.here hx rfl (hb hby at_68) rfl rfl q) ?_
    show own_Go _ _ _ _ _ _ _ (T7.setTop (mkF m 70 #[.val (.long q0), .second, .val (.long q1), .second, .val (.long q2), .second, .val (.long q3), .second, .val (.long q4), .second, .val (.int p5), .val (.long y0), .second, .val (.long y1), .second, .val (.long y2), .second, .val (.long y3), .second, .val (.long y4), .second, .val (.int (4 : Int32)), .val (.int sel), .val (.ref b6), .unset, .unset, .unset] [(.ref b6)]))
    refine own_go (fun _ q => XS.lload X7.here hx rfl (hb hby at_70) rfl q) ?_
    show own_Go _ _ _ _ _ _ _ (T7.setTop (mkF m 72 #[.val (.long q0), .second, .val (.long q1), .second, .val (.long q2), .second, .val (.long q3), .second, .val (.long q4), .second, .val (.int p5), .val (.long y0), .second, .val (.long y1), .second, .val (.long y2), .second, .val (.long y3), .second, .val (.long y4), .second, .val (.int (4 : Int32)), .val (.int sel), .val (.ref b6), .unset, .unset, .unset] [(.long y0), (.ref b6)]))
    obtain ⟨tb_4_0, ad_4_0, Ln_4_0, AL_4_0, sz_4_0, tbl_4_0, add_4_0, zs_4_0, E_4_0, Ft_4_0, Fa_4_0, Fs_4_0, At_4_0, Aa_4_0, go_4_0, gt_4_0, ga_4_0, neta_4_0, neot_4_0, neoa_4_0, hzs_4_0, hk_4_0, hLA_4_0, I_4_0, HA_4_0⟩ := St7
    refine own_virtual X7 hx hZ hown (hw _ (List.mem_of_getElem? (i := 19) rfl)) (hw _ (List.mem_of_getElem? (i := 20) rfl)) (hw _ (List.mem_of_getElem? (i := 22) rfl)) (hw _ (List.mem_of_getElem? (i := 21) rfl)) (hw _ (List.mem_of_getElem? (i := 7) rfl)) (hw _ (List.mem_of_getElem? (i := 23) rfl)) (by decide) rfl (a := b6) E_4_0 (argsL := [(.long y0)]) (rest := []) (rm4 l Z a0 hw [] b6 tb_4_0 ad_4_0 Ln_4_0 AL_4_0 sz_4_0 tbl_4_0 add_4_0 zs_4_0 y0 (fun _ => False) T7.heap n0 Z7 E_4_0 Ft_4_0 Fa_4_0 Fs_4_0 At_4_0 Aa_4_0 go_4_0 gt_4_0 ga_4_0 neta_4_0 neot_4_0 neoa_4_0 hzs_4_0 (by omega) hLA_4_0 I_4_0 HA_4_0 hy0) 0 (by decide) (by decide) (by decide) (by decide) (by rw [hml]; rfl) pd_5 rfl rfl (Nat.le_of_eq rfl) (hb hby at_72) rfl ?_
    intro v46 T46 L46 X46 hQ46
    obtain ⟨r46, rfl, N46q, St46, zz46⟩ := hQ46
    have N46 := Fr.app N7 N46q
    show own_Go _ _ _ _ _ _ _ (T46.setTop (mkF m 75 #[.val (.long q0), .second, .val (.long q1), .second, .val (.long q2), .second, .val (.long q3), .second, .val (.long q4), .second, .val (.int p5), .val (.long y0), .second, .val (.long y1), .second, .val (.long y2), .second, .val (.long y3), .second, .val (.long y4), .second, .val (.int (4 : Int32)), .val (.int sel), .val (.ref b6), .unset, .unset, .unset] [(.int r46)]))
    have Z46 : n0 ≤ T46.heap.size := Nat.le_trans Z7 zz46
    have St46' := St46.mono (k' := 1) (by omega)
    refine own_go (fun _ q => XS.pop X46.here hx rfl (hb hby at_75) rfl rfl q) ?_
    show own_Go _ _ _ _ _ _ _ (T46.setTop (mkF m 76 #[.val (.long q0), .second, .val (.long q1), .second, .val (.long q2), .second, .val (.long q3), .second, .val (.long q4), .second, .val (.int p5), .val (.long y0), .second, .val (.long y1), .second, .val (.long y2), .second, .val (.long y3), .second, .val (.long y4), .second, .val (.int (4 : Int32)), .val (.int sel), .val (.ref b6), .unset, .unset, .unset] []))
    refine own_go (fun _ q => XS.iload X46.here hx rfl (hb hby at_76) rfl q) ?_
    show own_Go _ _ _ _ _ _ _ (T46.setTop (mkF m 78 #[.val (.long q0), .second, .val (.long q1), .second, .val (.long q2), .second, .val (.long q3), .second, .val (.long q4), .second, .val (.int p5), .val (.long y0), .second, .val (.long y1), .second, .val (.long y2), .second, .val (.long y3), .second, .val (.long y4), .second, .val (.int (4 : Int32)), .val (.int sel), .val (.ref b6), .unset, .unset, .unset] [(.int (4 : Int32))]))
    refine own_go (fun _ q => XS.iconst X46.here hx rfl (hb hby at_78) q) ?_
    show own_Go _ _ _ _ _ _ _ (T46.setTop (mkF m 79 #[.val (.long q0), .second, .val (.long q1), .second, .val (.long q2), .second, .val (.long q3), .second, .val (.long q4), .second, .val (.int p5), .val (.long y0), .second, .val (.long y1), .second, .val (.long y2), .second, .val (.long y3), .second, .val (.long y4), .second, .val (.int (4 : Int32)), .val (.int sel), .val (.ref b6), .unset, .unset, .unset] [(.int (2 : Int32)), (.int (4 : Int32))]))
    refine own_go (fun _ q => XS.icmpNo X46.here hx rfl (hb hby at_79) rfl (flt (by decide : ¬ ((4 : Int32) < (2 : Int32)))).1 q) ?_
    show own_Go _ _ _ _ _ _ _ (T46.setTop (mkF m 82 #[.val (.long q0), .second, .val (.long q1), .second, .val (.long q2), .second, .val (.long q3), .second, .val (.long q4), .second, .val (.int p5), .val (.long y0), .second, .val (.long y1), .second, .val (.long y2), .second, .val (.long y3), .second, .val (.long y4), .second, .val (.int (4 : Int32)), .val (.int sel), .val (.ref b6), .unset, .unset, .unset] []))
    refine own_go (fun _ q => XS.aload X46.here hx rfl (hb hby at_82) rfl rfl q) ?_
    show own_Go _ _ _ _ _ _ _ (T46.setTop (mkF m 84 #[.val (.long q0), .second, .val (.long q1), .second, .val (.long q2), .second, .val (.long q3), .second, .val (.long q4), .second, .val (.int p5), .val (.long y0), .second, .val (.long y1), .second, .val (.long y2), .second, .val (.long y3), .second, .val (.long y4), .second, .val (.int (4 : Int32)), .val (.int sel), .val (.ref b6), .unset, .unset, .unset] [(.ref b6)]))
    refine own_go (fun _ q => XS.lload X46.here hx rfl (hb hby at_84) rfl q) ?_
    show own_Go _ _ _ _ _ _ _ (T46.setTop (mkF m 86 #[.val (.long q0), .second, .val (.long q1), .second, .val (.long q2), .second, .val (.long q3), .second, .val (.long q4), .second, .val (.int p5), .val (.long y0), .second, .val (.long y1), .second, .val (.long y2), .second, .val (.long y3), .second, .val (.long y4), .second, .val (.int (4 : Int32)), .val (.int sel), .val (.ref b6), .unset, .unset, .unset] [(.long y1), (.ref b6)]))
    obtain ⟨tb_4_1, ad_4_1, Ln_4_1, AL_4_1, sz_4_1, tbl_4_1, add_4_1, zs_4_1, E_4_1, Ft_4_1, Fa_4_1, Fs_4_1, At_4_1, Aa_4_1, go_4_1, gt_4_1, ga_4_1, neta_4_1, neot_4_1, neoa_4_1, hzs_4_1, hk_4_1, hLA_4_1, I_4_1, HA_4_1⟩ := St46'
    refine own_virtual X46 hx hZ hown (hw _ (List.mem_of_getElem? (i := 19) rfl)) (hw _ (List.mem_of_getElem? (i := 20) rfl)) (hw _ (List.mem_of_getElem? (i := 22) rfl)) (hw _ (List.mem_of_getElem? (i := 21) rfl)) (hw _ (List.mem_of_getElem? (i := 7) rfl)) (hw _ (List.mem_of_getElem? (i := 23) rfl)) (by decide) rfl (a := b6) E_4_1 (argsL := [(.long y1)]) (rest := []) (rm4 l Z a0 hw [] b6 tb_4_1 ad_4_1 Ln_4_1 AL_4_1 sz_4_1 tbl_4_1 add_4_1 zs_4_1 y1 (fun y => (fun _ => False) y ∨ y = y0) T46.heap n0 Z46 E_4_1 Ft_4_1 Fa_4_1 Fs_4_1 At_4_1 Aa_4_1 go_4_1 gt_4_1 ga_4_1 neta_4_1 neot_4_1 neoa_4_1 hzs_4_1 (by omega) hLA_4_1 I_4_1 HA_4_1 hy1) 0 (by decide) (by decide) (by decide) (by decide) (by rw [hml]; rfl) pd_5 rfl rfl (Nat.le_of_eq rfl) (hb hby at_86) rfl ?_
    intro v47 T47 L47 X47 hQ47
    obtain ⟨r47, rfl, N47q, St47, zz47⟩ := hQ47
    have N47 := Fr.app N46 N47q
    show own_Go _ _ _ _ _ _ _ (T47.setTop (mkF m 89 #[.val (.long q0), .second, .val (.long q1), .second, .val (.long q2), .second, .val (.long q3), .second, .val (.long q4), .second, .val (.int p5), .val (.long y0), .second, .val (.long y1), .second, .val (.long y2), .second, .val (.long y3), .second, .val (.long y4), .second, .val (.int (4 : Int32)), .val (.int sel), .val (.ref b6), .unset, .unset, .unset] [(.int r47)]))
    have Z47 : n0 ≤ T47.heap.size := Nat.le_trans Z46 zz47
    have St47' := St47.mono (k' := 2) (by omega)
    refine own_go (fun _ q => XS.pop X47.here hx rfl (hb hby at_89) rfl rfl q) ?_
    show own_Go _ _ _ _ _ _ _ (T47.setTop (mkF m 90 #[.val (.long q0), .second, .val (.long q1), .second, .val (.long q2), .second, .val (.long q3), .second, .val (.long q4), .second, .val (.int p5), .val (.long y0), .second, .val (.long y1), .second, .val (.long y2), .second, .val (.long y3), .second, .val (.long y4), .second, .val (.int (4 : Int32)), .val (.int sel), .val (.ref b6), .unset, .unset, .unset] []))
    refine own_go (fun _ q => XS.iload X47.here hx rfl (hb hby at_90) rfl q) ?_
    show own_Go _ _ _ _ _ _ _ (T47.setTop (mkF m 92 #[.val (.long q0), .second, .val (.long q1), .second, .val (.long q2), .second, .val (.long q3), .second, .val (.long q4), .second, .val (.int p5), .val (.long y0), .second, .val (.long y1), .second, .val (.long y2), .second, .val (.long y3), .second, .val (.long y4), .second, .val (.int (4 : Int32)), .val (.int sel), .val (.ref b6), .unset, .unset, .unset] [(.int (4 : Int32))]))
    refine own_go (fun _ q => XS.iconst X47.here hx rfl (hb hby at_92) q) ?_
    show own_Go _ _ _ _ _ _ _ (T47.setTop (mkF m 93 #[.val (.long q0), .second, .val (.long q1), .second, .val (.long q2), .second, .val (.long q3), .second, .val (.long q4), .second, .val (.int p5), .val (.long y0), .second, .val (.long y1), .second, .val (.long y2), .second, .val (.long y3), .second, .val (.long y4), .second, .val (.int (4 : Int32)), .val (.int sel), .val (.ref b6), .unset, .unset, .unset] [(.int (3 : Int32)), (.int (4 : Int32))]))
    refine own_go (fun _ q => XS.icmpNo X47.here hx rfl (hb hby at_93) rfl (flt (by decide : ¬ ((4 : Int32) < (3 : Int32)))).1 q) ?_
    show own_Go _ _ _ _ _ _ _ (T47.setTop (mkF m 96 #[.val (.long q0), .second, .val (.long q1), .second, .val (.long q2), .second, .val (.long q3), .second, .val (.long q4), .second, .val (.int p5), .val (.long y0), .second, .val (.long y1), .second, .val (.long y2), .second, .val (.long y3), .second, .val (.long y4), .second, .val (.int (4 : Int32)), .val (.int sel), .val (.ref b6), .unset, .unset, .unset] []))
    refine own_go (fun _ q => XS.aload X47.here hx rfl (hb hby at_96) rfl rfl q) ?_
    show own_Go _ _ _ _ _ _ _ (T47.setTop (mkF m 98 #[.val (.long q0), .second, .val (.long q1), .second, .val (.long q2), .second, .val (.long q3), .second, .val (.long q4), .second, .val (.int p5), .val (.long y0), .second, .val (.long y1), .second, .val (.long y2), .second, .val (.long y3), .second, .val (.long y4), .second, .val (.int (4 : Int32)), .val (.int sel), .val (.ref b6), .unset, .unset, .unset] [(.ref b6)]))
    refine own_go (fun _ q => XS.lload X47.here hx rfl (hb hby at_98) rfl q) ?_
    show own_Go _ _ _ _ _ _ _ (T47.setTop (mkF m 100 #[.val (.long q0), .second, .val (.long q1), .second, .val (.long q2), .second, .val (.long q3), .second, .val (.long q4), .second, .val (.int p5), .val (.long y0), .second, .val (.long y1), .second, .val (.long y2), .second, .val (.long y3), .second, .val (.long y4), .second, .val (.int (4 : Int32)), .val (.int sel), .val (.ref b6), .unset, .unset, .unset] [(.long y2), (.ref b6)]))
    obtain ⟨tb_4_2, ad_4_2, Ln_4_2, AL_4_2, sz_4_2, tbl_4_2, add_4_2, zs_4_2, E_4_2, Ft_4_2, Fa_4_2, Fs_4_2, At_4_2, Aa_4_2, go_4_2, gt_4_2, ga_4_2, neta_4_2, neot_4_2, neoa_4_2, hzs_4_2, hk_4_2, hLA_4_2, I_4_2, HA_4_2⟩ := St47'
    refine own_virtual X47 hx hZ hown (hw _ (List.mem_of_getElem? (i := 19) rfl)) (hw _ (List.mem_of_getElem? (i := 20) rfl)) (hw _ (List.mem_of_getElem? (i := 22) rfl)) (hw _ (List.mem_of_getElem? (i := 21) rfl)) (hw _ (List.mem_of_getElem? (i := 7) rfl)) (hw _ (List.mem_of_getElem? (i := 23) rfl)) (by decide) rfl (a := b6) E_4_2 (argsL := [(.long y2)]) (rest := []) (rm4 l Z a0 hw [] b6 tb_4_2 ad_4_2 Ln_4_2 AL_4_2 sz_4_2 tbl_4_2 add_4_2 zs_4_2 y2 (fun y => (fun y => (fun _ => False) y ∨ y = y0) y ∨ y = y1) T47.heap n0 Z47 E_4_2 Ft_4_2 Fa_4_2 Fs_4_2 At_4_2 Aa_4_2 go_4_2 gt_4_2 ga_4_2 neta_4_2 neot_4_2 neoa_4_2 hzs_4_2 (by omega) hLA_4_2 I_4_2 HA_4_2 hy2) 0 (by decide) (by decide) (by decide) (by decide) (by rw [hml]; rfl) pd_5 rfl rfl (Nat.le_of_eq rfl) (hb hby at_100) rfl ?_
    intro v48 T48 L48 X48 hQ48
    obtain ⟨r48, rfl, N48q, St48, zz48⟩ := hQ48
    have N48 := Fr.app N47 N48q
    show own_Go _ _ _ _ _ _ _ (T48.setTop (mkF m 103 #[.val (.long q0), .second, .val (.long q1), .second, .val (.long q2), .second, .val (.long q3), .second, .val (.long q4), .second, .val (.int p5), .val (.long y0), .second, .val (.long y1), .second, .val (.long y2), .second, .val (.long y3), .second, .val (.long y4), .second, .val (.int (4 : Int32)), .val (.int sel), .val (.ref b6), .unset, .unset, .unset] [(.int r48)]))
    have Z48 : n0 ≤ T48.heap.size := Nat.le_trans Z47 zz48
    have St48' := St48.mono (k' := 3) (by omega)
    refine own_go (fun _ q => XS.pop X48.here hx rfl (hb hby at_103) rfl rfl q) ?_
    show own_Go _ _ _ _ _ _ _ (T48.setTop (mkF m 104 #[.val (.long q0), .second, .val (.long q1), .second, .val (.long q2), .second, .val (.long q3), .second, .val (.long q4), .second, .val (.int p5), .val (.long y0), .second, .val (.long y1), .second, .val (.long y2), .second, .val (.long y3), .second, .val (.long y4), .second, .val (.int (4 : Int32)), .val (.int sel), .val (.ref b6), .unset, .unset, .unset] []))
    refine own_go (fun _ q => XS.iload X48.here hx rfl (hb hby at_104) rfl q) ?_
    show own_Go _ _ _ _ _ _ _ (T48.setTop (mkF m 106 #[.val (.long q0), .second, .val (.long q1), .second, .val (.long q2), .second, .val (.long q3), .second, .val (.long q4), .second, .val (.int p5), .val (.long y0), .second, .val (.long y1), .second, .val (.long y2), .second, .val (.long y3), .second, .val (.long y4), .second, .val (.int (4 : Int32)), .val (.int sel), .val (.ref b6), .unset, .unset, .unset] [(.int (4 : Int32))]))
    refine own_go (fun _ q => XS.iconst X48.here hx rfl (hb hby at_106) q) ?_
    show own_Go _ _ _ _ _ _ _ (T48.setTop (mkF m 107 #[.val (.long q0), .second, .val (.long q1), .second, .val (.long q2), .second, .val (.long q3), .second, .val (.long q4), .second, .val (.int p5), .val (.long y0), .second, .val (.long y1), .second, .val (.long y2), .second, .val (.long y3), .second, .val (.long y4), .second, .val (.int (4 : Int32)), .val (.int sel), .val (.ref b6), .unset, .unset, .unset] [(.int (4 : Int32)), (.int (4 : Int32))]))
    refine own_go (fun _ q => XS.icmpNo X48.here hx rfl (hb hby at_107) rfl (flt (by decide : ¬ ((4 : Int32) < (4 : Int32)))).1 q) ?_
    show own_Go _ _ _ _ _ _ _ (T48.setTop (mkF m 110 #[.val (.long q0), .second, .val (.long q1), .second, .val (.long q2), .second, .val (.long q3), .second, .val (.long q4), .second, .val (.int p5), .val (.long y0), .second, .val (.long y1), .second, .val (.long y2), .second, .val (.long y3), .second, .val (.long y4), .second, .val (.int (4 : Int32)), .val (.int sel), .val (.ref b6), .unset, .unset, .unset] []))
    refine own_go (fun _ q => XS.aload X48.here hx rfl (hb hby at_110) rfl rfl q) ?_
    show own_Go _ _ _ _ _ _ _ (T48.setTop (mkF m 112 #[.val (.long q0), .second, .val (.long q1), .second, .val (.long q2), .second, .val (.long q3), .second, .val (.long q4), .second, .val (.int p5), .val (.long y0), .second, .val (.long y1), .second, .val (.long y2), .second, .val (.long y3), .second, .val (.long y4), .second, .val (.int (4 : Int32)), .val (.int sel), .val (.ref b6), .unset, .unset, .unset] [(.ref b6)]))
    refine own_go (fun _ q => XS.lload X48.here hx rfl (hb hby at_112) rfl q) ?_
    show own_Go _ _ _ _ _ _ _ (T48.setTop (mkF m 114 #[.val (.long q0), .second, .val (.long q1), .second, .val (.long q2), .second, .val (.long q3), .second, .val (.long q4), .second, .val (.int p5), .val (.long y0), .second, .val (.long y1), .second, .val (.long y2), .second, .val (.long y3), .second, .val (.long y4), .second, .val (.int (4 : Int32)), .val (.int sel), .val (.ref b6), .unset, .unset, .unset] [(.long y3), (.ref b6)]))
    obtain ⟨tb_4_3, ad_4_3, Ln_4_3, AL_4_3, sz_4_3, tbl_4_3, add_4_3, zs_4_3, E_4_3, Ft_4_3, Fa_4_3, Fs_4_3, At_4_3, Aa_4_3, go_4_3, gt_4_3, ga_4_3, neta_4_3, neot_4_3, neoa_4_3, hzs_4_3, hk_4_3, hLA_4_3, I_4_3, HA_4_3⟩ := St48'
    refine own_virtual X48 hx hZ hown (hw _ (List.mem_of_getElem? (i := 19) rfl)) (hw _ (List.mem_of_getElem? (i := 20) rfl)) (hw _ (List.mem_of_getElem? (i := 22) rfl)) (hw _ (List.mem_of_getElem? (i := 21) rfl)) (hw _ (List.mem_of_getElem? (i := 7) rfl)) (hw _ (List.mem_of_getElem? (i := 23) rfl)) (by decide) rfl (a := b6) E_4_3 (argsL := [(.long y3)]) (rest := []) (rm4 l Z a0 hw [] b6 tb_4_3 ad_4_3 Ln_4_3 AL_4_3 sz_4_3 tbl_4_3 add_4_3 zs_4_3 y3 (fun y => (fun y => (fun y => (fun _ => False) y ∨ y = y0) y ∨ y = y1) y ∨ y = y2) T48.heap n0 Z48 E_4_3 Ft_4_3 Fa_4_3 Fs_4_3 At_4_3 Aa_4_3 go_4_3 gt_4_3 ga_4_3 neta_4_3 neot_4_3 neoa_4_3 hzs_4_3 (by omega) hLA_4_3 I_4_3 HA_4_3 hy3) 0 (by decide) (by decide) (by decide) (by decide) (by rw [hml]; rfl) pd_5 rfl rfl (Nat.le_of_eq rfl) (hb hby at_114) rfl ?_
    intro v49 T49 L49 X49 hQ49
    obtain ⟨r49, rfl, N49q, St49, zz49⟩ := hQ49
    have N49 := Fr.app N48 N49q
    show own_Go _ _ _ _ _ _ _ (T49.setTop (mkF m 117 #[.val (.long q0), .second, .val (.long q1), .second, .val (.long q2), .second, .val (.long q3), .second, .val (.long q4), .second, .val (.int p5), .val (.long y0), .second, .val (.long y1), .second, .val (.long y2), .second, .val (.long y3), .second, .val (.long y4), .second, .val (.int (4 : Int32)), .val (.int sel), .val (.ref b6), .unset, .unset, .unset] [(.int r49)]))
    have Z49 : n0 ≤ T49.heap.size := Nat.le_trans Z48 zz49
    have St49' := St49.mono (k' := 4) (by omega)
    refine own_go (fun _ q => XS.pop X49.here hx rfl (hb hby at_117) rfl rfl q) ?_
    show own_Go _ _ _ _ _ _ _ (T49.setTop (mkF m 118 #[.val (.long q0), .second, .val (.long q1), .second, .val (.long q2), .second, .val (.long q3), .second, .val (.long q4), .second, .val (.int p5), .val (.long y0), .second, .val (.long y1), .second, .val (.long y2), .second, .val (.long y3), .second, .val (.long y4), .second, .val (.int (4 : Int32)), .val (.int sel), .val (.ref b6), .unset, .unset, .unset] []))
    refine own_go (fun _ q => XS.lload X49.here hx rfl (hb hby at_118) rfl q) ?_
    show own_Go _ _ _ _ _ _ _ (T49.setTop (mkF m 120 #[.val (.long q0), .second, .val (.long q1), .second, .val (.long q2), .second, .val (.long q3), .second, .val (.long q4), .second, .val (.int p5), .val (.long y0), .second, .val (.long y1), .second, .val (.long y2), .second, .val (.long y3), .second, .val (.long y4), .second, .val (.int (4 : Int32)), .val (.int sel), .val (.ref b6), .unset, .unset, .unset] [(.long y4)]))
    refine own_go (fun _ q => XS.lstore X49.here hx rfl (hb hby at_120) rfl (l' := #[.val (.long q0), .second, .val (.long q1), .second, .val (.long q2), .second, .val (.long q3), .second, .val (.long q4), .second, .val (.int p5), .val (.long y0), .second, .val (.long y1), .second, .val (.long y2), .second, .val (.long y3), .second, .val (.long y4), .second, .val (.int (4 : Int32)), .val (.int sel), .val (.ref b6), .val (.long y4), .second, .unset]) rfl q) ?_
    show own_Go _ _ _ _ _ _ _ (T49.setTop (mkF m 122 #[.val (.long q0), .second, .val (.long q1), .second, .val (.long q2), .second, .val (.long q3), .second, .val (.long q4), .second, .val (.int p5), .val (.long y0), .second, .val (.long y1), .second, .val (.long y2), .second, .val (.long y3), .second, .val (.long y4), .second, .val (.int (4 : Int32)), .val (.int sel), .val (.ref b6), .val (.long y4), .second, .unset] []))
    obtain ⟨tb_4_z, ad_4_z, Ln_4_z, AL_4_z, sz_4_z, tbl_4_z, add_4_z, zs_4_z, E_4_z, Ft_4_z, Fa_4_z, Fs_4_z, At_4_z, Aa_4_z, go_4_z, gt_4_z, ga_4_z, neta_4_z, neot_4_z, neoa_4_z, hzs_4_z, hk_4_z, hLA_4_z, I_4_z, HA_4_z⟩ := St49'
    have join : ∀ qq : Int64, own_Go p e below s (Q0 Z q0 q1 q2 q3 q4 p5 h0 n0) room_1.cells room_1.slots (T49.setTop (mkF m 170 #[.val (.long q0), .second, .val (.long q1), .second, .val (.long q2), .second, .val (.long q3), .second, .val (.long q4), .second, .val (.int p5), .val (.long y0), .second, .val (.long y1), .second, .val (.long y2), .second, .val (.long y3), .second, .val (.long y4), .second, .val (.int (4 : Int32)), .val (.int sel), .val (.ref b6), .val (.long qq), .second, .unset] [])) := by
      intro qq
      show own_Go _ _ _ _ _ _ _ (T49.setTop (mkF m 170 #[.val (.long q0), .second, .val (.long q1), .second, .val (.long q2), .second, .val (.long q3), .second, .val (.long q4), .second, .val (.int p5), .val (.long y0), .second, .val (.long y1), .second, .val (.long y2), .second, .val (.long y3), .second, .val (.long y4), .second, .val (.int (4 : Int32)), .val (.int sel), .val (.ref b6), .val (.long qq), .second, .unset] []))
      refine own_go (fun _ q => XS.iload X49.here hx rfl (hb hby at_170) rfl q) ?_
      show own_Go _ _ _ _ _ _ _ (T49.setTop (mkF m 172 #[.val (.long q0), .second, .val (.long q1), .second, .val (.long q2), .second, .val (.long q3), .second, .val (.long q4), .second, .val (.int p5), .val (.long y0), .second, .val (.long y1), .second, .val (.long y2), .second, .val (.long y3), .second, .val (.long y4), .second, .val (.int (4 : Int32)), .val (.int sel), .val (.ref b6), .val (.long qq), .second, .unset] [(.int (4 : Int32))]))
      refine own_go (fun _ q => XS.iconst X49.here hx rfl (hb hby at_172) q) ?_
      show own_Go _ _ _ _ _ _ _ (T49.setTop (mkF m 173 #[.val (.long q0), .second, .val (.long q1), .second, .val (.long q2), .second, .val (.long q3), .second, .val (.long q4), .second, .val (.int p5), .val (.long y0), .second, .val (.long y1), .second, .val (.long y2), .second, .val (.long y3), .second, .val (.long y4), .second, .val (.int (4 : Int32)), .val (.int sel), .val (.ref b6), .val (.long qq), .second, .unset] [(.int (1 : Int32)), (.int (4 : Int32))]))
      refine own_go (fun _ q => XS.icmpNo X49.here hx rfl (hb hby at_173) rfl (flt (by decide : ¬ ((4 : Int32) < (1 : Int32)))).1 q) ?_
      show own_Go _ _ _ _ _ _ _ (T49.setTop (mkF m 176 #[.val (.long q0), .second, .val (.long q1), .second, .val (.long q2), .second, .val (.long q3), .second, .val (.long q4), .second, .val (.int p5), .val (.long y0), .second, .val (.long y1), .second, .val (.long y2), .second, .val (.long y3), .second, .val (.long y4), .second, .val (.int (4 : Int32)), .val (.int sel), .val (.ref b6), .val (.long qq), .second, .unset] []))
      refine own_go (fun _ q => XS.lload X49.here hx rfl (hb hby at_176) rfl q) ?_
      show own_Go _ _ _ _ _ _ _ (T49.setTop (mkF m 178 #[.val (.long q0), .second, .val (.long q1), .second, .val (.long q2), .second, .val (.long q3), .second, .val (.long q4), .second, .val (.int p5), .val (.long y0), .second, .val (.long y1), .second, .val (.long y2), .second, .val (.long y3), .second, .val (.long y4), .second, .val (.int (4 : Int32)), .val (.int sel), .val (.ref b6), .val (.long qq), .second, .unset] [(.long qq)]))
      refine own_go (fun _ q => XS.lload X49.here hx rfl (hb hby at_178) rfl q) ?_
      show own_Go _ _ _ _ _ _ _ (T49.setTop (mkF m 180 #[.val (.long q0), .second, .val (.long q1), .second, .val (.long q2), .second, .val (.long q3), .second, .val (.long q4), .second, .val (.int p5), .val (.long y0), .second, .val (.long y1), .second, .val (.long y2), .second, .val (.long y3), .second, .val (.long y4), .second, .val (.int (4 : Int32)), .val (.int sel), .val (.ref b6), .val (.long qq), .second, .unset] [(.long y0), (.long qq)]))
      refine own_go (fun _ q => XS.lcmp X49.here hx rfl (hb hby at_180) rfl q) ?_
      show own_Go _ _ _ _ _ _ _ (T49.setTop (mkF m 181 #[.val (.long q0), .second, .val (.long q1), .second, .val (.long q2), .second, .val (.long q3), .second, .val (.long q4), .second, .val (.int p5), .val (.long y0), .second, .val (.long y1), .second, .val (.long y2), .second, .val (.long y3), .second, .val (.long y4), .second, .val (.int (4 : Int32)), .val (.int sel), .val (.ref b6), .val (.long qq), .second, .unset] [(.int (lcmpW qq y0))]))
      by_cases hc181_50 : qq = y0
      · refine own_go (fun _ q => XS.ifYes X49.here hx rfl (pc0 := 181) (pc' := 226) rfl (hb hby at_181) rfl ((if0 _ _).trans (teq ((lw_eq _ _).mpr hc181_50)).1) (by decide) (by decide) q) ?_
        show own_Go _ _ _ _ _ _ _ (T49.setTop (mkF m 226 #[.val (.long q0), .second, .val (.long q1), .second, .val (.long q2), .second, .val (.long q3), .second, .val (.long q4), .second, .val (.int p5), .val (.long y0), .second, .val (.long y1), .second, .val (.long y2), .second, .val (.long y3), .second, .val (.long y4), .second, .val (.int (4 : Int32)), .val (.int sel), .val (.ref b6), .val (.long qq), .second, .unset] []))
        refine own_go (fun _ q => XS.iconst X49.here hx rfl (hb hby at_226) q) ?_
        show own_Go _ _ _ _ _ _ _ (T49.setTop (mkF m 227 #[.val (.long q0), .second, .val (.long q1), .second, .val (.long q2), .second, .val (.long q3), .second, .val (.long q4), .second, .val (.int p5), .val (.long y0), .second, .val (.long y1), .second, .val (.long y2), .second, .val (.long y3), .second, .val (.long y4), .second, .val (.int (4 : Int32)), .val (.int sel), .val (.ref b6), .val (.long qq), .second, .unset] [(.int (1 : Int32))]))
        refine own_go (fun _ q => XS.goto X49.here hx rfl (pc0 := 227) (pc' := 231) rfl (hb hby at_227) (by decide) (by decide) q) ?_
        show own_Go _ _ _ _ _ _ _ (T49.setTop (mkF m 231 #[.val (.long q0), .second, .val (.long q1), .second, .val (.long q2), .second, .val (.long q3), .second, .val (.long q4), .second, .val (.int p5), .val (.long y0), .second, .val (.long y1), .second, .val (.long y2), .second, .val (.long y3), .second, .val (.long y4), .second, .val (.int (4 : Int32)), .val (.int sel), .val (.ref b6), .val (.long qq), .second, .unset] [(.int (1 : Int32))]))
        refine own_go (fun _ q => XS.istore X49.here hx rfl (hb hby at_231) rfl (l' := #[.val (.long q0), .second, .val (.long q1), .second, .val (.long q2), .second, .val (.long q3), .second, .val (.long q4), .second, .val (.int p5), .val (.long y0), .second, .val (.long y1), .second, .val (.long y2), .second, .val (.long y3), .second, .val (.long y4), .second, .val (.int (4 : Int32)), .val (.int sel), .val (.ref b6), .val (.long qq), .second, .val (.int (1 : Int32))]) rfl q) ?_
        show own_Go _ _ _ _ _ _ _ (T49.setTop (mkF m 233 #[.val (.long q0), .second, .val (.long q1), .second, .val (.long q2), .second, .val (.long q3), .second, .val (.long q4), .second, .val (.int p5), .val (.long y0), .second, .val (.long y1), .second, .val (.long y2), .second, .val (.long y3), .second, .val (.long y4), .second, .val (.int (4 : Int32)), .val (.int sel), .val (.ref b6), .val (.long qq), .second, .val (.int (1 : Int32))] []))
        refine own_go (fun _ q => XS.aload X49.here hx rfl (hb hby at_233) rfl rfl q) ?_
        show own_Go _ _ _ _ _ _ _ (T49.setTop (mkF m 235 #[.val (.long q0), .second, .val (.long q1), .second, .val (.long q2), .second, .val (.long q3), .second, .val (.long q4), .second, .val (.int p5), .val (.long y0), .second, .val (.long y1), .second, .val (.long y2), .second, .val (.long y3), .second, .val (.long y4), .second, .val (.int (4 : Int32)), .val (.int sel), .val (.ref b6), .val (.long qq), .second, .val (.int (1 : Int32))] [(.ref b6)]))
        refine own_go (fun _ q => XS.lload X49.here hx rfl (hb hby at_235) rfl q) ?_
        show own_Go _ _ _ _ _ _ _ (T49.setTop (mkF m 237 #[.val (.long q0), .second, .val (.long q1), .second, .val (.long q2), .second, .val (.long q3), .second, .val (.long q4), .second, .val (.int p5), .val (.long y0), .second, .val (.long y1), .second, .val (.long y2), .second, .val (.long y3), .second, .val (.long y4), .second, .val (.int (4 : Int32)), .val (.int sel), .val (.ref b6), .val (.long qq), .second, .val (.int (1 : Int32))] [(.long qq), (.ref b6)]))
        refine own_virtual X49 hx hZ hown (hw _ (List.mem_of_getElem? (i := 31) rfl)) (hw _ (List.mem_of_getElem? (i := 32) rfl)) (hw _ (List.mem_of_getElem? (i := 34) rfl)) (hw _ (List.mem_of_getElem? (i := 33) rfl)) (hw _ (List.mem_of_getElem? (i := 7) rfl)) (hw _ (List.mem_of_getElem? (i := 35) rfl)) (by decide) rfl (a := b6) E_4_z (argsL := [(.long qq)]) (rest := []) (rm6 l Z a0 hw [] b6 tb_4_z Ln_4_z tbl_4_z qq (fun y => (fun y => (fun y => (fun y => (fun _ => False) y ∨ y = y0) y ∨ y = y1) y ∨ y = y2) y ∨ y = y3) sz_4_z T49.heap n0 Z49 E_4_z Ft_4_z At_4_z (by rcases hLA_4_z with ⟨_, q, _⟩ | ⟨_, q, _⟩ <;> omega) (by have := I_4_z.2.2; rcases hLA_4_z with ⟨_, q, _⟩ | ⟨_, q, _⟩ <;> omega) I_4_z) 0 (by decide) (by decide) (by decide) (by decide) (by rw [hml]; rfl) pd_5 rfl rfl (Nat.le_of_eq rfl) (hb hby at_237) rfl ?_
        intro v51 T51 L51 X51 hQ51
        obtain ⟨r, rfl, N51q, e51q, hrr⟩ := hQ51
        have N51 := Fr.app N49 N51q
        show own_Go _ _ _ _ _ _ _ (T51.setTop (mkF m 240 #[.val (.long q0), .second, .val (.long q1), .second, .val (.long q2), .second, .val (.long q3), .second, .val (.long q4), .second, .val (.int p5), .val (.long y0), .second, .val (.long y1), .second, .val (.long y2), .second, .val (.long y3), .second, .val (.long y4), .second, .val (.int (4 : Int32)), .val (.int sel), .val (.ref b6), .val (.long qq), .second, .val (.int (1 : Int32))] [(.int r)]))
        refine own_go (fun _ q => XS.iload X51.here hx rfl (hb hby at_240) rfl q) ?_
        show own_Go _ _ _ _ _ _ _ (T51.setTop (mkF m 242 #[.val (.long q0), .second, .val (.long q1), .second, .val (.long q2), .second, .val (.long q3), .second, .val (.long q4), .second, .val (.int p5), .val (.long y0), .second, .val (.long y1), .second, .val (.long y2), .second, .val (.long y3), .second, .val (.long y4), .second, .val (.int (4 : Int32)), .val (.int sel), .val (.ref b6), .val (.long qq), .second, .val (.int (1 : Int32))] [(.int (1 : Int32)), (.int r)]))
        refine own_go (fun _ q => XS.icmpNo X51.here hx rfl (hb hby at_242) rfl (teq (by rcases hrr with ⟨rfl, u⟩ | ⟨rfl, u⟩; (· first | rfl | (exfalso; simp_all)); (· first | rfl | (exfalso; simp_all)))).2 q) ?_
        show own_Go _ _ _ _ _ _ _ (T51.setTop (mkF m 245 #[.val (.long q0), .second, .val (.long q1), .second, .val (.long q2), .second, .val (.long q3), .second, .val (.long q4), .second, .val (.int p5), .val (.long y0), .second, .val (.long y1), .second, .val (.long y2), .second, .val (.long y3), .second, .val (.long y4), .second, .val (.int (4 : Int32)), .val (.int sel), .val (.ref b6), .val (.long qq), .second, .val (.int (1 : Int32))] []))
        refine own_go (fun _ q => XS.iconst X51.here hx rfl (hb hby at_245) q) ?_
        show own_Go _ _ _ _ _ _ _ (T51.setTop (mkF m 246 #[.val (.long q0), .second, .val (.long q1), .second, .val (.long q2), .second, .val (.long q3), .second, .val (.long q4), .second, .val (.int p5), .val (.long y0), .second, .val (.long y1), .second, .val (.long y2), .second, .val (.long y3), .second, .val (.long y4), .second, .val (.int (4 : Int32)), .val (.int sel), .val (.ref b6), .val (.long qq), .second, .val (.int (1 : Int32))] [(.int (1 : Int32))]))
        refine own_go (fun _ q => XS.goto X51.here hx rfl (pc0 := 246) (pc' := 250) rfl (hb hby at_246) (by decide) (by decide) q) ?_
        show own_Go _ _ _ _ _ _ _ (T51.setTop (mkF m 250 #[.val (.long q0), .second, .val (.long q1), .second, .val (.long q2), .second, .val (.long q3), .second, .val (.long q4), .second, .val (.int p5), .val (.long y0), .second, .val (.long y1), .second, .val (.long y2), .second, .val (.long y3), .second, .val (.long y4), .second, .val (.int (4 : Int32)), .val (.int sel), .val (.ref b6), .val (.long qq), .second, .val (.int (1 : Int32))] [(.int (1 : Int32))]))
        exact own_retZ X51 hx hlk hret (hb hby at_250) (by decide) (by decide) (by decide) ⟨rfl, N51⟩
      · refine own_go (fun _ q => XS.ifNo X49.here hx rfl (hb hby at_181) rfl ((if0 _ _).trans (feq (fun q => hc181_50 ((lw_eq _ _).mp q))).1) q) ?_
        show own_Go _ _ _ _ _ _ _ (T49.setTop (mkF m 184 #[.val (.long q0), .second, .val (.long q1), .second, .val (.long q2), .second, .val (.long q3), .second, .val (.long q4), .second, .val (.int p5), .val (.long y0), .second, .val (.long y1), .second, .val (.long y2), .second, .val (.long y3), .second, .val (.long y4), .second, .val (.int (4 : Int32)), .val (.int sel), .val (.ref b6), .val (.long qq), .second, .unset] []))
        refine own_go (fun _ q => XS.iload X49.here hx rfl (hb hby at_184) rfl q) ?_
        show own_Go _ _ _ _ _ _ _ (T49.setTop (mkF m 186 #[.val (.long q0), .second, .val (.long q1), .second, .val (.long q2), .second, .val (.long q3), .second, .val (.long q4), .second, .val (.int p5), .val (.long y0), .second, .val (.long y1), .second, .val (.long y2), .second, .val (.long y3), .second, .val (.long y4), .second, .val (.int (4 : Int32)), .val (.int sel), .val (.ref b6), .val (.long qq), .second, .unset] [(.int (4 : Int32))]))
        refine own_go (fun _ q => XS.iconst X49.here hx rfl (hb hby at_186) q) ?_
        show own_Go _ _ _ _ _ _ _ (T49.setTop (mkF m 187 #[.val (.long q0), .second, .val (.long q1), .second, .val (.long q2), .second, .val (.long q3), .second, .val (.long q4), .second, .val (.int p5), .val (.long y0), .second, .val (.long y1), .second, .val (.long y2), .second, .val (.long y3), .second, .val (.long y4), .second, .val (.int (4 : Int32)), .val (.int sel), .val (.ref b6), .val (.long qq), .second, .unset] [(.int (2 : Int32)), (.int (4 : Int32))]))
        refine own_go (fun _ q => XS.icmpNo X49.here hx rfl (hb hby at_187) rfl (flt (by decide : ¬ ((4 : Int32) < (2 : Int32)))).1 q) ?_
        show own_Go _ _ _ _ _ _ _ (T49.setTop (mkF m 190 #[.val (.long q0), .second, .val (.long q1), .second, .val (.long q2), .second, .val (.long q3), .second, .val (.long q4), .second, .val (.int p5), .val (.long y0), .second, .val (.long y1), .second, .val (.long y2), .second, .val (.long y3), .second, .val (.long y4), .second, .val (.int (4 : Int32)), .val (.int sel), .val (.ref b6), .val (.long qq), .second, .unset] []))
        refine own_go (fun _ q => XS.lload X49.here hx rfl (hb hby at_190) rfl q) ?_
        show own_Go _ _ _ _ _ _ _ (T49.setTop (mkF m 192 #[.val (.long q0), .second, .val (.long q1), .second, .val (.long q2), .second, .val (.long q3), .second, .val (.long q4), .second, .val (.int p5), .val (.long y0), .second, .val (.long y1), .second, .val (.long y2), .second, .val (.long y3), .second, .val (.long y4), .second, .val (.int (4 : Int32)), .val (.int sel), .val (.ref b6), .val (.long qq), .second, .unset] [(.long qq)]))
        refine own_go (fun _ q => XS.lload X49.here hx rfl (hb hby at_192) rfl q) ?_
        show own_Go _ _ _ _ _ _ _ (T49.setTop (mkF m 194 #[.val (.long q0), .second, .val (.long q1), .second, .val (.long q2), .second, .val (.long q3), .second, .val (.long q4), .second, .val (.int p5), .val (.long y0), .second, .val (.long y1), .second, .val (.long y2), .second, .val (.long y3), .second, .val (.long y4), .second, .val (.int (4 : Int32)), .val (.int sel), .val (.ref b6), .val (.long qq), .second, .unset] [(.long y1), (.long qq)]))
        refine own_go (fun _ q => XS.lcmp X49.here hx rfl (hb hby at_194) rfl q) ?_
        show own_Go _ _ _ _ _ _ _ (T49.setTop (mkF m 195 #[.val (.long q0), .second, .val (.long q1), .second, .val (.long q2), .second, .val (.long q3), .second, .val (.long q4), .second, .val (.int p5), .val (.long y0), .second, .val (.long y1), .second, .val (.long y2), .second, .val (.long y3), .second, .val (.long y4), .second, .val (.int (4 : Int32)), .val (.int sel), .val (.ref b6), .val (.long qq), .second, .unset] [(.int (lcmpW qq y1))]))
        by_cases hc195_52 : qq = y1
        · refine own_go (fun _ q => XS.ifYes X49.here hx rfl (pc0 := 195) (pc' := 226) rfl (hb hby at_195) rfl ((if0 _ _).trans (teq ((lw_eq _ _).mpr hc195_52)).1) (by decide) (by decide) q) ?_
          show own_Go _ _ _ _ _ _ _ (T49.setTop (mkF m 226 #[.val (.long q0), .second, .val (.long q1), .second, .val (.long q2), .second, .val (.long q3), .second, .val (.long q4), .second, .val (.int p5), .val (.long y0), .second, .val (.long y1), .second, .val (.long y2), .second, .val (.long y3), .second, .val (.long y4), .second, .val (.int (4 : Int32)), .val (.int sel), .val (.ref b6), .val (.long qq), .second, .unset] []))
          refine own_go (fun _ q => XS.iconst X49.here hx rfl (hb hby at_226) q) ?_
          show own_Go _ _ _ _ _ _ _ (T49.setTop (mkF m 227 #[.val (.long q0), .second, .val (.long q1), .second, .val (.long q2), .second, .val (.long q3), .second, .val (.long q4), .second, .val (.int p5), .val (.long y0), .second, .val (.long y1), .second, .val (.long y2), .second, .val (.long y3), .second, .val (.long y4), .second, .val (.int (4 : Int32)), .val (.int sel), .val (.ref b6), .val (.long qq), .second, .unset] [(.int (1 : Int32))]))
          refine own_go (fun _ q => XS.goto X49.here hx rfl (pc0 := 227) (pc' := 231) rfl (hb hby at_227) (by decide) (by decide) q) ?_
          show own_Go _ _ _ _ _ _ _ (T49.setTop (mkF m 231 #[.val (.long q0), .second, .val (.long q1), .second, .val (.long q2), .second, .val (.long q3), .second, .val (.long q4), .second, .val (.int p5), .val (.long y0), .second, .val (.long y1), .second, .val (.long y2), .second, .val (.long y3), .second, .val (.long y4), .second, .val (.int (4 : Int32)), .val (.int sel), .val (.ref b6), .val (.long qq), .second, .unset] [(.int (1 : Int32))]))
          refine own_go (fun _ q => XS.istore X49.here hx rfl (hb hby at_231) rfl (l' := #[.val (.long q0), .second, .val (.long q1), .second, .val (.long q2), .second, .val (.long q3), .second, .val (.long q4), .second, .val (.int p5), .val (.long y0), .second, .val (.long y1), .second, .val (.long y2), .second, .val (.long y3), .second, .val (.long y4), .second, .val (.int (4 : Int32)), .val (.int sel), .val (.ref b6), .val (.long qq), .second, .val (.int (1 : Int32))]) rfl q) ?_
          show own_Go _ _ _ _ _ _ _ (T49.setTop (mkF m 233 #[.val (.long q0), .second, .val (.long q1), .second, .val (.long q2), .second, .val (.long q3), .second, .val (.long q4), .second, .val (.int p5), .val (.long y0), .second, .val (.long y1), .second, .val (.long y2), .second, .val (.long y3), .second, .val (.long y4), .second, .val (.int (4 : Int32)), .val (.int sel), .val (.ref b6), .val (.long qq), .second, .val (.int (1 : Int32))] []))
          refine own_go (fun _ q => XS.aload X49.here hx rfl (hb hby at_233) rfl rfl q) ?_
          show own_Go _ _ _ _ _ _ _ (T49.setTop (mkF m 235 #[.val (.long q0), .second, .val (.long q1), .second, .val (.long q2), .second, .val (.long q3), .second, .val (.long q4), .second, .val (.int p5), .val (.long y0), .second, .val (.long y1), .second, .val (.long y2), .second, .val (.long y3), .second, .val (.long y4), .second, .val (.int (4 : Int32)), .val (.int sel), .val (.ref b6), .val (.long qq), .second, .val (.int (1 : Int32))] [(.ref b6)]))
          refine own_go (fun _ q => XS.lload X49.here hx rfl (hb hby at_235) rfl q) ?_
          show own_Go _ _ _ _ _ _ _ (T49.setTop (mkF m 237 #[.val (.long q0), .second, .val (.long q1), .second, .val (.long q2), .second, .val (.long q3), .second, .val (.long q4), .second, .val (.int p5), .val (.long y0), .second, .val (.long y1), .second, .val (.long y2), .second, .val (.long y3), .second, .val (.long y4), .second, .val (.int (4 : Int32)), .val (.int sel), .val (.ref b6), .val (.long qq), .second, .val (.int (1 : Int32))] [(.long qq), (.ref b6)]))
          refine own_virtual X49 hx hZ hown (hw _ (List.mem_of_getElem? (i := 31) rfl)) (hw _ (List.mem_of_getElem? (i := 32) rfl)) (hw _ (List.mem_of_getElem? (i := 34) rfl)) (hw _ (List.mem_of_getElem? (i := 33) rfl)) (hw _ (List.mem_of_getElem? (i := 7) rfl)) (hw _ (List.mem_of_getElem? (i := 35) rfl)) (by decide) rfl (a := b6) E_4_z (argsL := [(.long qq)]) (rest := []) (rm6 l Z a0 hw [] b6 tb_4_z Ln_4_z tbl_4_z qq (fun y => (fun y => (fun y => (fun y => (fun _ => False) y ∨ y = y0) y ∨ y = y1) y ∨ y = y2) y ∨ y = y3) sz_4_z T49.heap n0 Z49 E_4_z Ft_4_z At_4_z (by rcases hLA_4_z with ⟨_, q, _⟩ | ⟨_, q, _⟩ <;> omega) (by have := I_4_z.2.2; rcases hLA_4_z with ⟨_, q, _⟩ | ⟨_, q, _⟩ <;> omega) I_4_z) 0 (by decide) (by decide) (by decide) (by decide) (by rw [hml]; rfl) pd_5 rfl rfl (Nat.le_of_eq rfl) (hb hby at_237) rfl ?_
          intro v53 T53 L53 X53 hQ53
          obtain ⟨r, rfl, N53q, e53q, hrr⟩ := hQ53
          have N53 := Fr.app N49 N53q
          show own_Go _ _ _ _ _ _ _ (T53.setTop (mkF m 240 #[.val (.long q0), .second, .val (.long q1), .second, .val (.long q2), .second, .val (.long q3), .second, .val (.long q4), .second, .val (.int p5), .val (.long y0), .second, .val (.long y1), .second, .val (.long y2), .second, .val (.long y3), .second, .val (.long y4), .second, .val (.int (4 : Int32)), .val (.int sel), .val (.ref b6), .val (.long qq), .second, .val (.int (1 : Int32))] [(.int r)]))
          refine own_go (fun _ q => XS.iload X53.here hx rfl (hb hby at_240) rfl q) ?_
          show own_Go _ _ _ _ _ _ _ (T53.setTop (mkF m 242 #[.val (.long q0), .second, .val (.long q1), .second, .val (.long q2), .second, .val (.long q3), .second, .val (.long q4), .second, .val (.int p5), .val (.long y0), .second, .val (.long y1), .second, .val (.long y2), .second, .val (.long y3), .second, .val (.long y4), .second, .val (.int (4 : Int32)), .val (.int sel), .val (.ref b6), .val (.long qq), .second, .val (.int (1 : Int32))] [(.int (1 : Int32)), (.int r)]))
          refine own_go (fun _ q => XS.icmpNo X53.here hx rfl (hb hby at_242) rfl (teq (by rcases hrr with ⟨rfl, u⟩ | ⟨rfl, u⟩; (· first | rfl | (exfalso; simp_all)); (· first | rfl | (exfalso; simp_all)))).2 q) ?_
          show own_Go _ _ _ _ _ _ _ (T53.setTop (mkF m 245 #[.val (.long q0), .second, .val (.long q1), .second, .val (.long q2), .second, .val (.long q3), .second, .val (.long q4), .second, .val (.int p5), .val (.long y0), .second, .val (.long y1), .second, .val (.long y2), .second, .val (.long y3), .second, .val (.long y4), .second, .val (.int (4 : Int32)), .val (.int sel), .val (.ref b6), .val (.long qq), .second, .val (.int (1 : Int32))] []))
          refine own_go (fun _ q => XS.iconst X53.here hx rfl (hb hby at_245) q) ?_
          show own_Go _ _ _ _ _ _ _ (T53.setTop (mkF m 246 #[.val (.long q0), .second, .val (.long q1), .second, .val (.long q2), .second, .val (.long q3), .second, .val (.long q4), .second, .val (.int p5), .val (.long y0), .second, .val (.long y1), .second, .val (.long y2), .second, .val (.long y3), .second, .val (.long y4), .second, .val (.int (4 : Int32)), .val (.int sel), .val (.ref b6), .val (.long qq), .second, .val (.int (1 : Int32))] [(.int (1 : Int32))]))
          refine own_go (fun _ q => XS.goto X53.here hx rfl (pc0 := 246) (pc' := 250) rfl (hb hby at_246) (by decide) (by decide) q) ?_
          show own_Go _ _ _ _ _ _ _ (T53.setTop (mkF m 250 #[.val (.long q0), .second, .val (.long q1), .second, .val (.long q2), .second, .val (.long q3), .second, .val (.long q4), .second, .val (.int p5), .val (.long y0), .second, .val (.long y1), .second, .val (.long y2), .second, .val (.long y3), .second, .val (.long y4), .second, .val (.int (4 : Int32)), .val (.int sel), .val (.ref b6), .val (.long qq), .second, .val (.int (1 : Int32))] [(.int (1 : Int32))]))
          exact own_retZ X53 hx hlk hret (hb hby at_250) (by decide) (by decide) (by decide) ⟨rfl, N53⟩
        · refine own_go (fun _ q => XS.ifNo X49.here hx rfl (hb hby at_195) rfl ((if0 _ _).trans (feq (fun q => hc195_52 ((lw_eq _ _).mp q))).1) q) ?_
          show own_Go _ _ _ _ _ _ _ (T49.setTop (mkF m 198 #[.val (.long q0), .second, .val (.long q1), .second, .val (.long q2), .second, .val (.long q3), .second, .val (.long q4), .second, .val (.int p5), .val (.long y0), .second, .val (.long y1), .second, .val (.long y2), .second, .val (.long y3), .second, .val (.long y4), .second, .val (.int (4 : Int32)), .val (.int sel), .val (.ref b6), .val (.long qq), .second, .unset] []))
          refine own_go (fun _ q => XS.iload X49.here hx rfl (hb hby at_198) rfl q) ?_
          show own_Go _ _ _ _ _ _ _ (T49.setTop (mkF m 200 #[.val (.long q0), .second, .val (.long q1), .second, .val (.long q2), .second, .val (.long q3), .second, .val (.long q4), .second, .val (.int p5), .val (.long y0), .second, .val (.long y1), .second, .val (.long y2), .second, .val (.long y3), .second, .val (.long y4), .second, .val (.int (4 : Int32)), .val (.int sel), .val (.ref b6), .val (.long qq), .second, .unset] [(.int (4 : Int32))]))
          refine own_go (fun _ q => XS.iconst X49.here hx rfl (hb hby at_200) q) ?_
          show own_Go _ _ _ _ _ _ _ (T49.setTop (mkF m 201 #[.val (.long q0), .second, .val (.long q1), .second, .val (.long q2), .second, .val (.long q3), .second, .val (.long q4), .second, .val (.int p5), .val (.long y0), .second, .val (.long y1), .second, .val (.long y2), .second, .val (.long y3), .second, .val (.long y4), .second, .val (.int (4 : Int32)), .val (.int sel), .val (.ref b6), .val (.long qq), .second, .unset] [(.int (3 : Int32)), (.int (4 : Int32))]))
          refine own_go (fun _ q => XS.icmpNo X49.here hx rfl (hb hby at_201) rfl (flt (by decide : ¬ ((4 : Int32) < (3 : Int32)))).1 q) ?_
          show own_Go _ _ _ _ _ _ _ (T49.setTop (mkF m 204 #[.val (.long q0), .second, .val (.long q1), .second, .val (.long q2), .second, .val (.long q3), .second, .val (.long q4), .second, .val (.int p5), .val (.long y0), .second, .val (.long y1), .second, .val (.long y2), .second, .val (.long y3), .second, .val (.long y4), .second, .val (.int (4 : Int32)), .val (.int sel), .val (.ref b6), .val (.long qq), .second, .unset] []))
          refine own_go (fun _ q => XS.lload X49.here hx rfl (hb hby at_204) rfl q) ?_
          show own_Go _ _ _ _ _ _ _ (T49.setTop (mkF m 206 #[.val (.long q0), .second, .val (.long q1), .second, .val (.long q2), .second, .val (.long q3), .second, .val (.long q4), .second, .val (.int p5), .val (.long y0), .second, .val (.long y1), .second, .val (.long y2), .second, .val (.long y3), .second, .val (.long y4), .second, .val (.int (4 : Int32)), .val (.int sel), .val (.ref b6), .val (.long qq), .second, .unset] [(.long qq)]))
          refine own_go (fun _ q => XS.lload X49.here hx rfl (hb hby at_206) rfl q) ?_
          show own_Go _ _ _ _ _ _ _ (T49.setTop (mkF m 208 #[.val (.long q0), .second, .val (.long q1), .second, .val (.long q2), .second, .val (.long q3), .second, .val (.long q4), .second, .val (.int p5), .val (.long y0), .second, .val (.long y1), .second, .val (.long y2), .second, .val (.long y3), .second, .val (.long y4), .second, .val (.int (4 : Int32)), .val (.int sel), .val (.ref b6), .val (.long qq), .second, .unset] [(.long y2), (.long qq)]))
          refine own_go (fun _ q => XS.lcmp X49.here hx rfl (hb hby at_208) rfl q) ?_
          show own_Go _ _ _ _ _ _ _ (T49.setTop (mkF m 209 #[.val (.long q0), .second, .val (.long q1), .second, .val (.long q2), .second, .val (.long q3), .second, .val (.long q4), .second, .val (.int p5), .val (.long y0), .second, .val (.long y1), .second, .val (.long y2), .second, .val (.long y3), .second, .val (.long y4), .second, .val (.int (4 : Int32)), .val (.int sel), .val (.ref b6), .val (.long qq), .second, .unset] [(.int (lcmpW qq y2))]))
          by_cases hc209_54 : qq = y2
          · refine own_go (fun _ q => XS.ifYes X49.here hx rfl (pc0 := 209) (pc' := 226) rfl (hb hby at_209) rfl ((if0 _ _).trans (teq ((lw_eq _ _).mpr hc209_54)).1) (by decide) (by decide) q) ?_
            show own_Go _ _ _ _ _ _ _ (T49.setTop (mkF m 226 #[.val (.long q0), .second, .val (.long q1), .second, .val (.long q2), .second, .val (.long q3), .second, .val (.long q4), .second, .val (.int p5), .val (.long y0), .second, .val (.long y1), .second, .val (.long y2), .second, .val (.long y3), .second, .val (.long y4), .second, .val (.int (4 : Int32)), .val (.int sel), .val (.ref b6), .val (.long qq), .second, .unset] []))
            refine own_go (fun _ q => XS.iconst X49.here hx rfl (hb hby at_226) q) ?_
            show own_Go _ _ _ _ _ _ _ (T49.setTop (mkF m 227 #[.val (.long q0), .second, .val (.long q1), .second, .val (.long q2), .second, .val (.long q3), .second, .val (.long q4), .second, .val (.int p5), .val (.long y0), .second, .val (.long y1), .second, .val (.long y2), .second, .val (.long y3), .second, .val (.long y4), .second, .val (.int (4 : Int32)), .val (.int sel), .val (.ref b6), .val (.long qq), .second, .unset] [(.int (1 : Int32))]))
            refine own_go (fun _ q => XS.goto X49.here hx rfl (pc0 := 227) (pc' := 231) rfl (hb hby at_227) (by decide) (by decide) q) ?_
            show own_Go _ _ _ _ _ _ _ (T49.setTop (mkF m 231 #[.val (.long q0), .second, .val (.long q1), .second, .val (.long q2), .second, .val (.long q3), .second, .val (.long q4), .second, .val (.int p5), .val (.long y0), .second, .val (.long y1), .second, .val (.long y2), .second, .val (.long y3), .second, .val (.long y4), .second, .val (.int (4 : Int32)), .val (.int sel), .val (.ref b6), .val (.long qq), .second, .unset] [(.int (1 : Int32))]))
            refine own_go (fun _ q => XS.istore X49.here hx rfl (hb hby at_231) rfl (l' := #[.val (.long q0), .second, .val (.long q1), .second, .val (.long q2), .second, .val (.long q3), .second, .val (.long q4), .second, .val (.int p5), .val (.long y0), .second, .val (.long y1), .second, .val (.long y2), .second, .val (.long y3), .second, .val (.long y4), .second, .val (.int (4 : Int32)), .val (.int sel), .val (.ref b6), .val (.long qq), .second, .val (.int (1 : Int32))]) rfl q) ?_
            show own_Go _ _ _ _ _ _ _ (T49.setTop (mkF m 233 #[.val (.long q0), .second, .val (.long q1), .second, .val (.long q2), .second, .val (.long q3), .second, .val (.long q4), .second, .val (.int p5), .val (.long y0), .second, .val (.long y1), .second, .val (.long y2), .second, .val (.long y3), .second, .val (.long y4), .second, .val (.int (4 : Int32)), .val (.int sel), .val (.ref b6), .val (.long qq), .second, .val (.int (1 : Int32))] []))
            refine own_go (fun _ q => XS.aload X49.here hx rfl (hb hby at_233) rfl rfl q) ?_
            show own_Go _ _ _ _ _ _ _ (T49.setTop (mkF m 235 #[.val (.long q0), .second, .val (.long q1), .second, .val (.long q2), .second, .val (.long q3), .second, .val (.long q4), .second, .val (.int p5), .val (.long y0), .second, .val (.long y1), .second, .val (.long y2), .second, .val (.long y3), .second, .val (.long y4), .second, .val (.int (4 : Int32)), .val (.int sel), .val (.ref b6), .val (.long qq), .second, .val (.int (1 : Int32))] [(.ref b6)]))
            refine own_go (fun _ q => XS.lload X49.here hx rfl (hb hby at_235) rfl q) ?_
            show own_Go _ _ _ _ _ _ _ (T49.setTop (mkF m 237 #[.val (.long q0), .second, .val (.long q1), .second, .val (.long q2), .second, .val (.long q3), .second, .val (.long q4), .second, .val (.int p5), .val (.long y0), .second, .val (.long y1), .second, .val (.long y2), .second, .val (.long y3), .second, .val (.long y4), .second, .val (.int (4 : Int32)), .val (.int sel), .val (.ref b6), .val (.long qq), .second, .val (.int (1 : Int32))] [(.long qq), (.ref b6)]))
            refine own_virtual X49 hx hZ hown (hw _ (List.mem_of_getElem? (i := 31) rfl)) (hw _ (List.mem_of_getElem? (i := 32) rfl)) (hw _ (List.mem_of_getElem? (i := 34) rfl)) (hw _ (List.mem_of_getElem? (i := 33) rfl)) (hw _ (List.mem_of_getElem? (i := 7) rfl)) (hw _ (List.mem_of_getElem? (i := 35) rfl)) (by decide) rfl (a := b6) E_4_z (argsL := [(.long qq)]) (rest := []) (rm6 l Z a0 hw [] b6 tb_4_z Ln_4_z tbl_4_z qq (fun y => (fun y => (fun y => (fun y => (fun _ => False) y ∨ y = y0) y ∨ y = y1) y ∨ y = y2) y ∨ y = y3) sz_4_z T49.heap n0 Z49 E_4_z Ft_4_z At_4_z (by rcases hLA_4_z with ⟨_, q, _⟩ | ⟨_, q, _⟩ <;> omega) (by have := I_4_z.2.2; rcases hLA_4_z with ⟨_, q, _⟩ | ⟨_, q, _⟩ <;> omega) I_4_z) 0 (by decide) (by decide) (by decide) (by decide) (by rw [hml]; rfl) pd_5 rfl rfl (Nat.le_of_eq rfl) (hb hby at_237) rfl ?_
            intro v55 T55 L55 X55 hQ55
            obtain ⟨r, rfl, N55q, e55q, hrr⟩ := hQ55
            have N55 := Fr.app N49 N55q
            show own_Go _ _ _ _ _ _ _ (T55.setTop (mkF m 240 #[.val (.long q0), .second, .val (.long q1), .second, .val (.long q2), .second, .val (.long q3), .second, .val (.long q4), .second, .val (.int p5), .val (.long y0), .second, .val (.long y1), .second, .val (.long y2), .second, .val (.long y3), .second, .val (.long y4), .second, .val (.int (4 : Int32)), .val (.int sel), .val (.ref b6), .val (.long qq), .second, .val (.int (1 : Int32))] [(.int r)]))
            refine own_go (fun _ q => XS.iload X55.here hx rfl (hb hby at_240) rfl q) ?_
            show own_Go _ _ _ _ _ _ _ (T55.setTop (mkF m 242 #[.val (.long q0), .second, .val (.long q1), .second, .val (.long q2), .second, .val (.long q3), .second, .val (.long q4), .second, .val (.int p5), .val (.long y0), .second, .val (.long y1), .second, .val (.long y2), .second, .val (.long y3), .second, .val (.long y4), .second, .val (.int (4 : Int32)), .val (.int sel), .val (.ref b6), .val (.long qq), .second, .val (.int (1 : Int32))] [(.int (1 : Int32)), (.int r)]))
            refine own_go (fun _ q => XS.icmpNo X55.here hx rfl (hb hby at_242) rfl (teq (by rcases hrr with ⟨rfl, u⟩ | ⟨rfl, u⟩; (· first | rfl | (exfalso; simp_all)); (· first | rfl | (exfalso; simp_all)))).2 q) ?_
            show own_Go _ _ _ _ _ _ _ (T55.setTop (mkF m 245 #[.val (.long q0), .second, .val (.long q1), .second, .val (.long q2), .second, .val (.long q3), .second, .val (.long q4), .second, .val (.int p5), .val (.long y0), .second, .val (.long y1), .second, .val (.long y2), .second, .val (.long y3), .second, .val (.long y4), .second, .val (.int (4 : Int32)), .val (.int sel), .val (.ref b6), .val (.long qq), .second, .val (.int (1 : Int32))] []))
            refine own_go (fun _ q => XS.iconst X55.here hx rfl (hb hby at_245) q) ?_
            show own_Go _ _ _ _ _ _ _ (T55.setTop (mkF m 246 #[.val (.long q0), .second, .val (.long q1), .second, .val (.long q2), .second, .val (.long q3), .second, .val (.long q4), .second, .val (.int p5), .val (.long y0), .second, .val (.long y1), .second, .val (.long y2), .second, .val (.long y3), .second, .val (.long y4), .second, .val (.int (4 : Int32)), .val (.int sel), .val (.ref b6), .val (.long qq), .second, .val (.int (1 : Int32))] [(.int (1 : Int32))]))
            refine own_go (fun _ q => XS.goto X55.here hx rfl (pc0 := 246) (pc' := 250) rfl (hb hby at_246) (by decide) (by decide) q) ?_
            show own_Go _ _ _ _ _ _ _ (T55.setTop (mkF m 250 #[.val (.long q0), .second, .val (.long q1), .second, .val (.long q2), .second, .val (.long q3), .second, .val (.long q4), .second, .val (.int p5), .val (.long y0), .second, .val (.long y1), .second, .val (.long y2), .second, .val (.long y3), .second, .val (.long y4), .second, .val (.int (4 : Int32)), .val (.int sel), .val (.ref b6), .val (.long qq), .second, .val (.int (1 : Int32))] [(.int (1 : Int32))]))
            exact own_retZ X55 hx hlk hret (hb hby at_250) (by decide) (by decide) (by decide) ⟨rfl, N55⟩
          · refine own_go (fun _ q => XS.ifNo X49.here hx rfl (hb hby at_209) rfl ((if0 _ _).trans (feq (fun q => hc209_54 ((lw_eq _ _).mp q))).1) q) ?_
            show own_Go _ _ _ _ _ _ _ (T49.setTop (mkF m 212 #[.val (.long q0), .second, .val (.long q1), .second, .val (.long q2), .second, .val (.long q3), .second, .val (.long q4), .second, .val (.int p5), .val (.long y0), .second, .val (.long y1), .second, .val (.long y2), .second, .val (.long y3), .second, .val (.long y4), .second, .val (.int (4 : Int32)), .val (.int sel), .val (.ref b6), .val (.long qq), .second, .unset] []))
            refine own_go (fun _ q => XS.iload X49.here hx rfl (hb hby at_212) rfl q) ?_
            show own_Go _ _ _ _ _ _ _ (T49.setTop (mkF m 214 #[.val (.long q0), .second, .val (.long q1), .second, .val (.long q2), .second, .val (.long q3), .second, .val (.long q4), .second, .val (.int p5), .val (.long y0), .second, .val (.long y1), .second, .val (.long y2), .second, .val (.long y3), .second, .val (.long y4), .second, .val (.int (4 : Int32)), .val (.int sel), .val (.ref b6), .val (.long qq), .second, .unset] [(.int (4 : Int32))]))
            refine own_go (fun _ q => XS.iconst X49.here hx rfl (hb hby at_214) q) ?_
            show own_Go _ _ _ _ _ _ _ (T49.setTop (mkF m 215 #[.val (.long q0), .second, .val (.long q1), .second, .val (.long q2), .second, .val (.long q3), .second, .val (.long q4), .second, .val (.int p5), .val (.long y0), .second, .val (.long y1), .second, .val (.long y2), .second, .val (.long y3), .second, .val (.long y4), .second, .val (.int (4 : Int32)), .val (.int sel), .val (.ref b6), .val (.long qq), .second, .unset] [(.int (4 : Int32)), (.int (4 : Int32))]))
            refine own_go (fun _ q => XS.icmpNo X49.here hx rfl (hb hby at_215) rfl (flt (by decide : ¬ ((4 : Int32) < (4 : Int32)))).1 q) ?_
            show own_Go _ _ _ _ _ _ _ (T49.setTop (mkF m 218 #[.val (.long q0), .second, .val (.long q1), .second, .val (.long q2), .second, .val (.long q3), .second, .val (.long q4), .second, .val (.int p5), .val (.long y0), .second, .val (.long y1), .second, .val (.long y2), .second, .val (.long y3), .second, .val (.long y4), .second, .val (.int (4 : Int32)), .val (.int sel), .val (.ref b6), .val (.long qq), .second, .unset] []))
            refine own_go (fun _ q => XS.lload X49.here hx rfl (hb hby at_218) rfl q) ?_
            show own_Go _ _ _ _ _ _ _ (T49.setTop (mkF m 220 #[.val (.long q0), .second, .val (.long q1), .second, .val (.long q2), .second, .val (.long q3), .second, .val (.long q4), .second, .val (.int p5), .val (.long y0), .second, .val (.long y1), .second, .val (.long y2), .second, .val (.long y3), .second, .val (.long y4), .second, .val (.int (4 : Int32)), .val (.int sel), .val (.ref b6), .val (.long qq), .second, .unset] [(.long qq)]))
            refine own_go (fun _ q => XS.lload X49.here hx rfl (hb hby at_220) rfl q) ?_
            show own_Go _ _ _ _ _ _ _ (T49.setTop (mkF m 222 #[.val (.long q0), .second, .val (.long q1), .second, .val (.long q2), .second, .val (.long q3), .second, .val (.long q4), .second, .val (.int p5), .val (.long y0), .second, .val (.long y1), .second, .val (.long y2), .second, .val (.long y3), .second, .val (.long y4), .second, .val (.int (4 : Int32)), .val (.int sel), .val (.ref b6), .val (.long qq), .second, .unset] [(.long y3), (.long qq)]))
            refine own_go (fun _ q => XS.lcmp X49.here hx rfl (hb hby at_222) rfl q) ?_
            show own_Go _ _ _ _ _ _ _ (T49.setTop (mkF m 223 #[.val (.long q0), .second, .val (.long q1), .second, .val (.long q2), .second, .val (.long q3), .second, .val (.long q4), .second, .val (.int p5), .val (.long y0), .second, .val (.long y1), .second, .val (.long y2), .second, .val (.long y3), .second, .val (.long y4), .second, .val (.int (4 : Int32)), .val (.int sel), .val (.ref b6), .val (.long qq), .second, .unset] [(.int (lcmpW qq y3))]))
            by_cases hc223_56 : qq = y3
            · refine own_go (fun _ q => XS.ifNo X49.here hx rfl (hb hby at_223) rfl ((if0 _ _).trans (teq ((lw_eq _ _).mpr hc223_56)).2) q) ?_
              show own_Go _ _ _ _ _ _ _ (T49.setTop (mkF m 226 #[.val (.long q0), .second, .val (.long q1), .second, .val (.long q2), .second, .val (.long q3), .second, .val (.long q4), .second, .val (.int p5), .val (.long y0), .second, .val (.long y1), .second, .val (.long y2), .second, .val (.long y3), .second, .val (.long y4), .second, .val (.int (4 : Int32)), .val (.int sel), .val (.ref b6), .val (.long qq), .second, .unset] []))
              refine own_go (fun _ q => XS.iconst X49.here hx rfl (hb hby at_226) q) ?_
              show own_Go _ _ _ _ _ _ _ (T49.setTop (mkF m 227 #[.val (.long q0), .second, .val (.long q1), .second, .val (.long q2), .second, .val (.long q3), .second, .val (.long q4), .second, .val (.int p5), .val (.long y0), .second, .val (.long y1), .second, .val (.long y2), .second, .val (.long y3), .second, .val (.long y4), .second, .val (.int (4 : Int32)), .val (.int sel), .val (.ref b6), .val (.long qq), .second, .unset] [(.int (1 : Int32))]))
              refine own_go (fun _ q => XS.goto X49.here hx rfl (pc0 := 227) (pc' := 231) rfl (hb hby at_227) (by decide) (by decide) q) ?_
              show own_Go _ _ _ _ _ _ _ (T49.setTop (mkF m 231 #[.val (.long q0), .second, .val (.long q1), .second, .val (.long q2), .second, .val (.long q3), .second, .val (.long q4), .second, .val (.int p5), .val (.long y0), .second, .val (.long y1), .second, .val (.long y2), .second, .val (.long y3), .second, .val (.long y4), .second, .val (.int (4 : Int32)), .val (.int sel), .val (.ref b6), .val (.long qq), .second, .unset] [(.int (1 : Int32))]))
              refine own_go (fun _ q => XS.istore X49.here hx rfl (hb hby at_231) rfl (l' := #[.val (.long q0), .second, .val (.long q1), .second, .val (.long q2), .second, .val (.long q3), .second, .val (.long q4), .second, .val (.int p5), .val (.long y0), .second, .val (.long y1), .second, .val (.long y2), .second, .val (.long y3), .second, .val (.long y4), .second, .val (.int (4 : Int32)), .val (.int sel), .val (.ref b6), .val (.long qq), .second, .val (.int (1 : Int32))]) rfl q) ?_
              show own_Go _ _ _ _ _ _ _ (T49.setTop (mkF m 233 #[.val (.long q0), .second, .val (.long q1), .second, .val (.long q2), .second, .val (.long q3), .second, .val (.long q4), .second, .val (.int p5), .val (.long y0), .second, .val (.long y1), .second, .val (.long y2), .second, .val (.long y3), .second, .val (.long y4), .second, .val (.int (4 : Int32)), .val (.int sel), .val (.ref b6), .val (.long qq), .second, .val (.int (1 : Int32))] []))
              refine own_go (fun _ q => XS.aload X49.here hx rfl (hb hby at_233) rfl rfl q) ?_
              show own_Go _ _ _ _ _ _ _ (T49.setTop (mkF m 235 #[.val (.long q0), .second, .val (.long q1), .second, .val (.long q2), .second, .val (.long q3), .second, .val (.long q4), .second, .val (.int p5), .val (.long y0), .second, .val (.long y1), .second, .val (.long y2), .second, .val (.long y3), .second, .val (.long y4), .second, .val (.int (4 : Int32)), .val (.int sel), .val (.ref b6), .val (.long qq), .second, .val (.int (1 : Int32))] [(.ref b6)]))
              refine own_go (fun _ q => XS.lload X49.here hx rfl (hb hby at_235) rfl q) ?_
              show own_Go _ _ _ _ _ _ _ (T49.setTop (mkF m 237 #[.val (.long q0), .second, .val (.long q1), .second, .val (.long q2), .second, .val (.long q3), .second, .val (.long q4), .second, .val (.int p5), .val (.long y0), .second, .val (.long y1), .second, .val (.long y2), .second, .val (.long y3), .second, .val (.long y4), .second, .val (.int (4 : Int32)), .val (.int sel), .val (.ref b6), .val (.long qq), .second, .val (.int (1 : Int32))] [(.long qq), (.ref b6)]))
              refine own_virtual X49 hx hZ hown (hw _ (List.mem_of_getElem? (i := 31) rfl)) (hw _ (List.mem_of_getElem? (i := 32) rfl)) (hw _ (List.mem_of_getElem? (i := 34) rfl)) (hw _ (List.mem_of_getElem? (i := 33) rfl)) (hw _ (List.mem_of_getElem? (i := 7) rfl)) (hw _ (List.mem_of_getElem? (i := 35) rfl)) (by decide) rfl (a := b6) E_4_z (argsL := [(.long qq)]) (rest := []) (rm6 l Z a0 hw [] b6 tb_4_z Ln_4_z tbl_4_z qq (fun y => (fun y => (fun y => (fun y => (fun _ => False) y ∨ y = y0) y ∨ y = y1) y ∨ y = y2) y ∨ y = y3) sz_4_z T49.heap n0 Z49 E_4_z Ft_4_z At_4_z (by rcases hLA_4_z with ⟨_, q, _⟩ | ⟨_, q, _⟩ <;> omega) (by have := I_4_z.2.2; rcases hLA_4_z with ⟨_, q, _⟩ | ⟨_, q, _⟩ <;> omega) I_4_z) 0 (by decide) (by decide) (by decide) (by decide) (by rw [hml]; rfl) pd_5 rfl rfl (Nat.le_of_eq rfl) (hb hby at_237) rfl ?_
              intro v57 T57 L57 X57 hQ57
              obtain ⟨r, rfl, N57q, e57q, hrr⟩ := hQ57
              have N57 := Fr.app N49 N57q
              show own_Go _ _ _ _ _ _ _ (T57.setTop (mkF m 240 #[.val (.long q0), .second, .val (.long q1), .second, .val (.long q2), .second, .val (.long q3), .second, .val (.long q4), .second, .val (.int p5), .val (.long y0), .second, .val (.long y1), .second, .val (.long y2), .second, .val (.long y3), .second, .val (.long y4), .second, .val (.int (4 : Int32)), .val (.int sel), .val (.ref b6), .val (.long qq), .second, .val (.int (1 : Int32))] [(.int r)]))
              refine own_go (fun _ q => XS.iload X57.here hx rfl (hb hby at_240) rfl q) ?_
              show own_Go _ _ _ _ _ _ _ (T57.setTop (mkF m 242 #[.val (.long q0), .second, .val (.long q1), .second, .val (.long q2), .second, .val (.long q3), .second, .val (.long q4), .second, .val (.int p5), .val (.long y0), .second, .val (.long y1), .second, .val (.long y2), .second, .val (.long y3), .second, .val (.long y4), .second, .val (.int (4 : Int32)), .val (.int sel), .val (.ref b6), .val (.long qq), .second, .val (.int (1 : Int32))] [(.int (1 : Int32)), (.int r)]))
              refine own_go (fun _ q => XS.icmpNo X57.here hx rfl (hb hby at_242) rfl (teq (by rcases hrr with ⟨rfl, u⟩ | ⟨rfl, u⟩; (· first | rfl | (exfalso; simp_all)); (· first | rfl | (exfalso; simp_all)))).2 q) ?_
              show own_Go _ _ _ _ _ _ _ (T57.setTop (mkF m 245 #[.val (.long q0), .second, .val (.long q1), .second, .val (.long q2), .second, .val (.long q3), .second, .val (.long q4), .second, .val (.int p5), .val (.long y0), .second, .val (.long y1), .second, .val (.long y2), .second, .val (.long y3), .second, .val (.long y4), .second, .val (.int (4 : Int32)), .val (.int sel), .val (.ref b6), .val (.long qq), .second, .val (.int (1 : Int32))] []))
              refine own_go (fun _ q => XS.iconst X57.here hx rfl (hb hby at_245) q) ?_
              show own_Go _ _ _ _ _ _ _ (T57.setTop (mkF m 246 #[.val (.long q0), .second, .val (.long q1), .second, .val (.long q2), .second, .val (.long q3), .second, .val (.long q4), .second, .val (.int p5), .val (.long y0), .second, .val (.long y1), .second, .val (.long y2), .second, .val (.long y3), .second, .val (.long y4), .second, .val (.int (4 : Int32)), .val (.int sel), .val (.ref b6), .val (.long qq), .second, .val (.int (1 : Int32))] [(.int (1 : Int32))]))
              refine own_go (fun _ q => XS.goto X57.here hx rfl (pc0 := 246) (pc' := 250) rfl (hb hby at_246) (by decide) (by decide) q) ?_
              show own_Go _ _ _ _ _ _ _ (T57.setTop (mkF m 250 #[.val (.long q0), .second, .val (.long q1), .second, .val (.long q2), .second, .val (.long q3), .second, .val (.long q4), .second, .val (.int p5), .val (.long y0), .second, .val (.long y1), .second, .val (.long y2), .second, .val (.long y3), .second, .val (.long y4), .second, .val (.int (4 : Int32)), .val (.int sel), .val (.ref b6), .val (.long qq), .second, .val (.int (1 : Int32))] [(.int (1 : Int32))]))
              exact own_retZ X57 hx hlk hret (hb hby at_250) (by decide) (by decide) (by decide) ⟨rfl, N57⟩
            · refine own_go (fun _ q => XS.ifYes X49.here hx rfl (pc0 := 223) (pc' := 230) rfl (hb hby at_223) rfl ((if0 _ _).trans (feq (fun q => hc223_56 ((lw_eq _ _).mp q))).2) (by decide) (by decide) q) ?_
              show own_Go _ _ _ _ _ _ _ (T49.setTop (mkF m 230 #[.val (.long q0), .second, .val (.long q1), .second, .val (.long q2), .second, .val (.long q3), .second, .val (.long q4), .second, .val (.int p5), .val (.long y0), .second, .val (.long y1), .second, .val (.long y2), .second, .val (.long y3), .second, .val (.long y4), .second, .val (.int (4 : Int32)), .val (.int sel), .val (.ref b6), .val (.long qq), .second, .unset] []))
              refine own_go (fun _ q => XS.iconst X49.here hx rfl (hb hby at_230) q) ?_
              show own_Go _ _ _ _ _ _ _ (T49.setTop (mkF m 231 #[.val (.long q0), .second, .val (.long q1), .second, .val (.long q2), .second, .val (.long q3), .second, .val (.long q4), .second, .val (.int p5), .val (.long y0), .second, .val (.long y1), .second, .val (.long y2), .second, .val (.long y3), .second, .val (.long y4), .second, .val (.int (4 : Int32)), .val (.int sel), .val (.ref b6), .val (.long qq), .second, .unset] [(.int (0 : Int32))]))
              refine own_go (fun _ q => XS.istore X49.here hx rfl (hb hby at_231) rfl (l' := #[.val (.long q0), .second, .val (.long q1), .second, .val (.long q2), .second, .val (.long q3), .second, .val (.long q4), .second, .val (.int p5), .val (.long y0), .second, .val (.long y1), .second, .val (.long y2), .second, .val (.long y3), .second, .val (.long y4), .second, .val (.int (4 : Int32)), .val (.int sel), .val (.ref b6), .val (.long qq), .second, .val (.int (0 : Int32))]) rfl q) ?_
              show own_Go _ _ _ _ _ _ _ (T49.setTop (mkF m 233 #[.val (.long q0), .second, .val (.long q1), .second, .val (.long q2), .second, .val (.long q3), .second, .val (.long q4), .second, .val (.int p5), .val (.long y0), .second, .val (.long y1), .second, .val (.long y2), .second, .val (.long y3), .second, .val (.long y4), .second, .val (.int (4 : Int32)), .val (.int sel), .val (.ref b6), .val (.long qq), .second, .val (.int (0 : Int32))] []))
              refine own_go (fun _ q => XS.aload X49.here hx rfl (hb hby at_233) rfl rfl q) ?_
              show own_Go _ _ _ _ _ _ _ (T49.setTop (mkF m 235 #[.val (.long q0), .second, .val (.long q1), .second, .val (.long q2), .second, .val (.long q3), .second, .val (.long q4), .second, .val (.int p5), .val (.long y0), .second, .val (.long y1), .second, .val (.long y2), .second, .val (.long y3), .second, .val (.long y4), .second, .val (.int (4 : Int32)), .val (.int sel), .val (.ref b6), .val (.long qq), .second, .val (.int (0 : Int32))] [(.ref b6)]))
              refine own_go (fun _ q => XS.lload X49.here hx rfl (hb hby at_235) rfl q) ?_
              show own_Go _ _ _ _ _ _ _ (T49.setTop (mkF m 237 #[.val (.long q0), .second, .val (.long q1), .second, .val (.long q2), .second, .val (.long q3), .second, .val (.long q4), .second, .val (.int p5), .val (.long y0), .second, .val (.long y1), .second, .val (.long y2), .second, .val (.long y3), .second, .val (.long y4), .second, .val (.int (4 : Int32)), .val (.int sel), .val (.ref b6), .val (.long qq), .second, .val (.int (0 : Int32))] [(.long qq), (.ref b6)]))
              refine own_virtual X49 hx hZ hown (hw _ (List.mem_of_getElem? (i := 31) rfl)) (hw _ (List.mem_of_getElem? (i := 32) rfl)) (hw _ (List.mem_of_getElem? (i := 34) rfl)) (hw _ (List.mem_of_getElem? (i := 33) rfl)) (hw _ (List.mem_of_getElem? (i := 7) rfl)) (hw _ (List.mem_of_getElem? (i := 35) rfl)) (by decide) rfl (a := b6) E_4_z (argsL := [(.long qq)]) (rest := []) (rm6 l Z a0 hw [] b6 tb_4_z Ln_4_z tbl_4_z qq (fun y => (fun y => (fun y => (fun y => (fun _ => False) y ∨ y = y0) y ∨ y = y1) y ∨ y = y2) y ∨ y = y3) sz_4_z T49.heap n0 Z49 E_4_z Ft_4_z At_4_z (by rcases hLA_4_z with ⟨_, q, _⟩ | ⟨_, q, _⟩ <;> omega) (by have := I_4_z.2.2; rcases hLA_4_z with ⟨_, q, _⟩ | ⟨_, q, _⟩ <;> omega) I_4_z) 0 (by decide) (by decide) (by decide) (by decide) (by rw [hml]; rfl) pd_5 rfl rfl (Nat.le_of_eq rfl) (hb hby at_237) rfl ?_
              intro v58 T58 L58 X58 hQ58
              obtain ⟨r, rfl, N58q, e58q, hrr⟩ := hQ58
              have N58 := Fr.app N49 N58q
              show own_Go _ _ _ _ _ _ _ (T58.setTop (mkF m 240 #[.val (.long q0), .second, .val (.long q1), .second, .val (.long q2), .second, .val (.long q3), .second, .val (.long q4), .second, .val (.int p5), .val (.long y0), .second, .val (.long y1), .second, .val (.long y2), .second, .val (.long y3), .second, .val (.long y4), .second, .val (.int (4 : Int32)), .val (.int sel), .val (.ref b6), .val (.long qq), .second, .val (.int (0 : Int32))] [(.int r)]))
              refine own_go (fun _ q => XS.iload X58.here hx rfl (hb hby at_240) rfl q) ?_
              show own_Go _ _ _ _ _ _ _ (T58.setTop (mkF m 242 #[.val (.long q0), .second, .val (.long q1), .second, .val (.long q2), .second, .val (.long q3), .second, .val (.long q4), .second, .val (.int p5), .val (.long y0), .second, .val (.long y1), .second, .val (.long y2), .second, .val (.long y3), .second, .val (.long y4), .second, .val (.int (4 : Int32)), .val (.int sel), .val (.ref b6), .val (.long qq), .second, .val (.int (0 : Int32))] [(.int (0 : Int32)), (.int r)]))
              refine own_go (fun _ q => XS.icmpNo X58.here hx rfl (hb hby at_242) rfl (teq (by rcases hrr with ⟨rfl, u⟩ | ⟨rfl, u⟩; (· first | rfl | (exfalso; simp_all)); (· first | rfl | (exfalso; simp_all)))).2 q) ?_
              show own_Go _ _ _ _ _ _ _ (T58.setTop (mkF m 245 #[.val (.long q0), .second, .val (.long q1), .second, .val (.long q2), .second, .val (.long q3), .second, .val (.long q4), .second, .val (.int p5), .val (.long y0), .second, .val (.long y1), .second, .val (.long y2), .second, .val (.long y3), .second, .val (.long y4), .second, .val (.int (4 : Int32)), .val (.int sel), .val (.ref b6), .val (.long qq), .second, .val (.int (0 : Int32))] []))
              refine own_go (fun _ q => XS.iconst X58.here hx rfl (hb hby at_245) q) ?_
              show own_Go _ _ _ _ _ _ _ (T58.setTop (mkF m 246 #[.val (.long q0), .second, .val (.long q1), .second, .val (.long q2), .second, .val (.long q3), .second, .val (.long q4), .second, .val (.int p5), .val (.long y0), .second, .val (.long y1), .second, .val (.long y2), .second, .val (.long y3), .second, .val (.long y4), .second, .val (.int (4 : Int32)), .val (.int sel), .val (.ref b6), .val (.long qq), .second, .val (.int (0 : Int32))] [(.int (1 : Int32))]))
              refine own_go (fun _ q => XS.goto X58.here hx rfl (pc0 := 246) (pc' := 250) rfl (hb hby at_246) (by decide) (by decide) q) ?_
              show own_Go _ _ _ _ _ _ _ (T58.setTop (mkF m 250 #[.val (.long q0), .second, .val (.long q1), .second, .val (.long q2), .second, .val (.long q3), .second, .val (.long q4), .second, .val (.int p5), .val (.long y0), .second, .val (.long y1), .second, .val (.long y2), .second, .val (.long y3), .second, .val (.long y4), .second, .val (.int (4 : Int32)), .val (.int sel), .val (.ref b6), .val (.long qq), .second, .val (.int (0 : Int32))] [(.int (1 : Int32))]))
              exact own_retZ X58 hx hlk hret (hb hby at_250) (by decide) (by decide) (by decide) ⟨rfl, N58⟩
    refine own_go (fun _ q => XS.iload X49.here hx rfl (hb hby at_122) rfl q) ?_
    show own_Go _ _ _ _ _ _ _ (T49.setTop (mkF m 124 #[.val (.long q0), .second, .val (.long q1), .second, .val (.long q2), .second, .val (.long q3), .second, .val (.long q4), .second, .val (.int p5), .val (.long y0), .second, .val (.long y1), .second, .val (.long y2), .second, .val (.long y3), .second, .val (.long y4), .second, .val (.int (4 : Int32)), .val (.int sel), .val (.ref b6), .val (.long y4), .second, .unset] [(.int sel)]))
    by_cases hc124_59 : sel = (0 : Int32)
    · refine own_go (fun _ q => XS.ifNo X49.here hx rfl (hb hby at_124) rfl ((if0 _ _).trans (teq hc124_59).2) q) ?_
      show own_Go _ _ _ _ _ _ _ (T49.setTop (mkF m 127 #[.val (.long q0), .second, .val (.long q1), .second, .val (.long q2), .second, .val (.long q3), .second, .val (.long q4), .second, .val (.int p5), .val (.long y0), .second, .val (.long y1), .second, .val (.long y2), .second, .val (.long y3), .second, .val (.long y4), .second, .val (.int (4 : Int32)), .val (.int sel), .val (.ref b6), .val (.long y4), .second, .unset] []))
      refine own_go (fun _ q => XS.lload X49.here hx rfl (hb hby at_127) rfl q) ?_
      show own_Go _ _ _ _ _ _ _ (T49.setTop (mkF m 129 #[.val (.long q0), .second, .val (.long q1), .second, .val (.long q2), .second, .val (.long q3), .second, .val (.long q4), .second, .val (.int p5), .val (.long y0), .second, .val (.long y1), .second, .val (.long y2), .second, .val (.long y3), .second, .val (.long y4), .second, .val (.int (4 : Int32)), .val (.int sel), .val (.ref b6), .val (.long y4), .second, .unset] [(.long y0)]))
      refine own_go (fun _ q => XS.lstore X49.here hx rfl (hb hby at_129) rfl (l' := #[.val (.long q0), .second, .val (.long q1), .second, .val (.long q2), .second, .val (.long q3), .second, .val (.long q4), .second, .val (.int p5), .val (.long y0), .second, .val (.long y1), .second, .val (.long y2), .second, .val (.long y3), .second, .val (.long y4), .second, .val (.int (4 : Int32)), .val (.int sel), .val (.ref b6), .val (.long y0), .second, .unset]) rfl q) ?_
      show own_Go _ _ _ _ _ _ _ (T49.setTop (mkF m 131 #[.val (.long q0), .second, .val (.long q1), .second, .val (.long q2), .second, .val (.long q3), .second, .val (.long q4), .second, .val (.int p5), .val (.long y0), .second, .val (.long y1), .second, .val (.long y2), .second, .val (.long y3), .second, .val (.long y4), .second, .val (.int (4 : Int32)), .val (.int sel), .val (.ref b6), .val (.long y0), .second, .unset] []))
      refine own_go (fun _ q => XS.goto X49.here hx rfl (pc0 := 131) (pc' := 170) rfl (hb hby at_131) (by decide) (by decide) q) ?_
      show own_Go _ _ _ _ _ _ _ (T49.setTop (mkF m 170 #[.val (.long q0), .second, .val (.long q1), .second, .val (.long q2), .second, .val (.long q3), .second, .val (.long q4), .second, .val (.int p5), .val (.long y0), .second, .val (.long y1), .second, .val (.long y2), .second, .val (.long y3), .second, .val (.long y4), .second, .val (.int (4 : Int32)), .val (.int sel), .val (.ref b6), .val (.long y0), .second, .unset] []))
      exact join _
    · refine own_go (fun _ q => XS.ifYes X49.here hx rfl (pc0 := 124) (pc' := 134) rfl (hb hby at_124) rfl ((if0 _ _).trans (feq hc124_59).2) (by decide) (by decide) q) ?_
      show own_Go _ _ _ _ _ _ _ (T49.setTop (mkF m 134 #[.val (.long q0), .second, .val (.long q1), .second, .val (.long q2), .second, .val (.long q3), .second, .val (.long q4), .second, .val (.int p5), .val (.long y0), .second, .val (.long y1), .second, .val (.long y2), .second, .val (.long y3), .second, .val (.long y4), .second, .val (.int (4 : Int32)), .val (.int sel), .val (.ref b6), .val (.long y4), .second, .unset] []))
      refine own_go (fun _ q => XS.iload X49.here hx rfl (hb hby at_134) rfl q) ?_
      show own_Go _ _ _ _ _ _ _ (T49.setTop (mkF m 136 #[.val (.long q0), .second, .val (.long q1), .second, .val (.long q2), .second, .val (.long q3), .second, .val (.long q4), .second, .val (.int p5), .val (.long y0), .second, .val (.long y1), .second, .val (.long y2), .second, .val (.long y3), .second, .val (.long y4), .second, .val (.int (4 : Int32)), .val (.int sel), .val (.ref b6), .val (.long y4), .second, .unset] [(.int sel)]))
      refine own_go (fun _ q => XS.iconst X49.here hx rfl (hb hby at_136) q) ?_
      show own_Go _ _ _ _ _ _ _ (T49.setTop (mkF m 137 #[.val (.long q0), .second, .val (.long q1), .second, .val (.long q2), .second, .val (.long q3), .second, .val (.long q4), .second, .val (.int p5), .val (.long y0), .second, .val (.long y1), .second, .val (.long y2), .second, .val (.long y3), .second, .val (.long y4), .second, .val (.int (4 : Int32)), .val (.int sel), .val (.ref b6), .val (.long y4), .second, .unset] [(.int (1 : Int32)), (.int sel)]))
      by_cases hc137_60 : sel = (1 : Int32)
      · refine own_go (fun _ q => XS.icmpNo X49.here hx rfl (hb hby at_137) rfl (teq hc137_60).2 q) ?_
        show own_Go _ _ _ _ _ _ _ (T49.setTop (mkF m 140 #[.val (.long q0), .second, .val (.long q1), .second, .val (.long q2), .second, .val (.long q3), .second, .val (.long q4), .second, .val (.int p5), .val (.long y0), .second, .val (.long y1), .second, .val (.long y2), .second, .val (.long y3), .second, .val (.long y4), .second, .val (.int (4 : Int32)), .val (.int sel), .val (.ref b6), .val (.long y4), .second, .unset] []))
        refine own_go (fun _ q => XS.lload X49.here hx rfl (hb hby at_140) rfl q) ?_
        show own_Go _ _ _ _ _ _ _ (T49.setTop (mkF m 142 #[.val (.long q0), .second, .val (.long q1), .second, .val (.long q2), .second, .val (.long q3), .second, .val (.long q4), .second, .val (.int p5), .val (.long y0), .second, .val (.long y1), .second, .val (.long y2), .second, .val (.long y3), .second, .val (.long y4), .second, .val (.int (4 : Int32)), .val (.int sel), .val (.ref b6), .val (.long y4), .second, .unset] [(.long y1)]))
        refine own_go (fun _ q => XS.lstore X49.here hx rfl (hb hby at_142) rfl (l' := #[.val (.long q0), .second, .val (.long q1), .second, .val (.long q2), .second, .val (.long q3), .second, .val (.long q4), .second, .val (.int p5), .val (.long y0), .second, .val (.long y1), .second, .val (.long y2), .second, .val (.long y3), .second, .val (.long y4), .second, .val (.int (4 : Int32)), .val (.int sel), .val (.ref b6), .val (.long y1), .second, .unset]) rfl q) ?_
        show own_Go _ _ _ _ _ _ _ (T49.setTop (mkF m 144 #[.val (.long q0), .second, .val (.long q1), .second, .val (.long q2), .second, .val (.long q3), .second, .val (.long q4), .second, .val (.int p5), .val (.long y0), .second, .val (.long y1), .second, .val (.long y2), .second, .val (.long y3), .second, .val (.long y4), .second, .val (.int (4 : Int32)), .val (.int sel), .val (.ref b6), .val (.long y1), .second, .unset] []))
        refine own_go (fun _ q => XS.goto X49.here hx rfl (pc0 := 144) (pc' := 170) rfl (hb hby at_144) (by decide) (by decide) q) ?_
        show own_Go _ _ _ _ _ _ _ (T49.setTop (mkF m 170 #[.val (.long q0), .second, .val (.long q1), .second, .val (.long q2), .second, .val (.long q3), .second, .val (.long q4), .second, .val (.int p5), .val (.long y0), .second, .val (.long y1), .second, .val (.long y2), .second, .val (.long y3), .second, .val (.long y4), .second, .val (.int (4 : Int32)), .val (.int sel), .val (.ref b6), .val (.long y1), .second, .unset] []))
        exact join _
      · refine own_go (fun _ q => XS.icmpYes X49.here hx rfl (pc0 := 137) (pc' := 147) rfl (hb hby at_137) rfl (feq hc137_60).2 (by decide) (by decide) q) ?_
        show own_Go _ _ _ _ _ _ _ (T49.setTop (mkF m 147 #[.val (.long q0), .second, .val (.long q1), .second, .val (.long q2), .second, .val (.long q3), .second, .val (.long q4), .second, .val (.int p5), .val (.long y0), .second, .val (.long y1), .second, .val (.long y2), .second, .val (.long y3), .second, .val (.long y4), .second, .val (.int (4 : Int32)), .val (.int sel), .val (.ref b6), .val (.long y4), .second, .unset] []))
        refine own_go (fun _ q => XS.iload X49.here hx rfl (hb hby at_147) rfl q) ?_
        show own_Go _ _ _ _ _ _ _ (T49.setTop (mkF m 149 #[.val (.long q0), .second, .val (.long q1), .second, .val (.long q2), .second, .val (.long q3), .second, .val (.long q4), .second, .val (.int p5), .val (.long y0), .second, .val (.long y1), .second, .val (.long y2), .second, .val (.long y3), .second, .val (.long y4), .second, .val (.int (4 : Int32)), .val (.int sel), .val (.ref b6), .val (.long y4), .second, .unset] [(.int sel)]))
        refine own_go (fun _ q => XS.iconst X49.here hx rfl (hb hby at_149) q) ?_
        show own_Go _ _ _ _ _ _ _ (T49.setTop (mkF m 150 #[.val (.long q0), .second, .val (.long q1), .second, .val (.long q2), .second, .val (.long q3), .second, .val (.long q4), .second, .val (.int p5), .val (.long y0), .second, .val (.long y1), .second, .val (.long y2), .second, .val (.long y3), .second, .val (.long y4), .second, .val (.int (4 : Int32)), .val (.int sel), .val (.ref b6), .val (.long y4), .second, .unset] [(.int (2 : Int32)), (.int sel)]))
        by_cases hc150_61 : sel = (2 : Int32)
        · refine own_go (fun _ q => XS.icmpNo X49.here hx rfl (hb hby at_150) rfl (teq hc150_61).2 q) ?_
          show own_Go _ _ _ _ _ _ _ (T49.setTop (mkF m 153 #[.val (.long q0), .second, .val (.long q1), .second, .val (.long q2), .second, .val (.long q3), .second, .val (.long q4), .second, .val (.int p5), .val (.long y0), .second, .val (.long y1), .second, .val (.long y2), .second, .val (.long y3), .second, .val (.long y4), .second, .val (.int (4 : Int32)), .val (.int sel), .val (.ref b6), .val (.long y4), .second, .unset] []))
          refine own_go (fun _ q => XS.lload X49.here hx rfl (hb hby at_153) rfl q) ?_
          show own_Go _ _ _ _ _ _ _ (T49.setTop (mkF m 155 #[.val (.long q0), .second, .val (.long q1), .second, .val (.long q2), .second, .val (.long q3), .second, .val (.long q4), .second, .val (.int p5), .val (.long y0), .second, .val (.long y1), .second, .val (.long y2), .second, .val (.long y3), .second, .val (.long y4), .second, .val (.int (4 : Int32)), .val (.int sel), .val (.ref b6), .val (.long y4), .second, .unset] [(.long y2)]))
          refine own_go (fun _ q => XS.lstore X49.here hx rfl (hb hby at_155) rfl (l' := #[.val (.long q0), .second, .val (.long q1), .second, .val (.long q2), .second, .val (.long q3), .second, .val (.long q4), .second, .val (.int p5), .val (.long y0), .second, .val (.long y1), .second, .val (.long y2), .second, .val (.long y3), .second, .val (.long y4), .second, .val (.int (4 : Int32)), .val (.int sel), .val (.ref b6), .val (.long y2), .second, .unset]) rfl q) ?_
          show own_Go _ _ _ _ _ _ _ (T49.setTop (mkF m 157 #[.val (.long q0), .second, .val (.long q1), .second, .val (.long q2), .second, .val (.long q3), .second, .val (.long q4), .second, .val (.int p5), .val (.long y0), .second, .val (.long y1), .second, .val (.long y2), .second, .val (.long y3), .second, .val (.long y4), .second, .val (.int (4 : Int32)), .val (.int sel), .val (.ref b6), .val (.long y2), .second, .unset] []))
          refine own_go (fun _ q => XS.goto X49.here hx rfl (pc0 := 157) (pc' := 170) rfl (hb hby at_157) (by decide) (by decide) q) ?_
          show own_Go _ _ _ _ _ _ _ (T49.setTop (mkF m 170 #[.val (.long q0), .second, .val (.long q1), .second, .val (.long q2), .second, .val (.long q3), .second, .val (.long q4), .second, .val (.int p5), .val (.long y0), .second, .val (.long y1), .second, .val (.long y2), .second, .val (.long y3), .second, .val (.long y4), .second, .val (.int (4 : Int32)), .val (.int sel), .val (.ref b6), .val (.long y2), .second, .unset] []))
          exact join _
        · refine own_go (fun _ q => XS.icmpYes X49.here hx rfl (pc0 := 150) (pc' := 160) rfl (hb hby at_150) rfl (feq hc150_61).2 (by decide) (by decide) q) ?_
          show own_Go _ _ _ _ _ _ _ (T49.setTop (mkF m 160 #[.val (.long q0), .second, .val (.long q1), .second, .val (.long q2), .second, .val (.long q3), .second, .val (.long q4), .second, .val (.int p5), .val (.long y0), .second, .val (.long y1), .second, .val (.long y2), .second, .val (.long y3), .second, .val (.long y4), .second, .val (.int (4 : Int32)), .val (.int sel), .val (.ref b6), .val (.long y4), .second, .unset] []))
          refine own_go (fun _ q => XS.iload X49.here hx rfl (hb hby at_160) rfl q) ?_
          show own_Go _ _ _ _ _ _ _ (T49.setTop (mkF m 162 #[.val (.long q0), .second, .val (.long q1), .second, .val (.long q2), .second, .val (.long q3), .second, .val (.long q4), .second, .val (.int p5), .val (.long y0), .second, .val (.long y1), .second, .val (.long y2), .second, .val (.long y3), .second, .val (.long y4), .second, .val (.int (4 : Int32)), .val (.int sel), .val (.ref b6), .val (.long y4), .second, .unset] [(.int sel)]))
          refine own_go (fun _ q => XS.iconst X49.here hx rfl (hb hby at_162) q) ?_
          show own_Go _ _ _ _ _ _ _ (T49.setTop (mkF m 163 #[.val (.long q0), .second, .val (.long q1), .second, .val (.long q2), .second, .val (.long q3), .second, .val (.long q4), .second, .val (.int p5), .val (.long y0), .second, .val (.long y1), .second, .val (.long y2), .second, .val (.long y3), .second, .val (.long y4), .second, .val (.int (4 : Int32)), .val (.int sel), .val (.ref b6), .val (.long y4), .second, .unset] [(.int (3 : Int32)), (.int sel)]))
          by_cases hc163_62 : sel = (3 : Int32)
          · refine own_go (fun _ q => XS.icmpNo X49.here hx rfl (hb hby at_163) rfl (teq hc163_62).2 q) ?_
            show own_Go _ _ _ _ _ _ _ (T49.setTop (mkF m 166 #[.val (.long q0), .second, .val (.long q1), .second, .val (.long q2), .second, .val (.long q3), .second, .val (.long q4), .second, .val (.int p5), .val (.long y0), .second, .val (.long y1), .second, .val (.long y2), .second, .val (.long y3), .second, .val (.long y4), .second, .val (.int (4 : Int32)), .val (.int sel), .val (.ref b6), .val (.long y4), .second, .unset] []))
            refine own_go (fun _ q => XS.lload X49.here hx rfl (hb hby at_166) rfl q) ?_
            show own_Go _ _ _ _ _ _ _ (T49.setTop (mkF m 168 #[.val (.long q0), .second, .val (.long q1), .second, .val (.long q2), .second, .val (.long q3), .second, .val (.long q4), .second, .val (.int p5), .val (.long y0), .second, .val (.long y1), .second, .val (.long y2), .second, .val (.long y3), .second, .val (.long y4), .second, .val (.int (4 : Int32)), .val (.int sel), .val (.ref b6), .val (.long y4), .second, .unset] [(.long y3)]))
            refine own_go (fun _ q => XS.lstore X49.here hx rfl (hb hby at_168) rfl (l' := #[.val (.long q0), .second, .val (.long q1), .second, .val (.long q2), .second, .val (.long q3), .second, .val (.long q4), .second, .val (.int p5), .val (.long y0), .second, .val (.long y1), .second, .val (.long y2), .second, .val (.long y3), .second, .val (.long y4), .second, .val (.int (4 : Int32)), .val (.int sel), .val (.ref b6), .val (.long y3), .second, .unset]) rfl q) ?_
            show own_Go _ _ _ _ _ _ _ (T49.setTop (mkF m 170 #[.val (.long q0), .second, .val (.long q1), .second, .val (.long q2), .second, .val (.long q3), .second, .val (.long q4), .second, .val (.int p5), .val (.long y0), .second, .val (.long y1), .second, .val (.long y2), .second, .val (.long y3), .second, .val (.long y4), .second, .val (.int (4 : Int32)), .val (.int sel), .val (.ref b6), .val (.long y3), .second, .unset] []))
            exact join _
          · refine own_go (fun _ q => XS.icmpYes X49.here hx rfl (pc0 := 163) (pc' := 170) rfl (hb hby at_163) rfl (feq hc163_62).2 (by decide) (by decide) q) ?_
            show own_Go _ _ _ _ _ _ _ (T49.setTop (mkF m 170 #[.val (.long q0), .second, .val (.long q1), .second, .val (.long q2), .second, .val (.long q3), .second, .val (.long q4), .second, .val (.int p5), .val (.long y0), .second, .val (.long y1), .second, .val (.long y2), .second, .val (.long y3), .second, .val (.long y4), .second, .val (.int (4 : Int32)), .val (.int sel), .val (.ref b6), .val (.long y4), .second, .unset] []))
            exact join _
set_option maxRecDepth 65536 in
set_option maxHeartbeats 40000000 in
theorem comes_1 {Post : Tables → Env → Array Value → State → Outcome → State → Prop} (hpost : ∀ tb e args s v u, (limb_1_1.after args s (.returned v) u = true ∧ limb_1_2.after args s (.returned v) u = true ∧ True) → FrameEnd s (.returned v) u (Jvm.fieldLocs frame_1_writes args s ++ Jvm.arrayLocs frame_1_arrays args s ++ Jvm.staticLocs frame_1_statics s) 24 128 → Post tb e args s (.returned v) u) :
    ArmFor flags0 classFile x code maxLocals ret World_1 tables_1 room_1 Calls_1 rest_1 Pre_1 Post := by
  intro l hfl _ _ p e ha hc hk s m args below hf hA hF happ hP
  obtain ⟨hcalls, hrest, hpre⟩ := hP
  obtain ⟨-, -, -, hnamed, -, -, -, hat⟩ := (Spec.applies_iff hf).mp happ
  obtain ⟨hg, hn⟩ := and_e (Cond.before_iff.mp (show (Jvm.Cond.and given_1 narrow_1).before args s = true from hpre))
  obtain ⟨ga1, gb1⟩ := and_e hg
  obtain ⟨ga2, gb2⟩ := and_e gb1
  obtain ⟨ga3, gb3⟩ := and_e gb2
  obtain ⟨ga4, gb4⟩ := and_e gb3
  obtain ⟨ga5, gb5⟩ := and_e gb4
  obtain ⟨ga6, gb6⟩ := and_e gb5
  obtain ⟨w0, w1, w2, w3, w4, w5, rfl⟩ : ∃ w0 w1 w2 w3 w4 w5 : Value, args = #[w0, w1, w2, w3, w4, w5] := by
    have hs : args.size = 6 := by simpa [Cond.value, given_1] using ga1
    obtain ⟨L⟩ := args
    match L, hs with
    | [w0, w1, w2, w3, w4, w5], _ => exact ⟨w0, w1, w2, w3, w4, w5, rfl⟩
  have hw := fun d (hd : d ∈ tables_1) => atoms_spec (ws := Jvm.Cond.code x code maxLocals ret :: tables_1) hat d (List.mem_cons_of_mem _ hd)
  obtain ⟨i0, ei0⟩ := isL_v ga2
  obtain rfl : w0 = (.long i0) := Option.some.inj ei0
  obtain ⟨i1, ei1⟩ := isL_v ga3
  obtain rfl : w1 = (.long i1) := Option.some.inj ei1
  obtain ⟨i2, ei2⟩ := isL_v ga4
  obtain rfl : w2 = (.long i2) := Option.some.inj ei2
  obtain ⟨i3, ei3⟩ := isL_v ga5
  obtain rfl : w3 = (.long i3) := Option.some.inj ei3
  obtain ⟨i4, ei4⟩ := isL_v ga6
  obtain rfl : w4 = (.long i4) := Option.some.inj ei4
  obtain ⟨i5, ei5⟩ := is_v gb6
  obtain rfl : w5 = (.int i5) := Option.some.inj ei5
  obtain ⟨n, o, h1, h2, h3, _, L, rfl, ⟨rfl, N⟩, hq⟩ := rm0 l s _ hw tables_1 i0 i1 i2 i3 i4 i5 s.heap s.heap.size (Nat.le_refl _)  p e ha hc hk s m _ below hf ((Spec.applies_iff_loose hf).mp happ).1 ⟨rfl, State.Warmed39.refl s, rfl⟩ trivial
  refine ⟨n, _, h1, h2, h3, hpost _ _ _ _ _ _ ⟨Cond.after_iff.mpr rfl, Cond.after_iff.mpr (eq_i res_at (Term.int_eval (1)) rfl), trivial⟩ ⟨hq.1, hq.2.1, (hq.2.2.sift fun y hy => Or.inr (N y hy)).mono (by decide) (by decide)⟩⟩
theorem main_1_1 : Claimed_1_1 := comes_1 fun _ _ _ _ _ _ h hF => ⟨h.1, hF⟩
theorem main_1_2 : Claimed_1_2 := comes_1 fun _ _ _ _ _ _ h hF => ⟨h.2.1, hF⟩
end Jvm.Pilot.@@N@@
namespace Jvm.Pilot.@@N@@
open Jvm Jvm.ClassFile Sem Op Lib Jvm.Free Jvm.Stand Jvm.Pilot.@@N@@.Jvm.D
/-! MADE BY PROGRAM (witnessworld.py) out of the Statement's table words and the real class files: 14 classes; the members and pool entries that the words name. The judged class is class 1, her method 2. -/
namespace start1
open Jvm.ClassFile
def u (s : String) : CpInfo := .utf8 (stringToUtf16 s)
/-- a pool by its gaps: so many unusable entries, then the entry; so many at the end -/
def gap : Nat → List CpInfo → List CpInfo
  | 0, r => r
  | n + 1, r => .unusable :: gap n r
def poolList (es : List (Nat × CpInfo)) (last : Nat) : List CpInfo := es.foldr (fun e r => gap e.1 (e.2 :: r)) (gap last [])
def pool (es : List (Nat × CpInfo)) (last : Nat) : Array CpInfo := ⟨poolList es last⟩
def fileOf (pool : Array CpInfo) (this : Nat) (attrs : Array Attribute := #[]) (ms : Array MethodInfo := #[]) (fl : Nat := 33) (sup : Nat := 0) (ifs : Array Nat := #[]) (fds : Array FieldInfo := #[]) : ClassFile where
  minorVersion := 0
  majorVersion := 65
  constantPool := pool
  accessFlags := fl
  thisClass := this
  superClass := sup
  interfaces := ifs
  fields := fds
  methods := ms
  attributes := attrs
def plain (name : String) (sup : Option ClassId) : Class where
  name := name
  kind := .ordinary
  loader := none
  accessFlags := 33
  super := sup
  interfaces := #[]
  cf := none
  fields := #[]
  methods := #[]
  instanceTypes := #[]
  staticTypes := #[]
  resolved := #[]
  callSites := []
  init := .initialized
  statics := none
  mirror := none

def pool0 : Array CpInfo := pool [(5, u "<init>"), (0, u "()V"), (1, .class_ 10), (1, u "java/lang/Object")] 113

def k0c0 : Code := { maxStack := 0, maxLocals := 1, code := object_method_1_code, exceptionTable := #[], attributes := #[] }
def k0m0 : Method := { name := "<init>", desc := "()V", sig := { parameters := [], returnType := none }, accessFlags := 1, code := some k0c0 }
/-- java/lang/Object -/
def k0 : Class := { plain "java/lang/Object" none with
  accessFlags := 33
  interfaces := #[]
  cf := some (fileOf pool0 8 #[] #[{ accessFlags := 1, nameIndex := 5, descriptorIndex := 6, attributes := #[] }] 33 0 #[] #[])
  fields := #[]
  methods := #[k0m0]
  instanceTypes := #[]
  staticTypes := #[]
  resolved := Array.replicate 124 none
  statics := none }

def pool1 : Array CpInfo := pool [(2, .class_ 4), (0, .nameAndType 5 6), (0, u "java/lang/Object"), (0, u "<init>"), (0, u "()V"), (2, .long 9223372036854775807), (1, .methodref 12 13), (0, .class_ 14), (0, .nameAndType 15 16), (0, u "com/example/concept_reasoner/conceptreasoner/engine/LongSetContainsPinLaw"), (0, u "norm"), (0, u "(J)J"), (0, .class_ 18), (0, u "com/example/concept_reasoner/conceptreasoner/engine/LongSet"), (0, .methodref 17 3), (0, .methodref 17 21), (0, .nameAndType 22 23), (0, u "add"), (0, u "(J)Z"), (0, .methodref 17 25), (0, .nameAndType 26 23), (0, u "contains"), (3, u "law"), (0, u "(JJJJJI)Z")] 2

def k1m0 : Method := { name := "<init>", desc := "()V", sig := { parameters := [], returnType := none }, accessFlags := 1, code := none }
def k1c1 : Code := { maxStack := 4, maxLocals := 4, code := method_2_code, exceptionTable := #[], attributes := #[] }
def k1m1 : Method := { name := "norm", desc := "(J)J", sig := { parameters := [.long], returnType := some .long }, accessFlags := 10, code := some k1c1 }
def k1c2 : Code := { maxStack := 4, maxLocals := 27, code := code, exceptionTable := #[], attributes := #[] }
def k1m2 : Method := { name := "law", desc := "(JJJJJI)Z", sig := { parameters := [.long, .long, .long, .long, .long, .int], returnType := some .boolean }, accessFlags := 9, code := some k1c2 }
/-- com/example/concept_reasoner/conceptreasoner/engine/LongSetContainsPinLaw -/
def k1 : Class := { plain "com/example/concept_reasoner/conceptreasoner/engine/LongSetContainsPinLaw" (some 0) with
  accessFlags := 49
  interfaces := #[]
  cf := some (fileOf pool1 12 #[] #[{ accessFlags := 1, nameIndex := 5, descriptorIndex := 6, attributes := #[] }, { accessFlags := 10, nameIndex := 15, descriptorIndex := 16, attributes := #[] }, { accessFlags := 9, nameIndex := 30, descriptorIndex := 31, attributes := #[] }] 49 2 #[] #[])
  fields := #[]
  methods := #[k1m0, k1m1, k1m2]
  instanceTypes := #[]
  staticTypes := #[]
  resolved := Array.replicate 34 none
  statics := none }

def pool2 : Array CpInfo := pool [(1, .methodref 2 3), (0, .class_ 4), (0, .nameAndType 5 6), (0, u "java/lang/Object"), (0, u "<init>"), (0, u "()V"), (0, .fieldref 8 9), (0, .class_ 10), (0, .nameAndType 11 12), (0, u "com/example/concept_reasoner/conceptreasoner/engine/LongSet"), (0, u "table"), (0, u "[J"), (0, .fieldref 8 14), (0, .nameAndType 15 12), (0, u "added"), (0, .methodref 8 17), (0, .nameAndType 18 19), (0, u "slotOf"), (0, u "(J)I"), (0, .fieldref 8 21), (0, .nameAndType 22 23), (0, u "size"), (0, u "I"), (0, .methodref 25 26), (0, .class_ 27), (0, .nameAndType 28 29), (0, u "java/util/Arrays"), (0, u "copyOf"), (0, u "([JI)[J"), (0, .methodref 8 31), (0, .nameAndType 32 6), (0, u "grow"), (0, .long 11400714819323198485), (3, u "add"), (0, u "(J)Z"), (1, u "contains")] 5

def k2c0 : Code := { maxStack := 2, maxLocals := 1, code := prog_38_method_1_code, exceptionTable := #[], attributes := #[] }
def k2m0 : Method := { name := "<init>", desc := "()V", sig := { parameters := [], returnType := none }, accessFlags := 0, code := some k2c0 }
def k2c1 : Code := { maxStack := 6, maxLocals := 4, code := prog_38_method_2_code, exceptionTable := #[], attributes := #[] }
def k2m1 : Method := { name := "add", desc := "(J)Z", sig := { parameters := [.long], returnType := some .boolean }, accessFlags := 0, code := some k2c1 }
def k2c2 : Code := { maxStack := 4, maxLocals := 3, code := prog_38_method_3_code, exceptionTable := #[], attributes := #[] }
def k2m2 : Method := { name := "contains", desc := "(J)Z", sig := { parameters := [.long], returnType := some .boolean }, accessFlags := 0, code := some k2c2 }
def k2c3 : Code := { maxStack := 6, maxLocals := 5, code := prog_38_method_6_code, exceptionTable := #[], attributes := #[] }
def k2m3 : Method := { name := "slotOf", desc := "(J)I", sig := { parameters := [.long], returnType := some .int }, accessFlags := 2, code := some k2c3 }
def k2c4 : Code := { maxStack := 6, maxLocals := 2, code := prog_38_method_7_code, exceptionTable := #[], attributes := #[] }
def k2m4 : Method := { name := "grow", desc := "()V", sig := { parameters := [], returnType := none }, accessFlags := 2, code := some k2c4 }
/-- com/example/concept_reasoner/conceptreasoner/engine/LongSet -/
def k2 : Class := { plain "com/example/concept_reasoner/conceptreasoner/engine/LongSet" (some 0) with
  accessFlags := 48
  interfaces := #[]
  cf := some (fileOf pool2 8 #[] #[{ accessFlags := 0, nameIndex := 5, descriptorIndex := 6, attributes := #[] }, { accessFlags := 0, nameIndex := 37, descriptorIndex := 38, attributes := #[] }, { accessFlags := 0, nameIndex := 40, descriptorIndex := 38, attributes := #[] }, { accessFlags := 2, nameIndex := 18, descriptorIndex := 19, attributes := #[] }, { accessFlags := 2, nameIndex := 32, descriptorIndex := 6, attributes := #[] }] 48 2 #[] #[{ accessFlags := 2, nameIndex := 11, descriptorIndex := 12, attributes := #[] }, { accessFlags := 2, nameIndex := 15, descriptorIndex := 12, attributes := #[] }, { accessFlags := 2, nameIndex := 22, descriptorIndex := 23, attributes := #[] }])
  fields := #[{ name := "table", type := (.array .long), accessFlags := 2, slot := 0, constantValue := 0 }, { name := "added", type := (.array .long), accessFlags := 2, slot := 1, constantValue := 0 }, { name := "size", type := .int, accessFlags := 2, slot := 2, constantValue := 0 }]
  methods := #[k2m0, k2m1, k2m2, k2m3, k2m4]
  instanceTypes := #[(.array .long), (.array .long), .int]
  staticTypes := #[]
  resolved := Array.replicate 46 none
  statics := none }

def pool3 : Array CpInfo := pool [(2, .class_ 4), (1, u "java/lang/Object"), (0, u "<init>"), (0, u "()V"), (7, .class_ 16), (1, u "java/util/Arrays"), (57, .class_ 76), (1, u "java/util/Arrays$NaturalOrder"), (36, .class_ 115), (1, u "java/util/Arrays$LegacyMergeSort"), (1, u "Z"), (32, .methodref 151 152), (0, .class_ 153), (0, .nameAndType 154 155), (0, u "java/lang/System"), (0, u "arraycopy"), (0, u "(Ljava/lang/Object;ILjava/lang/Object;II)V"), (146, u "copyOf"), (1, .methodref 305 306), (0, .class_ 307), (0, .nameAndType 308 309), (0, u "java/lang/Math"), (0, u "min"), (0, u "(II)I"), (65, .class_ 376), (0, u "java/util/Arrays$ArrayList"), (68, u "$assertionsDisabled"), (269, u "MIN_ARRAY_SORT_GRAN"), (0, u "I"), (2, u "INSERTIONSORT_THRESHOLD"), (152, u "([JI)[J"), (102, .class_ 976), (0, u "java/util/Arrays$ArrayItr")] 52

def k3m0 : Method := { name := "<init>", desc := "()V", sig := { parameters := [], returnType := none }, accessFlags := 2, code := none }
def k3c1 : Code := { maxStack := 6, maxLocals := 3, code := jdk_65_method_124_code, exceptionTable := #[], attributes := #[] }
def k3m1 : Method := { name := "copyOf", desc := "([JI)[J", sig := { parameters := [(.array .long), .int], returnType := some (.array .long) }, accessFlags := 9, code := some k3c1 }
/-- java/util/Arrays -/
def k3 : Class := { plain "java/util/Arrays" (some 0) with
  accessFlags := 49
  interfaces := #[]
  cf := some (fileOf pool3 14 #[.nestMembers #[975, 375, 113, 74]] #[{ accessFlags := 2, nameIndex := 5, descriptorIndex := 6, attributes := #[] }, { accessFlags := 9, nameIndex := 302, descriptorIndex := 872, attributes := #[] }] 49 2 #[] #[{ accessFlags := 26, nameIndex := 715, descriptorIndex := 716, attributes := #[] }, { accessFlags := 26, nameIndex := 719, descriptorIndex := 716, attributes := #[] }, { accessFlags := 4120, nameIndex := 445, descriptorIndex := 117, attributes := #[] }])
  fields := #[{ name := "MIN_ARRAY_SORT_GRAN", type := .int, accessFlags := 26, slot := 0, constantValue := 0 }, { name := "INSERTIONSORT_THRESHOLD", type := .int, accessFlags := 26, slot := 1, constantValue := 0 }, { name := "$assertionsDisabled", type := .boolean, accessFlags := 4120, slot := 2, constantValue := 0 }]
  methods := #[k3m0, k3m1]
  instanceTypes := #[]
  staticTypes := #[.int, .int, .boolean]
  resolved := Array.replicate 1029 none
  statics := none }

def pool4 : Array CpInfo := pool [(1, .class_ 2), (0, u "java/lang/Math"), (1, .class_ 6), (1, u "java/lang/Object"), (0, u "<init>"), (0, u "()V"), (89, .class_ 100), (1, u "java/lang/Math$RandomNumberGeneratorHolder"), (71, u "negativeZeroFloatBits"), (0, u "J"), (2, u "negativeZeroDoubleBits"), (24, u "min"), (43, u "$assertionsDisabled"), (0, u "Z"), (88, u "(II)I"), (2, u "twoToTheDoubleScaleDown"), (0, u "D"), (4, u "twoToTheDoubleScaleUp"), (9, u "E"), (3, u "PI"), (2, u "TAU"), (2, u "DEGREES_TO_RADIANS"), (0, u "RADIANS_TO_DEGREES")] 94

def k4m0 : Method := { name := "<init>", desc := "()V", sig := { parameters := [], returnType := none }, accessFlags := 2, code := none }
def k4c1 : Code := { maxStack := 2, maxLocals := 2, code := jdk_29_method_69_code, exceptionTable := #[], attributes := #[] }
def k4m1 : Method := { name := "min", desc := "(II)I", sig := { parameters := [.int, .int], returnType := some .int }, accessFlags := 9, code := some k4c1 }
/-- java/lang/Math -/
def k4 : Class := { plain "java/lang/Math" (some 0) with
  accessFlags := 49
  interfaces := #[]
  cf := some (fileOf pool4 1 #[.nestMembers #[98]] #[{ accessFlags := 2, nameIndex := 7, descriptorIndex := 8, attributes := #[] }, { accessFlags := 9, nameIndex := 201, descriptorIndex := 335, attributes := #[] }] 49 4 #[] #[{ accessFlags := 25, nameIndex := 354, descriptorIndex := 339, attributes := #[] }, { accessFlags := 25, nameIndex := 358, descriptorIndex := 339, attributes := #[] }, { accessFlags := 25, nameIndex := 361, descriptorIndex := 339, attributes := #[] }, { accessFlags := 26, nameIndex := 364, descriptorIndex := 339, attributes := #[] }, { accessFlags := 26, nameIndex := 365, descriptorIndex := 339, attributes := #[] }, { accessFlags := 26, nameIndex := 172, descriptorIndex := 173, attributes := #[] }, { accessFlags := 26, nameIndex := 176, descriptorIndex := 173, attributes := #[] }, { accessFlags := 8, nameIndex := 344, descriptorIndex := 339, attributes := #[] }, { accessFlags := 8, nameIndex := 338, descriptorIndex := 339, attributes := #[] }, { accessFlags := 4120, nameIndex := 245, descriptorIndex := 246, attributes := #[] }])
  fields := #[{ name := "E", type := .double, accessFlags := 25, slot := 0, constantValue := 0 }, { name := "PI", type := .double, accessFlags := 25, slot := 1, constantValue := 0 }, { name := "TAU", type := .double, accessFlags := 25, slot := 2, constantValue := 0 }, { name := "DEGREES_TO_RADIANS", type := .double, accessFlags := 26, slot := 3, constantValue := 0 }, { name := "RADIANS_TO_DEGREES", type := .double, accessFlags := 26, slot := 4, constantValue := 0 }, { name := "negativeZeroFloatBits", type := .long, accessFlags := 26, slot := 5, constantValue := 0 }, { name := "negativeZeroDoubleBits", type := .long, accessFlags := 26, slot := 6, constantValue := 0 }, { name := "twoToTheDoubleScaleUp", type := .double, accessFlags := 8, slot := 7, constantValue := 0 }, { name := "twoToTheDoubleScaleDown", type := .double, accessFlags := 8, slot := 8, constantValue := 0 }, { name := "$assertionsDisabled", type := .boolean, accessFlags := 4120, slot := 9, constantValue := 0 }]
  methods := #[k4m0, k4m1]
  instanceTypes := #[]
  staticTypes := #[.double, .double, .double, .double, .double, .long, .long, .double, .double, .boolean]
  resolved := Array.replicate 460 none
  statics := none }

def pool5 : Array CpInfo := pool [(2, .class_ 4), (1, u "java/lang/Object"), (0, u "<init>"), (0, u "()V"), (1, .class_ 10), (1, u "java/lang/System"), (0, u "allowSecurityManager"), (0, u "I"), (16, u "cons"), (0, u "Ljava/io/Console;"), (77, .class_ 110), (1, u "java/lang/System$CallersHolder"), (43, u "initialErrStream"), (0, u "Ljava/io/PrintStream;"), (19, u "security"), (0, u "Ljava/lang/SecurityManager;"), (31, .class_ 209), (0, u "java/lang/System$1"), (7, u "props"), (0, u "Ljava/util/Properties;"), (2, u "lineSeparator"), (0, u "Ljava/lang/String;"), (96, .class_ 321), (1, u "java/lang/System$LoggerFinder"), (5, .class_ 328), (0, u "java/lang/System$Logger"), (67, u "err"), (2, u "out"), (91, u "notSupportedJnuEncoding"), (15, u "in"), (17, u "initialIn"), (0, u "Ljava/io/InputStream;"), (35, u "bootLayer"), (0, u "Ljava/lang/ModuleLayer;"), (99, .class_ 664), (0, u "java/lang/System$2"), (9, u "NEVER"), (2, u "MAYBE"), (49, u "arraycopy"), (0, u "(Ljava/lang/Object;ILjava/lang/Object;II)V"), (72, .class_ 802), (0, u "java/lang/System$Logger$Level")] 31

def k5m0 : Method := { name := "<init>", desc := "()V", sig := { parameters := [], returnType := none }, accessFlags := 2, code := none }
def k5m1 : Method := { name := "arraycopy", desc := "(Ljava/lang/Object;ILjava/lang/Object;II)V", sig := { parameters := [(.object "java/lang/Object"), .int, (.object "java/lang/Object"), .int, .int], returnType := none }, accessFlags := 265, code := none }
/-- java/lang/System -/
def k5 : Class := { plain "java/lang/System" (some 0) with
  accessFlags := 49
  interfaces := #[]
  cf := some (fileOf pool5 8 #[.nestMembers #[319, 327, 801, 108, 663, 208]] #[{ accessFlags := 2, nameIndex := 5, descriptorIndex := 6, attributes := #[] }, { accessFlags := 265, nameIndex := 727, descriptorIndex := 728, attributes := #[] }] 49 2 #[] #[{ accessFlags := 25, nameIndex := 507, descriptorIndex := 526, attributes := #[] }, { accessFlags := 25, nameIndex := 399, descriptorIndex := 155, attributes := #[] }, { accessFlags := 25, nameIndex := 396, descriptorIndex := 155, attributes := #[] }, { accessFlags := 10, nameIndex := 525, descriptorIndex := 526, attributes := #[] }, { accessFlags := 26, nameIndex := 674, descriptorIndex := 12, attributes := #[] }, { accessFlags := 26, nameIndex := 677, descriptorIndex := 12, attributes := #[] }, { accessFlags := 10, nameIndex := 11, descriptorIndex := 12, attributes := #[] }, { accessFlags := 74, nameIndex := 175, descriptorIndex := 176, attributes := #[] }, { accessFlags := 10, nameIndex := 491, descriptorIndex := 222, attributes := #[] }, { accessFlags := 74, nameIndex := 29, descriptorIndex := 30, attributes := #[] }, { accessFlags := 74, nameIndex := 154, descriptorIndex := 155, attributes := #[] }, { accessFlags := 10, nameIndex := 217, descriptorIndex := 218, attributes := #[] }, { accessFlags := 10, nameIndex := 221, descriptorIndex := 222, attributes := #[] }, { accessFlags := 8, nameIndex := 562, descriptorIndex := 563, attributes := #[] }])
  fields := #[{ name := "in", type := (.object "java/io/InputStream"), accessFlags := 25, slot := 0, constantValue := 0 }, { name := "out", type := (.object "java/io/PrintStream"), accessFlags := 25, slot := 1, constantValue := 0 }, { name := "err", type := (.object "java/io/PrintStream"), accessFlags := 25, slot := 2, constantValue := 0 }, { name := "initialIn", type := (.object "java/io/InputStream"), accessFlags := 10, slot := 3, constantValue := 0 }, { name := "NEVER", type := .int, accessFlags := 26, slot := 4, constantValue := 0 }, { name := "MAYBE", type := .int, accessFlags := 26, slot := 5, constantValue := 0 }, { name := "allowSecurityManager", type := .int, accessFlags := 10, slot := 6, constantValue := 0 }, { name := "security", type := (.object "java/lang/SecurityManager"), accessFlags := 74, slot := 7, constantValue := 0 }, { name := "notSupportedJnuEncoding", type := (.object "java/lang/String"), accessFlags := 10, slot := 8, constantValue := 0 }, { name := "cons", type := (.object "java/io/Console"), accessFlags := 74, slot := 9, constantValue := 0 }, { name := "initialErrStream", type := (.object "java/io/PrintStream"), accessFlags := 74, slot := 10, constantValue := 0 }, { name := "props", type := (.object "java/util/Properties"), accessFlags := 10, slot := 11, constantValue := 0 }, { name := "lineSeparator", type := (.object "java/lang/String"), accessFlags := 10, slot := 12, constantValue := 0 }, { name := "bootLayer", type := (.object "java/lang/ModuleLayer"), accessFlags := 8, slot := 13, constantValue := 0 }]
  methods := #[k5m0, k5m1]
  instanceTypes := #[]
  staticTypes := #[(.object "java/io/InputStream"), (.object "java/io/PrintStream"), (.object "java/io/PrintStream"), (.object "java/io/InputStream"), .int, .int, .int, (.object "java/lang/SecurityManager"), (.object "java/lang/String"), (.object "java/io/Console"), (.object "java/io/PrintStream"), (.object "java/util/Properties"), (.object "java/lang/String"), (.object "java/lang/ModuleLayer")]
  resolved := Array.replicate 834 none
  statics := none }

def pool6 : Array CpInfo := pool [(1, u "java/lang/Cloneable"), (0, .class_ 1), (0, u "java/lang/Object"), (0, .class_ 3)] 3

/-- java/lang/Cloneable -/
def k6 : Class := { plain "java/lang/Cloneable" (some 0) with
  accessFlags := 1537
  interfaces := #[]
  cf := some (fileOf pool6 2 #[] #[] 1537 4 #[] #[])
  fields := #[]
  methods := #[]
  instanceTypes := #[]
  staticTypes := #[]
  resolved := Array.replicate 8 none
  statics := none }

def pool7 : Array CpInfo := pool [(1, u "java/io/Serializable"), (0, .class_ 1), (0, u "java/lang/Object"), (0, .class_ 3)] 3

/-- java/io/Serializable -/
def k7 : Class := { plain "java/io/Serializable" (some 0) with
  accessFlags := 1537
  interfaces := #[]
  cf := some (fileOf pool7 2 #[] #[] 1537 4 #[] #[])
  fields := #[]
  methods := #[]
  instanceTypes := #[]
  staticTypes := #[]
  resolved := Array.replicate 8 none
  statics := none }

/-- the primitive byte -/
def k8 : Class := { plain "byte" none with kind := .primitive 'B', accessFlags := 0x411 }
/-- [B -/
def k9 : Class := { plain "[B" (some 0) with kind := .array 8 .byte, interfaces := #[6, 7], accessFlags := 1041 }

/-- the primitive int -/
def k10 : Class := { plain "int" none with kind := .primitive 'I', accessFlags := 0x411 }
/-- [I -/
def k11 : Class := { plain "[I" (some 0) with kind := .array 10 .int, interfaces := #[6, 7], accessFlags := 1041 }

/-- the primitive long -/
def k12 : Class := { plain "long" none with kind := .primitive 'J', accessFlags := 0x411 }
/-- [J -/
def k13 : Class := { plain "[J" (some 0) with kind := .array 12 .long, interfaces := #[6, 7], accessFlags := 1041 }

def heap : Heap := #[]
def classes : Array Class := #[k0, k1, k2, k3, k4, k5, k6, k7, k8, k9, k10, k11, k12, k13]
def interned : List (Array UInt16 × Addr) := []
def slotsUsed : Nat := 0
def theMethod : MethodId := ⟨1, 2⟩
def args0 : Array Value := #[.long 3, .long 4, .long 5, .long 6, .long 7, .int 9]
def aboutOver (below : List Frame) : State where
  vm := { classes := classes, interned := interned.toArray }
  heap := heap
  slotsUsed := slotsUsed
  threads := #[{ frames := .invoking theMethod args0 :: below }]
def below0 : List Frame := [.native { method := ⟨0, 0⟩, args := #[] }]
def about1 : State := aboutOver below0
def p0 : Program := .bare "" "" ""
def e0 : Env := launch0.env 0 0 0
theorem w_frames : about1.frames = Frame.invoking theMethod args0 :: below0 := rfl
set_option maxRecDepth 65536 in
theorem w_args : argsFit about1.vm theMethod args0 = true := by decide +kernel
set_option maxRecDepth 65536 in
theorem w_heap : heapFits about1 = true := by decide +kernel
set_option maxRecDepth 65536 in
theorem w_runnable : about1.curStatus? = some .runnable := by decide +kernel
set_option maxRecDepth 65536 in
theorem w_alone : about1.alone = true := by decide +kernel
set_option maxRecDepth 65536 in
theorem w_named : about1.methodNamed? x = some theMethod := by decide +kernel
set_option maxRecDepth 65536 in
theorem w_hears : about1.hears theMethod below0 = true := by decide +kernel
set_option maxRecDepth 65536 in
theorem w_ripe : about1.ripe theMethod args0 below0 = true := by decide +kernel
theorem w_running : about1.status = .running := rfl
set_option maxRecDepth 65536 in
theorem w_room : about1.hasRoom e0.platform room_1 = true :=
  launch0.hasRoom_least _ room_1 (by decide +kernel) (by decide +kernel) (by decide +kernel) (by decide +kernel) (by decide +kernel) (by decide +kernel)
theorem allAtoms_all (ts : List Jvm.Cond) (a : Array Jvm.Value) (st : Jvm.State) : (allAtoms ts).before a st = ts.all (fun c => c.before a st) := by
  induction ts with
  | nil => rfl
  | cons c t ih =>
    show (Jvm.Cond.and c (allAtoms t)).before a st = _
    rw [Jvm.Cond.before_and, ih, List.all_cons]
def words1 : List Jvm.Cond := Jvm.Cond.code x code maxLocals ret :: tables_1
/-- a 'code' word, met by the world's own term for the bytes: nothing is compared byte by byte -/
theorem code_word {y : MethodName} {bytes : ByteArray} {mx : Nat} {rt : Option FieldType} {a : Array Value} {s : State} {m : MethodId} {meth : Method} {c : Code} (h1 : s.methodNamed? y = some m) (h2 : s.vm.method? m = some meth) (h3 : meth.code = some c) (h4 : c.code = bytes)
    (h5 : (c.maxLocals == mx && c.exceptionTable.isEmpty && decide (c.maxStack ≤ mostOperands) && decide (meth.sig.returnType = rt) && !meth.locks && decide (parseMethodDescriptor y.desc = some meth.sig)) = true) : (Jvm.Cond.code y bytes mx rt).before a s = true := by
  simp only [Bool.and_eq_true, beq_iff_eq, Bool.not_eq_true', decide_eq_true_eq] at h5
  obtain ⟨⟨⟨⟨⟨g1, g2⟩, g3⟩, g4⟩, g5⟩, g6⟩ := h5
  simp [Cond.before, Cond.holds, Cond.value, h1, h2, h3, h4, g1, g2, g3, g4, g5, g6]
def isCode : Jvm.Cond → Bool
  | .code _ _ _ _ => true
  | _ => false
theorem all_split {L : List Jvm.Cond} {P : Jvm.Cond → Bool} (h1 : L.all (fun c => isCode c || P c) = true) (h2 : ∀ c ∈ L.filter isCode, P c = true) : L.all P = true := by
  refine List.all_eq_true.mpr fun c hc => ?_
  have h := List.all_eq_true.mp h1 c hc
  rcases Bool.eq_false_or_eq_true (isCode c) with hi | hi
  · exact h2 c (List.mem_filter.mpr ⟨hc, hi⟩)
  · simpa [hi] using h
set_option maxRecDepth 65536 in
theorem w_c0 : (Jvm.Cond.code x code maxLocals ret).before args0 about1 = true := code_word (m := ⟨1, 2⟩) (meth := k1m2) (c := k1c2) (by decide +kernel) rfl rfl rfl (by decide +kernel)
set_option maxRecDepth 65536 in
theorem w_c1 : (Jvm.Cond.code ({ cls := "com/example/concept_reasoner/conceptreasoner/engine/LongSetContainsPinLaw", name := "norm", desc := "(J)J" } : Jvm.MethodName) method_2_code (4 : Nat) (Option.some Jvm.ClassFile.FieldType.long)).before args0 about1 = true := code_word (m := ⟨1, 1⟩) (meth := k1m1) (c := k1c1) (by decide +kernel) rfl rfl rfl (by decide +kernel)
set_option maxRecDepth 65536 in
theorem w_c2 : (Jvm.Cond.code ({ cls := "com/example/concept_reasoner/conceptreasoner/engine/LongSet", name := "<init>", desc := "()V" } : Jvm.MethodName) prog_38_method_1_code (1 : Nat) (Option.none : Option Jvm.ClassFile.FieldType)).before args0 about1 = true := code_word (m := ⟨2, 0⟩) (meth := k2m0) (c := k2c0) (by decide +kernel) rfl rfl rfl (by decide +kernel)
set_option maxRecDepth 65536 in
theorem w_c3 : (Jvm.Cond.code ({ cls := "java/lang/Object", name := "<init>", desc := "()V" } : Jvm.MethodName) object_method_1_code (1 : Nat) (Option.none : Option Jvm.ClassFile.FieldType)).before args0 about1 = true := code_word (m := ⟨0, 0⟩) (meth := k0m0) (c := k0c0) (by decide +kernel) rfl rfl rfl (by decide +kernel)
set_option maxRecDepth 65536 in
theorem w_c4 : (Jvm.Cond.code ({ cls := "com/example/concept_reasoner/conceptreasoner/engine/LongSet", name := "add", desc := "(J)Z" } : Jvm.MethodName) prog_38_method_2_code (4 : Nat) (Option.some Jvm.ClassFile.FieldType.boolean)).before args0 about1 = true := code_word (m := ⟨2, 1⟩) (meth := k2m1) (c := k2c1) (by decide +kernel) rfl rfl rfl (by decide +kernel)
set_option maxRecDepth 65536 in
theorem w_c5 : (Jvm.Cond.code ({ cls := "com/example/concept_reasoner/conceptreasoner/engine/LongSet", name := "slotOf", desc := "(J)I" } : Jvm.MethodName) prog_38_method_6_code (5 : Nat) (Option.some Jvm.ClassFile.FieldType.int)).before args0 about1 = true := code_word (m := ⟨2, 3⟩) (meth := k2m3) (c := k2c3) (by decide +kernel) rfl rfl rfl (by decide +kernel)
set_option maxRecDepth 65536 in
theorem w_c6 : (Jvm.Cond.code ({ cls := "com/example/concept_reasoner/conceptreasoner/engine/LongSet", name := "contains", desc := "(J)Z" } : Jvm.MethodName) prog_38_method_3_code (3 : Nat) (Option.some Jvm.ClassFile.FieldType.boolean)).before args0 about1 = true := code_word (m := ⟨2, 2⟩) (meth := k2m2) (c := k2c2) (by decide +kernel) rfl rfl rfl (by decide +kernel)
set_option maxRecDepth 65536 in
theorem w_c7 : (Jvm.Cond.code ({ cls := "java/util/Arrays", name := "copyOf", desc := "([JI)[J" } : Jvm.MethodName) jdk_65_method_124_code (3 : Nat) (Option.some (Jvm.ClassFile.FieldType.array Jvm.ClassFile.FieldType.long))).before args0 about1 = true := code_word (m := ⟨3, 1⟩) (meth := k3m1) (c := k3c1) (by decide +kernel) rfl rfl rfl (by decide +kernel)
set_option maxRecDepth 65536 in
theorem w_c8 : (Jvm.Cond.code ({ cls := "java/lang/Math", name := "min", desc := "(II)I" } : Jvm.MethodName) jdk_29_method_69_code (2 : Nat) (Option.some Jvm.ClassFile.FieldType.int)).before args0 about1 = true := code_word (m := ⟨4, 1⟩) (meth := k4m1) (c := k4c1) (by decide +kernel) rfl rfl rfl (by decide +kernel)
set_option maxRecDepth 65536 in
theorem w_c9 : (Jvm.Cond.code ({ cls := "com/example/concept_reasoner/conceptreasoner/engine/LongSet", name := "grow", desc := "()V" } : Jvm.MethodName) prog_38_method_7_code (2 : Nat) (Option.none : Option Jvm.ClassFile.FieldType)).before args0 about1 = true := code_word (m := ⟨2, 4⟩) (meth := k2m4) (c := k2c4) (by decide +kernel) rfl rfl rfl (by decide +kernel)
def codes1 : List Jvm.Cond := [Jvm.Cond.code x code maxLocals ret, Jvm.Cond.code ({ cls := "com/example/concept_reasoner/conceptreasoner/engine/LongSetContainsPinLaw", name := "norm", desc := "(J)J" } : Jvm.MethodName) method_2_code (4 : Nat) (Option.some Jvm.ClassFile.FieldType.long), Jvm.Cond.code ({ cls := "com/example/concept_reasoner/conceptreasoner/engine/LongSet", name := "<init>", desc := "()V" } : Jvm.MethodName) prog_38_method_1_code (1 : Nat) (Option.none : Option Jvm.ClassFile.FieldType), Jvm.Cond.code ({ cls := "java/lang/Object", name := "<init>", desc := "()V" } : Jvm.MethodName) object_method_1_code (1 : Nat) (Option.none : Option Jvm.ClassFile.FieldType), Jvm.Cond.code ({ cls := "com/example/concept_reasoner/conceptreasoner/engine/LongSet", name := "add", desc := "(J)Z" } : Jvm.MethodName) prog_38_method_2_code (4 : Nat) (Option.some Jvm.ClassFile.FieldType.boolean), Jvm.Cond.code ({ cls := "com/example/concept_reasoner/conceptreasoner/engine/LongSet", name := "slotOf", desc := "(J)I" } : Jvm.MethodName) prog_38_method_6_code (5 : Nat) (Option.some Jvm.ClassFile.FieldType.int), Jvm.Cond.code ({ cls := "com/example/concept_reasoner/conceptreasoner/engine/LongSet", name := "contains", desc := "(J)Z" } : Jvm.MethodName) prog_38_method_3_code (3 : Nat) (Option.some Jvm.ClassFile.FieldType.boolean), Jvm.Cond.code ({ cls := "java/util/Arrays", name := "copyOf", desc := "([JI)[J" } : Jvm.MethodName) jdk_65_method_124_code (3 : Nat) (Option.some (Jvm.ClassFile.FieldType.array Jvm.ClassFile.FieldType.long)), Jvm.Cond.code ({ cls := "java/lang/Math", name := "min", desc := "(II)I" } : Jvm.MethodName) jdk_29_method_69_code (2 : Nat) (Option.some Jvm.ClassFile.FieldType.int), Jvm.Cond.code ({ cls := "com/example/concept_reasoner/conceptreasoner/engine/LongSet", name := "grow", desc := "()V" } : Jvm.MethodName) prog_38_method_7_code (2 : Nat) (Option.none : Option Jvm.ClassFile.FieldType)]
set_option maxRecDepth 65536 in
theorem codes_eq : words1.filter isCode = codes1 := rfl
theorem w_codes : ∀ c ∈ words1.filter isCode, c.before args0 about1 = true := by
  rw [codes_eq]
  intro c hc
  simp only [codes1, List.mem_cons, List.not_mem_nil, or_false] at hc
  rcases hc with rfl | rfl | rfl | rfl | rfl | rfl | rfl | rfl | rfl | rfl
  · exact w_c0
  · exact w_c1
  · exact w_c2
  · exact w_c3
  · exact w_c4
  · exact w_c5
  · exact w_c6
  · exact w_c7
  · exact w_c8
  · exact w_c9
set_option maxRecDepth 65536 in
theorem w_t1 : (words1.take 24).all (fun c => isCode c || c.before args0 about1) = true := by decide +kernel
set_option maxRecDepth 65536 in
theorem w_t2 : ((words1.drop 24).take 24).all (fun c => isCode c || c.before args0 about1) = true := by decide +kernel
set_option maxRecDepth 65536 in
theorem w_t3 : ((words1.drop 24).drop 24).all (fun c => isCode c || c.before args0 about1) = true := by decide +kernel
theorem w_tables : (allAtoms (Jvm.Cond.code x code maxLocals ret :: tables_1)).before args0 about1 = true := by
  rw [allAtoms_all]
  show words1.all (fun c => c.before args0 about1) = true
  refine all_split ?_ w_codes
  rw [← List.take_append_drop 24 words1, List.all_append, w_t1, ← List.take_append_drop 24 (words1.drop 24), List.all_append, w_t2, w_t3]
  rfl
set_option maxRecDepth 65536 in
theorem w_case : (Jvm.Cond.and given_1 narrow_1).before args0 about1 = true := by decide +kernel
theorem w_applies : (headSpec (Jvm.Cond.code x code maxLocals ret :: tables_1) room_1).applies x e0.platform about1 = true :=
  (Spec.applies_iff w_frames).mpr ⟨w_running, w_runnable, w_alone, w_named, w_hears, w_ripe, w_room, w_tables⟩
theorem atStart : AtStart classFile x code maxLocals ret World_1 tables_1 room_1 Calls_1 rest_1 Pre_1 launch0 p0 e0 about1 theMethod args0 below0 :=
  ⟨lists_1, trivial, launch0.admits_env _ _ _, launch0.least_env, fairChoices_fair.cas, fairChoices_fair.clock, w_frames, w_args, w_heap, w_applies, trivial, trivial, w_case⟩
end start1
theorem witness_1 : WitnessClaimed_1 := ⟨start1.p0, start1.e0, start1.about1, start1.theMethod, start1.args0, start1.below0, start1.atStart⟩
end Jvm.Pilot.@@N@@
