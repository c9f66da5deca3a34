import JvmDerived
import JvmDerived.Pilot.@@N@@Statement
import JvmDerived.Pilot.@@N@@Code
set_option linter.unusedVariables false
set_option linter.unusedSimpArgs false
namespace Jvm.Pilot.@@N@@
open Jvm Jvm.ClassFile Sem Op Lib Jvm.Free Jvm.Stand Jvm.LawKit Jvm.RoadKit Bundle Jvm.Pilot.@@N@@.Jvm.D
section OwnKit
variable {p : Program} {l : Launch} {e : Env} {R : Room} {s : State} {m : MethodId} {args : Array Value} {below : List Frame} {meth : Method} {c : Code} {T : State} {locs : List Loc} {cells slots : Nat} {Z : State} {a0 : Array Value} {h h' : Heap}
/-- the run from t comes to the method's end, where Q holds -/
def own_Go (p : Program) (e : Env) (below : List Frame) (s : State) (Q : Option Value → Heap → List Loc → Prop) (k n : Nat) (t : State) : Prop :=
  ∃ s₂ o, Steps p.tables e below t s₂ ∧ s₂.status = .running ∧ Ended s₂ below o ∧ ∃ v L, o = .returned v ∧ Q v s₂.heap L ∧ FrameEnd s o s₂ L k n
theorem own_go {Q : Option Value → Heap → List Loc → Prop} {k n : Nat} {t t' : State} (st : ∀ u, Steps p.tables e below t' u → Steps p.tables e below t u) (G : own_Go p e below s Q k n t') : own_Go p e below s Q k n t := by
  obtain ⟨s2, o, h1, r⟩ := G
  exact ⟨s2, o, st _ h1, r⟩
theorem own_ret {Q : Option Value → Heap → List Loc → Prop} {k n : Nat} (X : Stand p l e R s m args below meth c T locs cells slots) (hx : p.tables.exec = Jvm.exec) (hlk : meth.locks = false) {pc : Nat} {Ls : Array Slot} {w : Value} {t : FieldType} {i : Instr} {rest : List Value} (hret : meth.sig.returnType = some t) (hn : narrow t w = w)
    (hi : (i = .ireturn ∧ (t = .int ∨ t = .boolean ∨ t = .byte ∨ t = .char ∨ t = .short) ∧ ∃ z, w = .int z) ∨ (i = .lreturn ∧ t = .long ∧ ∃ z, w = .long z) ∨ (i = .dreturn ∧ t = .double ∧ ∃ z, w = .double z) ∨ (i = .freturn ∧ t = .float ∧ ∃ z, w = .float z) ∨ (i = .areturn ∧ t.isReference = true ∧ w.isRef = true))
    (hd : decode c.code pc = .ok (i, 1)) (hk : cells ≤ k) (hs : slots ≤ n) (hq : Q (some w) T.heap locs) : own_Go p e below s Q k n (T.setTop (mkF m pc Ls (w :: rest))) := by
  obtain ⟨fs, hr, hrun, hended, hW, hsame⟩ := X.leave (v := some w) (fun q => by rw [hret] at q; cases q) hlk
  exact ⟨_, _, retOut X hx hret hn hi hd hr, hrun, hended, _, _, rfl, hq, ⟨_, rfl⟩, hW, hsame.mono hk hs⟩
theorem own_retI {Q : Option Value → Heap → List Loc → Prop} {k n : Nat} (X : Stand p l e R s m args below meth c T locs cells slots) (hx : p.tables.exec = Jvm.exec) (hlk : meth.locks = false) {pc : Nat} {Ls : Array Slot} {z : Int32} {rest : List Value} (hret : meth.sig.returnType = some .int)
    (hd : decode c.code pc = .ok (.ireturn, 1)) (hk : cells ≤ k) (hs : slots ≤ n) (hq : Q (some (.int z)) T.heap locs) : own_Go p e below s Q k n (T.setTop (mkF m pc Ls (.int z :: rest))) :=
  own_ret X hx hlk hret rfl (Or.inl ⟨rfl, Or.inl rfl, z, rfl⟩) hd hk hs hq
theorem own_retZ {Q : Option Value → Heap → List Loc → Prop} {k n : Nat} (X : Stand p l e R s m args below meth c T locs cells slots) (hx : p.tables.exec = Jvm.exec) (hlk : meth.locks = false) {pc : Nat} {Ls : Array Slot} {z : Int32} {rest : List Value} (hret : meth.sig.returnType = some .boolean)
    (hd : decode c.code pc = .ok (.ireturn, 1)) (hz : z = 0 ∨ z = 1) (hk : cells ≤ k) (hs : slots ≤ n) (hq : Q (some (.int z)) T.heap locs) : own_Go p e below s Q k n (T.setTop (mkF m pc Ls (.int z :: rest))) :=
  own_ret X hx hlk hret (by rcases hz with rfl | rfl <;> rfl) (Or.inl ⟨rfl, Or.inr (Or.inl rfl), z, rfl⟩) hd hk hs hq
theorem own_retJ {Q : Option Value → Heap → List Loc → Prop} {k n : Nat} (X : Stand p l e R s m args below meth c T locs cells slots) (hx : p.tables.exec = Jvm.exec) (hlk : meth.locks = false) {pc : Nat} {Ls : Array Slot} {z : Int64} {rest : List Value} (hret : meth.sig.returnType = some .long)
    (hd : decode c.code pc = .ok (.lreturn, 1)) (hk : cells ≤ k) (hs : slots ≤ n) (hq : Q (some (.long z)) T.heap locs) : own_Go p e below s Q k n (T.setTop (mkF m pc Ls (.long z :: rest))) :=
  own_ret X hx hlk hret rfl (Or.inr (Or.inl ⟨rfl, rfl, z, rfl⟩)) hd hk hs hq
theorem own_retR {Q : Option Value → Heap → List Loc → Prop} {k n : Nat} (X : Stand p l e R s m args below meth c T locs cells slots) (hx : p.tables.exec = Jvm.exec) (hlk : meth.locks = false) {pc : Nat} {Ls : Array Slot} {w : Value} {t : FieldType} {rest : List Value} (hret : meth.sig.returnType = some t) (ht : t.isReference = true) (hw : w.isRef = true) (hnr : narrow t w = w)
    (hd : decode c.code pc = .ok (.areturn, 1)) (hk : cells ≤ k) (hs : slots ≤ n) (hq : Q (some w) T.heap locs) : own_Go p e below s Q k n (T.setTop (mkF m pc Ls (w :: rest))) :=
  own_ret X hx hlk hret hnr (Or.inr (Or.inr (Or.inr (Or.inr ⟨rfl, ht, hw⟩)))) hd hk hs hq
theorem own_retV {Q : Option Value → Heap → List Loc → Prop} {k n : Nat} (X : Stand p l e R s m args below meth c T locs cells slots) (hx : p.tables.exec = Jvm.exec) (hlk : meth.locks = false) {pc : Nat} {Ls : Array Slot} (hret : meth.sig.returnType = none)
    (hd : decode c.code pc = .ok (.return_, 1)) (hk : cells ≤ k) (hs : slots ≤ n) (hq : Q none T.heap locs) : own_Go p e below s Q k n (T.setTop (mkF m pc Ls [])) := by
  obtain ⟨fs, hr, hrun, hended, hW, hsame⟩ := X.leave (v := none) (fun _ => rfl) hlk
  exact ⟨_, _, X.returnOut hx hret hd hr, hrun, hended, _, _, rfl, hq, ⟨_, rfl⟩, hW, hsame.mono hk hs⟩
/-- a body's contract: handed as', at a heap h0, it ends as Q says -/
abbrev own_Met (l : Launch) (Z : State) (y : MethodName) (bytes : ByteArray) (maxL : Nat) (ret : Option FieldType) (rm : Room) (ws : List Jvm.Cond) (as' : Array Value) (h0 : Heap) (Q : Option Value → Heap → List Loc → Prop) : Prop :=
  MetFree l y (head1 (Jvm.Cond.code y bytes maxL ret :: ws) rm) (fun a U => a = as' ∧ Z.Warmed39 U.vm ∧ U.heap = h0) (fun _ _ _ _ _ => True) (fun _ U o U' => ∃ v L, o = .returned v ∧ Q v U'.heap L ∧ FrameEnd U o U' L rm.cells rm.slots)
theorem own_enter {y : MethodName} {bytes : ByteArray} {maxL : Nat} {ret : Option FieldType} {rm : Room} {ws : List Jvm.Cond} {as' : Array Value} {h0 : Heap} {Q : Option Value → Heap → List Loc → Prop} (hpl : plainFor y = true)
    (body : ∀ (p : Program) (e : Env) (s : State) (m : MethodId) (below : List Frame) (meth : Method) (c : Code) (s₁ : State), p.tables.exec = Jvm.exec → c.code = bytes → c.maxLocals = maxL → s.vm.findClass y.cls = some m.cls → meth.name = y.name → meth.locks = false → meth.sig.returnType = ret → Z.Warmed39 s.vm →
      Stand p l e rm s m as' below meth c s₁ [] 0 0 → s₁.heap = h0 → own_Go p e below s Q rm.cells rm.slots (s₁.setTop (entryFrame m as' maxL))) : own_Met l Z y bytes maxL ret rm ws as' h0 Q := by
  refine MetFree.of_bodySF hpl hisR ?_
  intro p e s m args below meth c s₁ Bd hml0 hP hK
  obtain ⟨rfl, hZ, hh⟩ := hP
  exact body p e s m below meth c s₁ Bd.exec Bd.bytes hml0 (findClass_of_methodNamed Bd.named) (name_of_methodNamed Bd.named Bd.method).1 Bd.notSynchronized Bd.returns hZ (Stand.of_body Bd) (by rw [← hh, Bd.state]; rfl)
/-- a static call by the callee's contract -/
theorem own_static {Q Q' : Option Value → Heap → List Loc → Prop} {k n : Nat} (X : Stand p l e R s m args below meth c T locs cells slots) (hx : p.tables.exec = Jvm.exec) (hZ : Z.Warmed39 s.vm) {own : String} {index : Nat} {y : MethodName} {bytes : ByteArray} {maxL : Nat} {ret : Option FieldType} {rm : Room}
    (hown : s.vm.findClass own = some m.cls) (w1 : (Cond.methodLink own index y).before a0 Z = true) (w2 : (Cond.static y).before a0 Z = true) (w3 : (Cond.initialized y.cls).before a0 Z = true) (w4 : (Cond.code y bytes maxL ret).before a0 Z = true)
    (hy : y.cls ≠ "java/lang/invoke/MethodHandle" ∧ y.cls ≠ "java/lang/invoke/VarHandle") (eT : T.heap = h) {argsL rest : List Value} (hM : own_Met l Z y bytes maxL ret rm [] argsL.toArray h Q) (W : Nat) (hf : rm.frames + 1 ≤ R.frames) (hl : W + (maxL + 11) + rm.locals ≤ R.locals) (hc : cells + rm.cells ≤ R.cells) (hsl : slots + rm.slots ≤ R.slots)
    {pc pc' : Nat} {Ls : Array Slot} {st : List Value} (hsize : Ls.size = c.maxLocals) {ps : List FieldType} {rt : Option FieldType} (hdesc : parseMethodDescriptor y.desc = some ⟨ps, rt⟩) (hlen : argsL.length = ps.length) (hst : st = argsL.reverse ++ rest) (hW : (rest.map fun v => v.category).sum ≤ W) (hd : decode c.code pc = .ok (.invokestatic index, 3)) (hpc : pc + 3 = pc')
    (go : ∀ (v : Option Value) (T' : State) (L : List Loc), Stand p l e R s m args below meth c T' (locs ++ L) (cells + rm.cells) (slots + rm.slots) → Q v T'.heap L → own_Go p e below s Q' k n (T'.setTop (mkF m pc' Ls (v.toList ++ rest)))) : own_Go p e below s Q' k n (T.setTop (mkF m pc Ls st)) := by
  subst hpc
  obtain ⟨v, _, ⟨T', L', k', n'⟩, -, X', ⟨L, hQ, hl', hk', hn'⟩, stp⟩ := Jvm.LawKit.callS X hx hown (mvT hZ w1) (mvT hZ w2) (mvT hZ w3) (mvT hZ w4) hy (backOf (W := W) hM hZ w4 w3 hf hl) (g := mkF m pc Ls st) rfl hsize (argsL := argsL) (rest := rest) (lenOf hdesc hlen) hst (by show 2 * 0 + _ ≤ _; omega) hd (fun _ _ => ⟨rfl, eT, hc, hsl⟩)
  dsimp only [Pt.U, Pt.locs, Pt.cells, Pt.slots] at X' hl' hk' hn' stp hQ
  subst hl' hk' hn'
  exact own_go stp (go v T' L X' hQ)
/-- a constructor by its contract -/
theorem own_init {Q Q' : Option Value → Heap → List Loc → Prop} {k n : Nat} (X : Stand p l e R s m args below meth c T locs cells slots) (hx : p.tables.exec = Jvm.exec) (hZ : Z.Warmed39 s.vm) {own : String} {index : Nat} {y : MethodName} {bytes : ByteArray} {maxL : Nat} {rm : Room} (hyi : y.name = "<init>")
    (hown : s.vm.findClass own = some m.cls) (w1 : (Cond.methodLink own index y).before a0 Z = true) (w2 : (Cond.instanceMethod y).before a0 Z = true) (w3 : (Cond.initialized y.cls).before a0 Z = true) (w4 : (Cond.code y bytes maxL none).before a0 Z = true)
    (hy : y.cls ≠ "java/lang/invoke/MethodHandle" ∧ y.cls ≠ "java/lang/invoke/VarHandle") (eT : T.heap = h) {a : Addr} {argsL rest : List Value} (hM : own_Met l Z y bytes maxL none rm [] (.ref a :: argsL).toArray h Q) (W : Nat) (hf : rm.frames + 1 ≤ R.frames) (hl : W + (maxL + 11) + rm.locals ≤ R.locals) (hc : cells + rm.cells ≤ R.cells) (hsl : slots + rm.slots ≤ R.slots)
    {pc pc' : Nat} {Ls : Array Slot} {st : List Value} (hsize : Ls.size = c.maxLocals) {ps : List FieldType} {rt : Option FieldType} (hdesc : parseMethodDescriptor y.desc = some ⟨ps, rt⟩) (hlen : argsL.length = ps.length) (hst : st = argsL.reverse ++ .ref a :: rest) (hW : (rest.map fun v => v.category).sum ≤ W) (hd : decode c.code pc = .ok (.invokespecial index, 3)) (hpc : pc + 3 = pc')
    (go : ∀ (v : Option Value) (T' : State) (L : List Loc), Stand p l e R s m args below meth c T' (locs ++ L) (cells + rm.cells) (slots + rm.slots) → Q v T'.heap L → own_Go p e below s Q' k n (T'.setTop (mkF m pc' Ls (v.toList ++ rest)))) : own_Go p e below s Q' k n (T.setTop (mkF m pc Ls st)) := by
  subst hpc
  obtain ⟨v, _, ⟨T', L', k', n'⟩, -, X', ⟨L, hQ, hl', hk', hn'⟩, stp⟩ := X.specialBack hx hyi hown (mvT hZ w1) (mvT hZ w2) (mvT hZ w4) hy (backOf (W := W) hM hZ w4 w3 hf hl) (g := mkF m pc Ls st) rfl hsize (Steps.refl _) (a := a) (argsL := argsL) (rest := rest) (lenOf hdesc hlen) hst (by show 2 * 0 + _ ≤ _; omega) hd (fun _ _ => ⟨rfl, eT, hc, hsl⟩)
  dsimp only [Pt.U, Pt.locs, Pt.cells, Pt.slots] at X' hl' hk' hn' stp hQ
  subst hl' hk' hn'
  exact own_go (fun _ q => stp.trans q) (go v T' L X' hQ)
/-- an instance method by its contract: the receiver is exactly of the class C, which selects z -/
theorem own_virtual {Q Q' : Option Value → Heap → List Loc → Prop} {k n : Nat} (X : Stand p l e R s m args below meth c T locs cells slots) (hx : p.tables.exec = Jvm.exec) (hZ : Z.Warmed39 s.vm) {own C : String} {index : Nat} {y : MethodName} {bytes : ByteArray} {maxL : Nat} {ret : Option FieldType} {rm : Room}
    (hown : s.vm.findClass own = some m.cls) (w1 : (Cond.methodLink own index y).before a0 Z = true) (w2 : (Cond.declares y).before a0 Z = true) (w3 : (Cond.selects C y y).before a0 Z = true) (w5 : (Cond.instanceMethod y).before a0 Z = true) (w6 : (Cond.initialized y.cls).before a0 Z = true) (w4 : (Cond.code y bytes maxL ret).before a0 Z = true)
    (hy : y.cls ≠ "java/lang/invoke/MethodHandle" ∧ y.cls ≠ "java/lang/invoke/VarHandle") (eT : T.heap = h) {a : Addr} (E : Exa Z h a C) {argsL rest : List Value} (hM : own_Met l Z y bytes maxL ret rm [] (.ref a :: argsL).toArray h Q) (W : Nat) (hf : rm.frames + 1 ≤ R.frames) (hl : W + (maxL + 11) + rm.locals ≤ R.locals) (hc : cells + rm.cells ≤ R.cells) (hsl : slots + rm.slots ≤ R.slots)
    {pc pc' : Nat} {Ls : Array Slot} {st : List Value} (hsize : Ls.size = c.maxLocals) {ps : List FieldType} {rt : Option FieldType} (hdesc : parseMethodDescriptor y.desc = some ⟨ps, rt⟩) (hlen : argsL.length = ps.length) (hst : st = argsL.reverse ++ .ref a :: rest) (hW : (rest.map fun v => v.category).sum ≤ W) (hd : decode c.code pc = .ok (.invokevirtual index, 3)) (hpc : pc + 3 = pc')
    (go : ∀ (v : Option Value) (T' : State) (L : List Loc), Stand p l e R s m args below meth c T' (locs ++ L) (cells + rm.cells) (slots + rm.slots) → Q v T'.heap L → own_Go p e below s Q' k n (T'.setTop (mkF m pc' Ls (v.toList ++ rest)))) : own_Go p e below s Q' k n (T.setTop (mkF m pc Ls st)) := by
  subst hpc
  obtain ⟨cq, kq, qa, qb, qc⟩ := isOf hZ eT E
  obtain ⟨v, _, ⟨T', L', k', n'⟩, -, X', ⟨L, hQ, hl', hk', hn'⟩, stp⟩ := X.virtualBack hx (z := y) hown (mvT hZ w1) (mvT hZ w2) (notFace_of_selects (args := #[]) (mvT hZ w3)) (mvT hZ w3) (mvT hZ w5) hy (backOf (W := W) hM hZ w4 w6 hf hl) qa qc (g := mkF m pc Ls st) rfl hsize (Steps.refl _) (argsL := argsL) (rest := rest) (lenOf hdesc hlen) hst (by show 2 * 0 + _ ≤ _; omega) hd (fun _ _ => ⟨rfl, eT, hc, hsl⟩)
  dsimp only [Pt.U, Pt.locs, Pt.cells, Pt.slots] at X' hl' hk' hn' stp hQ
  subst hl' hk' hn'
  exact own_go (fun _ q => stp.trans q) (go v T' L X' hQ)
/-- an array of n places that hold F 0, F 1 .. -/
def own_Ar (Z : State) (h : Heap) (a : Addr) (ty : FieldType) (n : Nat) (F : Nat → Value) : Prop := n < 2 ^ 31 ∧ ∃ c : Cell, Arr Z h a c ty ∧ c.slots.size = n ∧ ∀ j, j < n → c.slots[j]? = some (F j)
section ArFacts
variable {a b : Addr} {ty : FieldType} {F G : Nat → Value} {nn : Nat} {sl : Nat} {v : Value} {ws : List Addr}
theorem own_Ar.lt (A : own_Ar Z h a ty nn F) : a < h.size := by obtain ⟨-, c, A, -⟩ := A; exact A.lt
theorem own_Ar.ext (A : own_Ar Z h a ty nn F) (E : Ext h h') : own_Ar Z h' a ty nn F := by obtain ⟨q, c, A, r⟩ := A; exact ⟨q, c, A.ext E, r⟩
theorem own_Ar.other (A : own_Ar Z h a ty nn F) (W : Wr h h' b sl v) (q : a ≠ b) : own_Ar Z h' a ty nn F := by obtain ⟨q0, c, A, r⟩ := A; exact ⟨q0, c, A.other W q, r⟩
theorem own_Ar.keep (A : own_Ar Z h a ty nn F) (K : Keep h h' ws) (q : a ∉ ws) : own_Ar Z h' a ty nn F := by obtain ⟨q0, c, A, r⟩ := A; exact ⟨q0, c, ⟨K.2.1 a c A.1 q, A.2⟩, r⟩
theorem own_Ar.eqv (A : own_Ar Z h a ty nn F) (q : ∀ j, j < nn → F j = G j) : own_Ar Z h a ty nn G := by obtain ⟨q0, c, A, r, r2⟩ := A; exact ⟨q0, c, A, r, fun j hj => by rw [r2 j hj, q j hj]⟩
theorem own_Ar.set (A : own_Ar Z h a ty nn F) (W : Wr h h' a sl v) : own_Ar Z h' a ty nn (fun j => if j = sl then v else F j) := by
  obtain ⟨q0, c, A, r, r2⟩ := A
  refine ⟨q0, _, A.same W, by rw [sz_set]; exact r, fun j hj => ?_⟩
  by_cases q : j = sl
  · subst q
    simp [Cell.setSlot, r, hj]
  · have q' : sl ≠ j := fun x => q x.symm
    simp only [if_neg q]
    rw [← r2 j hj]
    simp [Cell.setSlot, Array.getElem?_setIfInBounds, q']
theorem own_Ar.new {k : ClassId} {z : Int32} (A : Arr Z h a (newA k ty z) ty) (q : ¬ z < 0) (hz : z.toNatClampNeg = nn) : own_Ar Z h a ty nn (fun _ => defaultValue ty) := by
  subst hz
  refine ⟨(back32 q).2, _, A, sz_new _ _ _, fun j hj => ?_⟩
  simp [newA, hj]
end ArFacts
theorem own_inb {c : Cell} {n i : Nat} {z : Int32} (hs : c.slots.size = n) (hz : z.toInt = (i : Int)) (hi : i < n) : ¬ (z < 0 ∨ c.slots.size ≤ z.toNatClampNeg) ∧ z.toNatClampNeg = i := by
  have h1 : z.toNatClampNeg = i := by rw [Int32.toNatClampNeg, hz]; rfl
  refine ⟨?_, h1⟩
  rintro (q | q)
  · rw [Int32.lt_iff_toInt_lt, hz] at q
    have : (0 : Int32).toInt = 0 := rfl
    omega
  · rw [h1, hs] at q
    omega
theorem own_lt {x y : Int32} (q : x.toInt < y.toInt) : x < y := Int32.lt_iff_toInt_lt.mpr q
theorem own_nlt {x y : Int32} (q : y.toInt ≤ x.toInt) : ¬ x < y := fun r => by rw [Int32.lt_iff_toInt_lt] at r; omega
theorem own_ltI {x y : Int32} (q : x < y) : x.toInt < y.toInt := Int32.lt_iff_toInt_lt.mp q
theorem own_nltI {x y : Int32} (q : ¬ x < y) : y.toInt ≤ x.toInt := by rw [Int32.lt_iff_toInt_lt] at q; omega
theorem own_eq {x y : Int32} (q : x.toInt = y.toInt) : x = y := Int32.toInt_inj.mp q
theorem own_ne {x y : Int32} (q : x.toInt ≠ y.toInt) : ¬ x = y := fun r => q (by rw [r])
theorem own_neI {x y : Int32} (q : ¬ x = y) : x.toInt ≠ y.toInt := fun r => q (own_eq r)
/-- the read of an int out of an array -/
theorem own_iaload {Q : Option Value → Heap → List Loc → Prop} {k n : Nat} (X : Stand p l e R s m args below meth c T locs cells slots) (hx : p.tables.exec = Jvm.exec) (hZ : Z.Warmed39 s.vm) (eT : T.heap = h) {a : Addr} {nn i : Nat} {F : Nat → Value} {x z : Int32} (A : own_Ar Z h a .int nn F) (hz : z.toInt = (i : Int)) (hi : i < nn) (hF : F i = .int x)
    {pc pc' : Nat} {Ls : Array Slot} {rest : List Value} (hd : decode c.code pc = .ok (.iaload, 1)) (hpc : pc + 1 = pc') (go : own_Go p e below s Q k n (T.setTop (mkF m pc' Ls (.int x :: rest)))) : own_Go p e below s Q k n (T.setTop (mkF m pc Ls (.int z :: .ref a :: rest))) := by
  subst hpc
  obtain ⟨-, c, A, r, r2⟩ := A
  obtain ⟨q1, q2⟩ := own_inb r hz hi
  exact own_go (X.iaload hx (j := z) (v := .int x) (by rw [eT]; exact A.1) (State.isArrayOf_alike hZ.alike A.2.1) A.2.2 q1 (by rw [q2, r2 i hi, hF]) (g := mkF m pc Ls (.int z :: .ref a :: rest)) rfl rfl hd) go
theorem own_laload {Q : Option Value → Heap → List Loc → Prop} {k n : Nat} (X : Stand p l e R s m args below meth c T locs cells slots) (hx : p.tables.exec = Jvm.exec) (hZ : Z.Warmed39 s.vm) (eT : T.heap = h) {a : Addr} {nn i : Nat} {F : Nat → Value} {x : Int64} {z : Int32} (A : own_Ar Z h a .long nn F) (hz : z.toInt = (i : Int)) (hi : i < nn) (hF : F i = .long x)
    {pc pc' : Nat} {Ls : Array Slot} {rest : List Value} (hd : decode c.code pc = .ok (.laload, 1)) (hpc : pc + 1 = pc') (go : own_Go p e below s Q k n (T.setTop (mkF m pc' Ls (.long x :: rest)))) : own_Go p e below s Q k n (T.setTop (mkF m pc Ls (.int z :: .ref a :: rest))) := by
  subst hpc
  obtain ⟨-, c, A, r, r2⟩ := A
  obtain ⟨q1, q2⟩ := own_inb r hz hi
  exact own_go (X.laload hx (j := z) (v := .long x) (by rw [eT]; exact A.1) (State.isArrayOf_alike hZ.alike A.2.1) A.2.2 q1 (by rw [q2, r2 i hi, hF]) (g := mkF m pc Ls (.int z :: .ref a :: rest)) rfl rfl hd) go
theorem own_iastore {Q : Option Value → Heap → List Loc → Prop} {k n : Nat} (X : Stand p l e R s m args below meth c T locs cells slots) (hx : p.tables.exec = Jvm.exec) (hZ : Z.Warmed39 s.vm) (eT : T.heap = h) {a : Addr} {nn i : Nat} {F : Nat → Value} {x z : Int32} (A : own_Ar Z h a .int nn F) (hz : z.toInt = (i : Int)) (hi : i < nn)
    {pc pc' : Nat} {Ls : Array Slot} {rest : List Value} (hd : decode c.code pc = .ok (.iastore, 1)) (hpc : pc + 1 = pc') (go : ∀ T' h', Stand p l e R s m args below meth c T' (locs ++ [⟨a, i⟩]) cells slots → T'.heap = h' → Wr h h' a i (.int x) → own_Ar Z h' a .int nn (fun j => if j = i then .int x else F j) → own_Go p e below s Q k n (T'.setTop (mkF m pc' Ls rest))) : own_Go p e below s Q k n (T.setTop (mkF m pc Ls (.int x :: .int z :: .ref a :: rest))) := by
  subst hpc
  have A' := A
  obtain ⟨-, c, A, r, r2⟩ := A
  obtain ⟨q1, q2⟩ := own_inb r hz hi
  obtain ⟨T', h', X', e', W', st⟩ := stI X hx hZ eT A (j := z) (x := x) q1 (g := mkF m pc Ls (.int x :: .int z :: .ref a :: rest)) rfl rfl hd
  rw [q2] at X' W'
  exact own_go st (go T' h' X' e' W' (A'.set W'))
theorem own_lastore {Q : Option Value → Heap → List Loc → Prop} {k n : Nat} (X : Stand p l e R s m args below meth c T locs cells slots) (hx : p.tables.exec = Jvm.exec) (hZ : Z.Warmed39 s.vm) (eT : T.heap = h) {a : Addr} {nn i : Nat} {F : Nat → Value} {x : Int64} {z : Int32} (A : own_Ar Z h a .long nn F) (hz : z.toInt = (i : Int)) (hi : i < nn)
    {pc pc' : Nat} {Ls : Array Slot} {rest : List Value} (hd : decode c.code pc = .ok (.lastore, 1)) (hpc : pc + 1 = pc') (go : ∀ T' h', Stand p l e R s m args below meth c T' (locs ++ [⟨a, i⟩]) cells slots → T'.heap = h' → Wr h h' a i (.long x) → own_Ar Z h' a .long nn (fun j => if j = i then .long x else F j) → own_Go p e below s Q k n (T'.setTop (mkF m pc' Ls rest))) : own_Go p e below s Q k n (T.setTop (mkF m pc Ls (.long x :: .int z :: .ref a :: rest))) := by
  subst hpc
  have A' := A
  obtain ⟨-, c, A, r, r2⟩ := A
  obtain ⟨q1, q2⟩ := own_inb r hz hi
  obtain ⟨T', h', X', e', W', st⟩ := stJ X hx hZ eT A (j := z) (x := x) q1 (g := mkF m pc Ls (.long x :: .int z :: .ref a :: rest)) rfl rfl hd
  rw [q2] at X' W'
  exact own_go st (go T' h' X' e' W' (A'.set W'))
theorem own_length {Q : Option Value → Heap → List Loc → Prop} {k n : Nat} (X : Stand p l e R s m args below meth c T locs cells slots) (hx : p.tables.exec = Jvm.exec) (hZ : Z.Warmed39 s.vm) (eT : T.heap = h) {a : Addr} {nn : Nat} {ty : FieldType} {F : Nat → Value} {z : Int32} (A : own_Ar Z h a ty nn F) (hz : z.toInt = (nn : Int))
    {pc pc' : Nat} {Ls : Array Slot} {rest : List Value} (hd : decode c.code pc = .ok (.arraylength, 1)) (hpc : pc + 1 = pc') (go : own_Go p e below s Q k n (T.setTop (mkF m pc' Ls (.int z :: rest)))) : own_Go p e below s Q k n (T.setTop (mkF m pc Ls (.ref a :: rest))) := by
  subst hpc
  obtain ⟨q, c, A, r, r2⟩ := A
  have hz' : c.slots.size.toInt32 = z := own_eq (by rw [r, hz]; exact len_toInt q)
  subst hz'
  exact own_go (X.arraylength hx (by rw [eT]; exact A.1) (State.isArrayOf_alike hZ.alike A.2.1) (g := mkF m pc Ls (.ref a :: rest)) rfl rfl hd) go
end OwnKit
theorem pd_0 : parseMethodDescriptor "([I)V" = some ⟨[(.array .int)], none⟩ := by decide +kernel

theorem own_inc {z : Int32} {i : Nat} (h : z.toInt = (i : Int)) (hi : i < 1000000) : (z + (1 : Int32)).toInt = ((i + 1 : Nat) : Int) := by
  have h1 := c_iadd z 1
  have h2 := rng32 (z + 1)
  have e1 : (1 : Int32).toInt = 1 := rfl
  rw [h, e1] at h1
  omega
theorem own_dec {z : Int32} {i : Nat} (h : z.toInt = (i : Int)) (hi : 1 ≤ i) : (z - (1 : Int32)).toInt = ((i - 1 : Nat) : Int) := by
  have h1 := c_isub z 1
  have h2 := rng32 (z - 1)
  have h3 := rng32 z
  have e1 : (1 : Int32).toInt = 1 := rfl
  rw [h, e1] at h1
  omega
def own_pre (f : Nat → Int32) : Nat → Int32
  | 0 => f 0
  | j + 1 => own_pre f j + f (j + 1)
theorem own_acc (f : Nat → Int32) {i n : Nat} (h1 : 1 ≤ i) : ∀ j, j < n → (fun j => if j = i then Value.int (f i + own_pre f (i - 1)) else Value.int (if j < i then own_pre f j else f j)) j = (fun j => Value.int (if j < i + 1 then own_pre f j else f j)) j := fun j hj => by
  show (if j = i then Value.int (f i + own_pre f (i - 1)) else Value.int (if j < i then own_pre f j else f j)) = Value.int (if j < i + 1 then own_pre f j else f j)
  by_cases q : j = i
  · subst q
    rw [if_pos rfl, if_pos (Nat.lt_succ_self j)]
    obtain ⟨k, rfl⟩ : ∃ k, j = k + 1 := ⟨j - 1, by omega⟩
    show Value.int (f (k + 1) + own_pre f k) = Value.int (own_pre f k + f (k + 1))
    rw [Int32.add_comm]
  · rw [if_neg q]
    by_cases r : j < i
    · rw [if_pos r, if_pos (by omega)]
    · rw [if_neg r, if_neg (by omega)]
def own_f (a b c d e : Int32) (j : Nat) : Int32 := if j = 0 then a else if j = 1 then b else if j = 2 then c else if j = 3 then d else e
theorem own_six (x : Int32) : ((x &&& (2147483647 : Int32)) % (6 : Int32)) = 0 ∨ ((x &&& (2147483647 : Int32)) % (6 : Int32)) = 1 ∨ ((x &&& (2147483647 : Int32)) % (6 : Int32)) = 2 ∨ ((x &&& (2147483647 : Int32)) % (6 : Int32)) = 3 ∨ ((x &&& (2147483647 : Int32)) % (6 : Int32)) = 4 ∨ ((x &&& (2147483647 : Int32)) % (6 : Int32)) = 5 := by
  have h := c_and x 2147483647 (by decide)
  have r := (c_iremV (x &&& 2147483647) 6).1 h.1 (by decide)
  have e6 : (6 : Int32).toInt = 6 := rfl
  generalize ((x &&& (2147483647 : Int32)) % (6 : Int32)) = y at *
  have : y.toInt = 0 ∨ y.toInt = 1 ∨ y.toInt = 2 ∨ y.toInt = 3 ∨ y.toInt = 4 ∨ y.toInt = 5 := by omega
  rcases this with q | q | q | q | q | q
  · exact Or.inl (own_eq q)
  · exact Or.inr (Or.inl (own_eq q))
  · exact Or.inr (Or.inr (Or.inl (own_eq q)))
  · exact Or.inr (Or.inr (Or.inr (Or.inl (own_eq q))))
  · exact Or.inr (Or.inr (Or.inr (Or.inr (Or.inl (own_eq q)))))
  · exact Or.inr (Or.inr (Or.inr (Or.inr (Or.inr (own_eq q)))))
theorem d1_0 : decode prog_6_method_6_code 0 = .ok (.iconst 1, 1) := by decide +kernel
theorem d1_1 : decode prog_6_method_6_code 1 = .ok (.istore_n 1, 1) := by decide +kernel
theorem d1_2 : decode prog_6_method_6_code 2 = .ok (.iload_n 1, 1) := by decide +kernel
theorem d1_3 : decode prog_6_method_6_code 3 = .ok (.aload_n 0, 1) := by decide +kernel
theorem d1_4 : decode prog_6_method_6_code 4 = .ok (.arraylength, 1) := by decide +kernel
theorem d1_5 : decode prog_6_method_6_code 5 = .ok (.if_icmp .ge 20, 3) := by decide +kernel
theorem d1_8 : decode prog_6_method_6_code 8 = .ok (.aload_n 0, 1) := by decide +kernel
theorem d1_9 : decode prog_6_method_6_code 9 = .ok (.iload_n 1, 1) := by decide +kernel
theorem d1_10 : decode prog_6_method_6_code 10 = .ok (.dup2, 1) := by decide +kernel
theorem d1_11 : decode prog_6_method_6_code 11 = .ok (.iaload, 1) := by decide +kernel
theorem d1_12 : decode prog_6_method_6_code 12 = .ok (.aload_n 0, 1) := by decide +kernel
theorem d1_13 : decode prog_6_method_6_code 13 = .ok (.iload_n 1, 1) := by decide +kernel
theorem d1_14 : decode prog_6_method_6_code 14 = .ok (.iconst 1, 1) := by decide +kernel
theorem d1_15 : decode prog_6_method_6_code 15 = .ok (.isub, 1) := by decide +kernel
theorem d1_16 : decode prog_6_method_6_code 16 = .ok (.iaload, 1) := by decide +kernel
theorem d1_17 : decode prog_6_method_6_code 17 = .ok (.iadd, 1) := by decide +kernel
theorem d1_18 : decode prog_6_method_6_code 18 = .ok (.iastore, 1) := by decide +kernel
theorem d1_19 : decode prog_6_method_6_code 19 = .ok (.iinc 1 1, 3) := by decide +kernel
theorem d1_22 : decode prog_6_method_6_code 22 = .ok (.goto (-20), 3) := by decide +kernel
theorem d1_25 : decode prog_6_method_6_code 25 = .ok (.return_, 1) := by decide +kernel
def Q1 (Z : State) (a : Addr) (f : Nat → Int32) (n : Nat) (h0 : Heap) (n0 : Nat) (v : Option Value) (h : Heap) (L : List Loc) : Prop := v = none ∧ Fr n0 L ∧ own_Ar Z h a .int n (fun j => .int (own_pre f j))
theorem ef_1 (m : MethodId) (x0 : Addr) : entryFrame m #[(.ref x0)] 2 = mkF m 0 #[.val (.ref x0), .unset] [] := by first | (simp [entryFrame, mkF, argsToLocals, Value.category]; done) | rfl
set_option maxRecDepth 65536 in
set_option maxHeartbeats 40000000 in
theorem rm1 (l : Launch) (Z : State) (a0 : Array Value) (hw : ∀ d ∈ tables_1, d.before a0 Z = true) (ws : List Jvm.Cond) (a : Addr) (f : Nat → Int32) (n : Nat) (h0 : Heap) (n0 : Nat) (Z0 : n0 ≤ h0.size) (A : own_Ar Z h0 a .int n (fun j => .int (f j))) (Ga : n0 ≤ a) (hn5 : n ≤ 5) (zn : Int32) (hzn : zn.toInt = (n : Int)) :
    own_Met l Z (⟨"com/example/interleave/interleave/core/Adjacency", "accumulate", "([I)V"⟩ : MethodName) prog_6_method_6_code 2 none ({ frames := 0, cells := 0, slots := 0, locals := 0 } : Room) ws #[(.ref a)] h0 (Q1 Z a f n h0 n0) := by
  refine own_enter (plainFor_of_name (by first | (simp [plainName, overriddenIn]; done) | decide +kernel)) ?_
  intro p e s m below meth c s₁ hx hby hml hown hnm hlk hret hZ X0 e0
  have N0 := Fr.nil n0
  refine own_go (fun _ q => castTop (ef_1 m a) q) ?_
  show own_Go _ _ _ _ _ _ _ (s₁.setTop (mkF m 0 #[.val (.ref a), .unset] []))
  refine own_go (fun _ q => XS.iconst X0.here hx rfl (hb hby d1_0) q) ?_
  show own_Go _ _ _ _ _ _ _ (s₁.setTop (mkF m 1 #[.val (.ref a), .unset] [(.int (1 : Int32))]))
  refine own_go (fun _ q => XS.istoreN X0.here hx rfl (hb hby d1_1) rfl (l' := #[.val (.ref a), .val (.int (1 : Int32))]) rfl q) ?_
  show own_Go _ _ _ _ _ _ _ (s₁.setTop (mkF m 2 #[.val (.ref a), .val (.int (1 : Int32))] []))
  have loop : ∀ (k i : Nat) (zi : Int32) (T : State) (h : Heap) (locs : List Loc), n - i = k → 1 ≤ i → i ≤ n + 1 → zi.toInt = (i : Int) → Stand p l e ({ frames := 0, cells := 0, slots := 0, locals := 0 } : Room) s m #[(.ref a)] below meth c T locs 0 0 → T.heap = h → Fr n0 locs → n0 ≤ h.size → own_Ar Z h a .int n (fun j => .int (if j < i then own_pre f j else f j)) → own_Go p e below s (Q1 Z a f n h0 n0) 0 0 (T.setTop (mkF m 2 #[.val (.ref a), .val (.int zi)] [])) := by
    intro k
    induction k with
    | zero =>
      intro i zi T h locs hk hi1 hi2 hz X eT N Zh A
      refine own_go (fun _ q => XS.iloadN X.here hx rfl (hb hby d1_2) rfl q) ?_
      show own_Go _ _ _ _ _ _ _ (T.setTop (mkF m 3 #[.val (.ref a), .val (.int zi)] [(.int zi)]))
      refine own_go (fun _ q => XS.aloadN X.here hx rfl (hb hby d1_3) rfl rfl q) ?_
      show own_Go _ _ _ _ _ _ _ (T.setTop (mkF m 4 #[.val (.ref a), .val (.int zi)] [(.ref a), (.int zi)]))
      refine own_length (z := zn) X hx hZ eT A hzn (hb hby d1_4) rfl ?_
      show own_Go _ _ _ _ _ _ _ (T.setTop (mkF m 5 #[.val (.ref a), .val (.int zi)] [(.int zn), (.int zi)]))
      refine own_go (fun _ q => XS.icmpYes X.here hx rfl (pc0 := 5) (pc' := 25) rfl (hb hby d1_5) rfl (flt (own_nlt (x := zi) (y := zn) (by omega))).2.1 (by decide) (by decide) q) ?_
      show own_Go _ _ _ _ _ _ _ (T.setTop (mkF m 25 #[.val (.ref a), .val (.int zi)] []))
      subst eT
      exact own_retV X hx hlk hret (hb hby d1_25) (by decide) (by decide) ⟨rfl, N, A.eqv fun j hj => by rw [if_pos (by omega)]⟩
    | succ k ih =>
      intro i zi T h locs hk hi1 hi2 hz X eT N Zh A
      refine own_go (fun _ q => XS.iloadN X.here hx rfl (hb hby d1_2) rfl q) ?_
      show own_Go _ _ _ _ _ _ _ (T.setTop (mkF m 3 #[.val (.ref a), .val (.int zi)] [(.int zi)]))
      refine own_go (fun _ q => XS.aloadN X.here hx rfl (hb hby d1_3) rfl rfl q) ?_
      show own_Go _ _ _ _ _ _ _ (T.setTop (mkF m 4 #[.val (.ref a), .val (.int zi)] [(.ref a), (.int zi)]))
      refine own_length (z := zn) X hx hZ eT A hzn (hb hby d1_4) rfl ?_
      show own_Go _ _ _ _ _ _ _ (T.setTop (mkF m 5 #[.val (.ref a), .val (.int zi)] [(.int zn), (.int zi)]))
      refine own_go (fun _ q => XS.icmpNo X.here hx rfl (hb hby d1_5) rfl (tlt (own_lt (x := zi) (y := zn) (by omega))).2.1 q) ?_
      show own_Go _ _ _ _ _ _ _ (T.setTop (mkF m 8 #[.val (.ref a), .val (.int zi)] []))
      refine own_go (fun _ q => XS.aloadN X.here hx rfl (hb hby d1_8) rfl rfl q) ?_
      show own_Go _ _ _ _ _ _ _ (T.setTop (mkF m 9 #[.val (.ref a), .val (.int zi)] [(.ref a)]))
      refine own_go (fun _ q => XS.iloadN X.here hx rfl (hb hby d1_9) rfl q) ?_
      show own_Go _ _ _ _ _ _ _ (T.setTop (mkF m 10 #[.val (.ref a), .val (.int zi)] [(.int zi), (.ref a)]))
      refine own_go (fun _ q => XT.dup2 X.here hx rfl (hb hby d1_10) rfl rfl rfl q) ?_
      show own_Go _ _ _ _ _ _ _ (T.setTop (mkF m 11 #[.val (.ref a), .val (.int zi)] [(.int zi), (.ref a), (.int zi), (.ref a)]))
      refine own_iaload X hx hZ eT A hz (by omega) (by show Value.int (if i < i then _ else _) = _; rw [if_neg (Nat.lt_irrefl i)]) (hb hby d1_11) rfl ?_
      show own_Go _ _ _ _ _ _ _ (T.setTop (mkF m 12 #[.val (.ref a), .val (.int zi)] [(.int (f i)), (.int zi), (.ref a)]))
      refine own_go (fun _ q => XS.aloadN X.here hx rfl (hb hby d1_12) rfl rfl q) ?_
      show own_Go _ _ _ _ _ _ _ (T.setTop (mkF m 13 #[.val (.ref a), .val (.int zi)] [(.ref a), (.int (f i)), (.int zi), (.ref a)]))
      refine own_go (fun _ q => XS.iloadN X.here hx rfl (hb hby d1_13) rfl q) ?_
      show own_Go _ _ _ _ _ _ _ (T.setTop (mkF m 14 #[.val (.ref a), .val (.int zi)] [(.int zi), (.ref a), (.int (f i)), (.int zi), (.ref a)]))
      refine own_go (fun _ q => XS.iconst X.here hx rfl (hb hby d1_14) q) ?_
      show own_Go _ _ _ _ _ _ _ (T.setTop (mkF m 15 #[.val (.ref a), .val (.int zi)] [(.int (1 : Int32)), (.int zi), (.ref a), (.int (f i)), (.int zi), (.ref a)]))
      refine own_go (fun _ q => XS.isub X.here hx rfl (hb hby d1_15) rfl q) ?_
      show own_Go _ _ _ _ _ _ _ (T.setTop (mkF m 16 #[.val (.ref a), .val (.int zi)] [(.int (zi - (1 : Int32))), (.ref a), (.int (f i)), (.int zi), (.ref a)]))
      refine own_iaload X hx hZ eT (i := i - 1) A (own_dec hz hi1) (by omega) (by show Value.int (if i - 1 < i then _ else _) = _; rw [if_pos (by omega)]) (hb hby d1_16) rfl ?_
      show own_Go _ _ _ _ _ _ _ (T.setTop (mkF m 17 #[.val (.ref a), .val (.int zi)] [(.int (own_pre f (i - 1))), (.int (f i)), (.int zi), (.ref a)]))
      refine own_go (fun _ q => XS.iadd X.here hx rfl (hb hby d1_17) rfl q) ?_
      show own_Go _ _ _ _ _ _ _ (T.setTop (mkF m 18 #[.val (.ref a), .val (.int zi)] [(.int ((f i) + (own_pre f (i - 1)))), (.int zi), (.ref a)]))
      refine own_iastore X hx hZ eT (i := i) A hz (by omega) (hb hby d1_18) rfl ?_
      intro T1 h1 X1 e1 W1 A1
      have N1 := Fr.snoc X1 N Ga
      have Z1 : n0 ≤ h1.size := by rw [W1.size]; exact Zh
      show own_Go _ _ _ _ _ _ _ (T1.setTop (mkF m 19 #[.val (.ref a), .val (.int zi)] []))
      refine own_go (fun _ q => XS.iinc X1.here hx rfl (hb hby d1_19) rfl (l' := #[.val (.ref a), .val (.int (zi + (1 : Int32)))]) rfl q) ?_
      show own_Go _ _ _ _ _ _ _ (T1.setTop (mkF m 22 #[.val (.ref a), .val (.int (zi + (1 : Int32)))] []))
      refine own_go (fun _ q => XS.goto X1.here hx rfl (pc0 := 22) (pc' := 2) rfl (hb hby d1_22) (by decide) (by decide) q) ?_
      show own_Go _ _ _ _ _ _ _ (T1.setTop (mkF m 2 #[.val (.ref a), .val (.int (zi + (1 : Int32)))] []))
      exact ih (i + 1) _ _ _ _ (by omega) (by omega) (by omega) (own_inc hz (by omega)) X1 e1 N1 Z1 (A1.eqv (own_acc f hi1))
  exact loop (n - 1) 1 _ _ _ _ rfl (Nat.le_refl 1) (by omega) rfl X0 e0 N0 Z0 (A.eqv fun j hj => by by_cases q : j < 1; (· rw [if_pos q]; obtain rfl : j = 0 := (by omega); rfl); (· rw [if_neg q]))
def Q0 (Z : State) (p0 : Int32) (p1 : Int32) (p2 : Int32) (p3 : Int32) (p4 : Int32) (p5 : Int32) (h0 : Heap) (n0 : Nat) (v : Option Value) (h : Heap) (L : List Loc) : Prop := v = some (.int 1) ∧ Fr n0 L
theorem ef_0 (m : MethodId) (x0 : Int32) (x1 : Int32) (x2 : Int32) (x3 : Int32) (x4 : Int32) (x5 : Int32) : entryFrame m #[(.int x0), (.int x1), (.int x2), (.int x3), (.int x4), (.int x5)] maxLocals = mkF m 0 #[.val (.int x0), .val (.int x1), .val (.int x2), .val (.int x3), .val (.int x4), .val (.int x5), .unset, .unset, .unset, .unset, .unset, .unset, .unset, .unset] [] := by first | (simp [entryFrame, mkF, argsToLocals, Value.category, maxLocals]; done) | rfl
set_option maxRecDepth 65536 in
set_option maxHeartbeats 40000000 in
theorem rm0 (l : Launch) (Z : State) (a0 : Array Value) (hw : ∀ d ∈ tables_1, d.before a0 Z = true) (ws : List Jvm.Cond) (p0 : Int32) (p1 : Int32) (p2 : Int32) (p3 : Int32) (p4 : Int32) (p5 : Int32) (h0 : Heap) (n0 : Nat) (Z0 : n0 ≤ h0.size)  :
    own_Met l Z x code maxLocals ret room_1 ws #[(.int p0), (.int p1), (.int p2), (.int p3), (.int p4), (.int p5)] h0 (Q0 Z p0 p1 p2 p3 p4 p5 h0 n0) := by
  refine own_enter (plainFor_of_name (by first | (simp [plainName, overriddenIn]; done) | decide +kernel)) ?_
  intro p e s m below meth c s₁ hx hby hml hown hnm hlk hret hZ X0 e0
  have N0 := Fr.nil n0
  refine own_go (fun _ q => castTop (ef_0 m p0 p1 p2 p3 p4 p5) q) ?_
  show own_Go _ _ _ _ _ _ _ (s₁.setTop (mkF m 0 #[.val (.int p0), .val (.int p1), .val (.int p2), .val (.int p3), .val (.int p4), .val (.int p5), .unset, .unset, .unset, .unset, .unset, .unset, .unset, .unset] []))
  refine own_go (fun _ q => XS.iloadN X0.here hx rfl (hb hby at_0) rfl q) ?_
  show own_Go _ _ _ _ _ _ _ (s₁.setTop (mkF m 1 #[.val (.int p0), .val (.int p1), .val (.int p2), .val (.int p3), .val (.int p4), .val (.int p5), .unset, .unset, .unset, .unset, .unset, .unset, .unset, .unset] [(.int p0)]))
  refine own_go (X0.ldcInt hx hown (mvT hZ (hw _ (List.mem_of_getElem? (i := 0) rfl))) (g := (mkF m 1 #[.val (.int p0), .val (.int p1), .val (.int p2), .val (.int p3), .val (.int p4), .val (.int p5), .unset, .unset, .unset, .unset, .unset, .unset, .unset, .unset] [(.int p0)])) rfl (hb hby at_1)) ?_
  show own_Go _ _ _ _ _ _ _ (s₁.setTop (mkF m 3 #[.val (.int p0), .val (.int p1), .val (.int p2), .val (.int p3), .val (.int p4), .val (.int p5), .unset, .unset, .unset, .unset, .unset, .unset, .unset, .unset] [(.int (2147483647 : Int32)), (.int p0)]))
  refine own_go (fun _ q => XS.iand X0.here hx rfl (hb hby at_3) rfl q) ?_
  show own_Go _ _ _ _ _ _ _ (s₁.setTop (mkF m 4 #[.val (.int p0), .val (.int p1), .val (.int p2), .val (.int p3), .val (.int p4), .val (.int p5), .unset, .unset, .unset, .unset, .unset, .unset, .unset, .unset] [(.int (p0 &&& (2147483647 : Int32)))]))
  refine own_go (fun _ q => XS.bipush X0.here hx rfl (hb hby at_4) q) ?_
  show own_Go _ _ _ _ _ _ _ (s₁.setTop (mkF m 6 #[.val (.int p0), .val (.int p1), .val (.int p2), .val (.int p3), .val (.int p4), .val (.int p5), .unset, .unset, .unset, .unset, .unset, .unset, .unset, .unset] [(.int (6 : Int32)), (.int (p0 &&& (2147483647 : Int32)))]))
  refine own_go (fun _ q => iremM X0 hx rfl (hb hby at_6) rfl (by decide) q) ?_
  show own_Go _ _ _ _ _ _ _ (s₁.setTop (mkF m 7 #[.val (.int p0), .val (.int p1), .val (.int p2), .val (.int p3), .val (.int p4), .val (.int p5), .unset, .unset, .unset, .unset, .unset, .unset, .unset, .unset] [(.int ((p0 &&& (2147483647 : Int32)) % (6 : Int32)))]))
  refine own_go (fun _ q => XS.istore X0.here hx rfl (hb hby at_7) rfl (l' := #[.val (.int p0), .val (.int p1), .val (.int p2), .val (.int p3), .val (.int p4), .val (.int p5), .val (.int ((p0 &&& (2147483647 : Int32)) % (6 : Int32))), .unset, .unset, .unset, .unset, .unset, .unset, .unset]) rfl q) ?_
  show own_Go _ _ _ _ _ _ _ (s₁.setTop (mkF m 9 #[.val (.int p0), .val (.int p1), .val (.int p2), .val (.int p3), .val (.int p4), .val (.int p5), .val (.int ((p0 &&& (2147483647 : Int32)) % (6 : Int32))), .unset, .unset, .unset, .unset, .unset, .unset, .unset] []))
  refine own_go (fun _ q => XS.iload X0.here hx rfl (hb hby at_9) rfl q) ?_
  show own_Go _ _ _ _ _ _ _ (s₁.setTop (mkF m 11 #[.val (.int p0), .val (.int p1), .val (.int p2), .val (.int p3), .val (.int p4), .val (.int p5), .val (.int ((p0 &&& (2147483647 : Int32)) % (6 : Int32))), .unset, .unset, .unset, .unset, .unset, .unset, .unset] [(.int ((p0 &&& (2147483647 : Int32)) % (6 : Int32)))]))
  rcases own_six p0 with q | q | q | q | q | q
  · rw [q]
    show own_Go _ _ _ _ _ _ _ (s₁.setTop (mkF m 11 #[.val (.int p0), .val (.int p1), .val (.int p2), .val (.int p3), .val (.int p4), .val (.int p5), .val (.int (0 : Int32)), .unset, .unset, .unset, .unset, .unset, .unset, .unset] [(.int (0 : Int32))]))
    obtain ⟨T1, h1, k1, X1, e1, E1, Aw1, st1⟩ := newP X0 hx hZ (hw _ (List.mem_of_getElem? (i := 1) rfl)) e0 (g := (mkF m 11 #[.val (.int p0), .val (.int p1), .val (.int p2), .val (.int p3), .val (.int p4), .val (.int p5), .val (.int (0 : Int32)), .unset, .unset, .unset, .unset, .unset, .unset, .unset] [(.int (0 : Int32))])) rfl (hb hby at_11) rfl (by decide) (cap := 0) (by decide) (by decide) (by decide) (by decide)
    obtain ⟨b1, g1⟩ : ∃ z, z = h0.size := ⟨_, rfl⟩
    rw [← g1] at Aw1 st1
    have A1 := own_Ar.new (nn := 0) Aw1 (by decide) rfl
    have G1 : n0 ≤ b1 := by have := Z0; omega
    have Z1 : n0 ≤ h1.size := Nat.le_trans Z0 E1.1
    refine own_go st1 ?_
    show own_Go _ _ _ _ _ _ _ (T1.setTop (mkF m 13 #[.val (.int p0), .val (.int p1), .val (.int p2), .val (.int p3), .val (.int p4), .val (.int p5), .val (.int (0 : Int32)), .unset, .unset, .unset, .unset, .unset, .unset, .unset] [(.ref b1)]))
    have G1 : n0 ≤ b1 := Nat.le_trans Z0 (Nat.le_of_eq g1.symm)
    refine own_go (fun _ q => XS.astore X1.here hx rfl (hb hby at_13) rfl rfl (l' := #[.val (.int p0), .val (.int p1), .val (.int p2), .val (.int p3), .val (.int p4), .val (.int p5), .val (.int (0 : Int32)), .val (.ref b1), .unset, .unset, .unset, .unset, .unset, .unset]) rfl q) ?_
    show own_Go _ _ _ _ _ _ _ (T1.setTop (mkF m 15 #[.val (.int p0), .val (.int p1), .val (.int p2), .val (.int p3), .val (.int p4), .val (.int p5), .val (.int (0 : Int32)), .val (.ref b1), .unset, .unset, .unset, .unset, .unset, .unset] []))
    refine own_go (fun _ q => XS.iload X1.here hx rfl (hb hby at_15) rfl q) ?_
    show own_Go _ _ _ _ _ _ _ (T1.setTop (mkF m 17 #[.val (.int p0), .val (.int p1), .val (.int p2), .val (.int p3), .val (.int p4), .val (.int p5), .val (.int (0 : Int32)), .val (.ref b1), .unset, .unset, .unset, .unset, .unset, .unset] [(.int (0 : Int32))]))
    refine own_go (fun _ q => XS.ifYes X1.here hx rfl (pc0 := 17) (pc' := 25) rfl (hb hby at_17) rfl ((if0 _ _).trans (flt (by decide : ¬ ((0 : Int32) < (0 : Int32)))).2.2.2) (by decide) (by decide) q) ?_
    show own_Go _ _ _ _ _ _ _ (T1.setTop (mkF m 25 #[.val (.int p0), .val (.int p1), .val (.int p2), .val (.int p3), .val (.int p4), .val (.int p5), .val (.int (0 : Int32)), .val (.ref b1), .unset, .unset, .unset, .unset, .unset, .unset] []))
    refine own_go (fun _ q => XS.iload X1.here hx rfl (hb hby at_25) rfl q) ?_
    show own_Go _ _ _ _ _ _ _ (T1.setTop (mkF m 27 #[.val (.int p0), .val (.int p1), .val (.int p2), .val (.int p3), .val (.int p4), .val (.int p5), .val (.int (0 : Int32)), .val (.ref b1), .unset, .unset, .unset, .unset, .unset, .unset] [(.int (0 : Int32))]))
    refine own_go (fun _ q => XS.iconst X1.here hx rfl (hb hby at_27) q) ?_
    show own_Go _ _ _ _ _ _ _ (T1.setTop (mkF m 28 #[.val (.int p0), .val (.int p1), .val (.int p2), .val (.int p3), .val (.int p4), .val (.int p5), .val (.int (0 : Int32)), .val (.ref b1), .unset, .unset, .unset, .unset, .unset, .unset] [(.int (1 : Int32)), (.int (0 : Int32))]))
    refine own_go (fun _ q => XS.icmpYes X1.here hx rfl (pc0 := 28) (pc' := 36) rfl (hb hby at_28) rfl (flt (by decide : ¬ ((1 : Int32) < (0 : Int32)))).2.2.2 (by decide) (by decide) q) ?_
    show own_Go _ _ _ _ _ _ _ (T1.setTop (mkF m 36 #[.val (.int p0), .val (.int p1), .val (.int p2), .val (.int p3), .val (.int p4), .val (.int p5), .val (.int (0 : Int32)), .val (.ref b1), .unset, .unset, .unset, .unset, .unset, .unset] []))
    refine own_go (fun _ q => XS.iload X1.here hx rfl (hb hby at_36) rfl q) ?_
    show own_Go _ _ _ _ _ _ _ (T1.setTop (mkF m 38 #[.val (.int p0), .val (.int p1), .val (.int p2), .val (.int p3), .val (.int p4), .val (.int p5), .val (.int (0 : Int32)), .val (.ref b1), .unset, .unset, .unset, .unset, .unset, .unset] [(.int (0 : Int32))]))
    refine own_go (fun _ q => XS.iconst X1.here hx rfl (hb hby at_38) q) ?_
    show own_Go _ _ _ _ _ _ _ (T1.setTop (mkF m 39 #[.val (.int p0), .val (.int p1), .val (.int p2), .val (.int p3), .val (.int p4), .val (.int p5), .val (.int (0 : Int32)), .val (.ref b1), .unset, .unset, .unset, .unset, .unset, .unset] [(.int (2 : Int32)), (.int (0 : Int32))]))
    refine own_go (fun _ q => XS.icmpYes X1.here hx rfl (pc0 := 39) (pc' := 47) rfl (hb hby at_39) rfl (flt (by decide : ¬ ((2 : Int32) < (0 : Int32)))).2.2.2 (by decide) (by decide) q) ?_
    show own_Go _ _ _ _ _ _ _ (T1.setTop (mkF m 47 #[.val (.int p0), .val (.int p1), .val (.int p2), .val (.int p3), .val (.int p4), .val (.int p5), .val (.int (0 : Int32)), .val (.ref b1), .unset, .unset, .unset, .unset, .unset, .unset] []))
    refine own_go (fun _ q => XS.iload X1.here hx rfl (hb hby at_47) rfl q) ?_
    show own_Go _ _ _ _ _ _ _ (T1.setTop (mkF m 49 #[.val (.int p0), .val (.int p1), .val (.int p2), .val (.int p3), .val (.int p4), .val (.int p5), .val (.int (0 : Int32)), .val (.ref b1), .unset, .unset, .unset, .unset, .unset, .unset] [(.int (0 : Int32))]))
    refine own_go (fun _ q => XS.iconst X1.here hx rfl (hb hby at_49) q) ?_
    show own_Go _ _ _ _ _ _ _ (T1.setTop (mkF m 50 #[.val (.int p0), .val (.int p1), .val (.int p2), .val (.int p3), .val (.int p4), .val (.int p5), .val (.int (0 : Int32)), .val (.ref b1), .unset, .unset, .unset, .unset, .unset, .unset] [(.int (3 : Int32)), (.int (0 : Int32))]))
    refine own_go (fun _ q => XS.icmpYes X1.here hx rfl (pc0 := 50) (pc' := 59) rfl (hb hby at_50) rfl (flt (by decide : ¬ ((3 : Int32) < (0 : Int32)))).2.2.2 (by decide) (by decide) q) ?_
    show own_Go _ _ _ _ _ _ _ (T1.setTop (mkF m 59 #[.val (.int p0), .val (.int p1), .val (.int p2), .val (.int p3), .val (.int p4), .val (.int p5), .val (.int (0 : Int32)), .val (.ref b1), .unset, .unset, .unset, .unset, .unset, .unset] []))
    refine own_go (fun _ q => XS.iload X1.here hx rfl (hb hby at_59) rfl q) ?_
    show own_Go _ _ _ _ _ _ _ (T1.setTop (mkF m 61 #[.val (.int p0), .val (.int p1), .val (.int p2), .val (.int p3), .val (.int p4), .val (.int p5), .val (.int (0 : Int32)), .val (.ref b1), .unset, .unset, .unset, .unset, .unset, .unset] [(.int (0 : Int32))]))
    refine own_go (fun _ q => XS.iconst X1.here hx rfl (hb hby at_61) q) ?_
    show own_Go _ _ _ _ _ _ _ (T1.setTop (mkF m 62 #[.val (.int p0), .val (.int p1), .val (.int p2), .val (.int p3), .val (.int p4), .val (.int p5), .val (.int (0 : Int32)), .val (.ref b1), .unset, .unset, .unset, .unset, .unset, .unset] [(.int (4 : Int32)), (.int (0 : Int32))]))
    refine own_go (fun _ q => XS.icmpYes X1.here hx rfl (pc0 := 62) (pc' := 71) rfl (hb hby at_62) rfl (flt (by decide : ¬ ((4 : Int32) < (0 : Int32)))).2.2.2 (by decide) (by decide) q) ?_
    show own_Go _ _ _ _ _ _ _ (T1.setTop (mkF m 71 #[.val (.int p0), .val (.int p1), .val (.int p2), .val (.int p3), .val (.int p4), .val (.int p5), .val (.int (0 : Int32)), .val (.ref b1), .unset, .unset, .unset, .unset, .unset, .unset] []))
    refine own_go (fun _ q => XS.aload X1.here hx rfl (hb hby at_71) rfl rfl q) ?_
    show own_Go _ _ _ _ _ _ _ (T1.setTop (mkF m 73 #[.val (.int p0), .val (.int p1), .val (.int p2), .val (.int p3), .val (.int p4), .val (.int p5), .val (.int (0 : Int32)), .val (.ref b1), .unset, .unset, .unset, .unset, .unset, .unset] [(.ref b1)]))
    have A0 : own_Ar Z h1 b1 .int 0 (fun j => .int (own_f p1 p2 p3 p4 p5 j)) := A1.eqv (fun j hj => absurd hj (Nat.not_lt_zero j))
    have Z1 : n0 ≤ h1.size := by have := A0.lt; omega
    refine own_static X1 hx hZ hown (hw _ (List.mem_of_getElem? (i := 2) rfl)) (hw _ (List.mem_of_getElem? (i := 3) rfl)) (hw _ (List.mem_of_getElem? (i := 4) rfl)) (hw _ (List.mem_of_getElem? (i := 5) rfl)) (by decide) e1 (argsL := [(.ref b1)]) (rest := []) (rm1 l Z a0 hw [] b1 (own_f p1 p2 p3 p4 p5) 0 h1 n0 Z1 A0 G1 (by decide) (0 : Int32) rfl) 0 (by decide) (by decide) (by decide) (by decide) (by rw [hml]; rfl) pd_0 rfl rfl (Nat.le_of_eq rfl) (hb hby at_73) rfl ?_
    intro v2 T2 L2 X2 hQ2
    obtain ⟨rfl, N2q, A2⟩ := hQ2
    have N2 := Fr.app N0 N2q
    show own_Go _ _ _ _ _ _ _ (T2.setTop (mkF m 76 #[.val (.int p0), .val (.int p1), .val (.int p2), .val (.int p3), .val (.int p4), .val (.int p5), .val (.int (0 : Int32)), .val (.ref b1), .unset, .unset, .unset, .unset, .unset, .unset] []))
    refine own_go (fun _ q => XS.iloadN X2.here hx rfl (hb hby at_76) rfl q) ?_
    show own_Go _ _ _ _ _ _ _ (T2.setTop (mkF m 77 #[.val (.int p0), .val (.int p1), .val (.int p2), .val (.int p3), .val (.int p4), .val (.int p5), .val (.int (0 : Int32)), .val (.ref b1), .unset, .unset, .unset, .unset, .unset, .unset] [(.int p1)]))
    refine own_go (fun _ q => XS.istore X2.here hx rfl (hb hby at_77) rfl (l' := #[.val (.int p0), .val (.int p1), .val (.int p2), .val (.int p3), .val (.int p4), .val (.int p5), .val (.int (0 : Int32)), .val (.ref b1), .val (.int p1), .unset, .unset, .unset, .unset, .unset]) rfl q) ?_
    show own_Go _ _ _ _ _ _ _ (T2.setTop (mkF m 79 #[.val (.int p0), .val (.int p1), .val (.int p2), .val (.int p3), .val (.int p4), .val (.int p5), .val (.int (0 : Int32)), .val (.ref b1), .val (.int p1), .unset, .unset, .unset, .unset, .unset] []))
    refine own_go (fun _ q => XS.iload X2.here hx rfl (hb hby at_79) rfl q) ?_
    show own_Go _ _ _ _ _ _ _ (T2.setTop (mkF m 81 #[.val (.int p0), .val (.int p1), .val (.int p2), .val (.int p3), .val (.int p4), .val (.int p5), .val (.int (0 : Int32)), .val (.ref b1), .val (.int p1), .unset, .unset, .unset, .unset, .unset] [(.int p1)]))
    refine own_go (fun _ q => XS.iloadN X2.here hx rfl (hb hby at_81) rfl q) ?_
    show own_Go _ _ _ _ _ _ _ (T2.setTop (mkF m 82 #[.val (.int p0), .val (.int p1), .val (.int p2), .val (.int p3), .val (.int p4), .val (.int p5), .val (.int (0 : Int32)), .val (.ref b1), .val (.int p1), .unset, .unset, .unset, .unset, .unset] [(.int p2), (.int p1)]))
    refine own_go (fun _ q => XS.iadd X2.here hx rfl (hb hby at_82) rfl q) ?_
    show own_Go _ _ _ _ _ _ _ (T2.setTop (mkF m 83 #[.val (.int p0), .val (.int p1), .val (.int p2), .val (.int p3), .val (.int p4), .val (.int p5), .val (.int (0 : Int32)), .val (.ref b1), .val (.int p1), .unset, .unset, .unset, .unset, .unset] [(.int (p1 + p2))]))
    refine own_go (fun _ q => XS.istore X2.here hx rfl (hb hby at_83) rfl (l' := #[.val (.int p0), .val (.int p1), .val (.int p2), .val (.int p3), .val (.int p4), .val (.int p5), .val (.int (0 : Int32)), .val (.ref b1), .val (.int p1), .val (.int (p1 + p2)), .unset, .unset, .unset, .unset]) rfl q) ?_
    show own_Go _ _ _ _ _ _ _ (T2.setTop (mkF m 85 #[.val (.int p0), .val (.int p1), .val (.int p2), .val (.int p3), .val (.int p4), .val (.int p5), .val (.int (0 : Int32)), .val (.ref b1), .val (.int p1), .val (.int (p1 + p2)), .unset, .unset, .unset, .unset] []))
    refine own_go (fun _ q => XS.iload X2.here hx rfl (hb hby at_85) rfl q) ?_
    show own_Go _ _ _ _ _ _ _ (T2.setTop (mkF m 87 #[.val (.int p0), .val (.int p1), .val (.int p2), .val (.int p3), .val (.int p4), .val (.int p5), .val (.int (0 : Int32)), .val (.ref b1), .val (.int p1), .val (.int (p1 + p2)), .unset, .unset, .unset, .unset] [(.int (p1 + p2))]))
    refine own_go (fun _ q => XS.iloadN X2.here hx rfl (hb hby at_87) rfl q) ?_
    show own_Go _ _ _ _ _ _ _ (T2.setTop (mkF m 88 #[.val (.int p0), .val (.int p1), .val (.int p2), .val (.int p3), .val (.int p4), .val (.int p5), .val (.int (0 : Int32)), .val (.ref b1), .val (.int p1), .val (.int (p1 + p2)), .unset, .unset, .unset, .unset] [(.int p3), (.int (p1 + p2))]))
    refine own_go (fun _ q => XS.iadd X2.here hx rfl (hb hby at_88) rfl q) ?_
    show own_Go _ _ _ _ _ _ _ (T2.setTop (mkF m 89 #[.val (.int p0), .val (.int p1), .val (.int p2), .val (.int p3), .val (.int p4), .val (.int p5), .val (.int (0 : Int32)), .val (.ref b1), .val (.int p1), .val (.int (p1 + p2)), .unset, .unset, .unset, .unset] [(.int ((p1 + p2) + p3))]))
    refine own_go (fun _ q => XS.istore X2.here hx rfl (hb hby at_89) rfl (l' := #[.val (.int p0), .val (.int p1), .val (.int p2), .val (.int p3), .val (.int p4), .val (.int p5), .val (.int (0 : Int32)), .val (.ref b1), .val (.int p1), .val (.int (p1 + p2)), .val (.int ((p1 + p2) + p3)), .unset, .unset, .unset]) rfl q) ?_
    show own_Go _ _ _ _ _ _ _ (T2.setTop (mkF m 91 #[.val (.int p0), .val (.int p1), .val (.int p2), .val (.int p3), .val (.int p4), .val (.int p5), .val (.int (0 : Int32)), .val (.ref b1), .val (.int p1), .val (.int (p1 + p2)), .val (.int ((p1 + p2) + p3)), .unset, .unset, .unset] []))
    refine own_go (fun _ q => XS.iload X2.here hx rfl (hb hby at_91) rfl q) ?_
    show own_Go _ _ _ _ _ _ _ (T2.setTop (mkF m 93 #[.val (.int p0), .val (.int p1), .val (.int p2), .val (.int p3), .val (.int p4), .val (.int p5), .val (.int (0 : Int32)), .val (.ref b1), .val (.int p1), .val (.int (p1 + p2)), .val (.int ((p1 + p2) + p3)), .unset, .unset, .unset] [(.int ((p1 + p2) + p3))]))
    refine own_go (fun _ q => XS.iload X2.here hx rfl (hb hby at_93) rfl q) ?_
    show own_Go _ _ _ _ _ _ _ (T2.setTop (mkF m 95 #[.val (.int p0), .val (.int p1), .val (.int p2), .val (.int p3), .val (.int p4), .val (.int p5), .val (.int (0 : Int32)), .val (.ref b1), .val (.int p1), .val (.int (p1 + p2)), .val (.int ((p1 + p2) + p3)), .unset, .unset, .unset] [(.int p4), (.int ((p1 + p2) + p3))]))
    refine own_go (fun _ q => XS.iadd X2.here hx rfl (hb hby at_95) rfl q) ?_
    show own_Go _ _ _ _ _ _ _ (T2.setTop (mkF m 96 #[.val (.int p0), .val (.int p1), .val (.int p2), .val (.int p3), .val (.int p4), .val (.int p5), .val (.int (0 : Int32)), .val (.ref b1), .val (.int p1), .val (.int (p1 + p2)), .val (.int ((p1 + p2) + p3)), .unset, .unset, .unset] [(.int (((p1 + p2) + p3) + p4))]))
    refine own_go (fun _ q => XS.istore X2.here hx rfl (hb hby at_96) rfl (l' := #[.val (.int p0), .val (.int p1), .val (.int p2), .val (.int p3), .val (.int p4), .val (.int p5), .val (.int (0 : Int32)), .val (.ref b1), .val (.int p1), .val (.int (p1 + p2)), .val (.int ((p1 + p2) + p3)), .val (.int (((p1 + p2) + p3) + p4)), .unset, .unset]) rfl q) ?_
    show own_Go _ _ _ _ _ _ _ (T2.setTop (mkF m 98 #[.val (.int p0), .val (.int p1), .val (.int p2), .val (.int p3), .val (.int p4), .val (.int p5), .val (.int (0 : Int32)), .val (.ref b1), .val (.int p1), .val (.int (p1 + p2)), .val (.int ((p1 + p2) + p3)), .val (.int (((p1 + p2) + p3) + p4)), .unset, .unset] []))
    refine own_go (fun _ q => XS.iload X2.here hx rfl (hb hby at_98) rfl q) ?_
    show own_Go _ _ _ _ _ _ _ (T2.setTop (mkF m 100 #[.val (.int p0), .val (.int p1), .val (.int p2), .val (.int p3), .val (.int p4), .val (.int p5), .val (.int (0 : Int32)), .val (.ref b1), .val (.int p1), .val (.int (p1 + p2)), .val (.int ((p1 + p2) + p3)), .val (.int (((p1 + p2) + p3) + p4)), .unset, .unset] [(.int (((p1 + p2) + p3) + p4))]))
    refine own_go (fun _ q => XS.iload X2.here hx rfl (hb hby at_100) rfl q) ?_
    show own_Go _ _ _ _ _ _ _ (T2.setTop (mkF m 102 #[.val (.int p0), .val (.int p1), .val (.int p2), .val (.int p3), .val (.int p4), .val (.int p5), .val (.int (0 : Int32)), .val (.ref b1), .val (.int p1), .val (.int (p1 + p2)), .val (.int ((p1 + p2) + p3)), .val (.int (((p1 + p2) + p3) + p4)), .unset, .unset] [(.int p5), (.int (((p1 + p2) + p3) + p4))]))
    refine own_go (fun _ q => XS.iadd X2.here hx rfl (hb hby at_102) rfl q) ?_
    show own_Go _ _ _ _ _ _ _ (T2.setTop (mkF m 103 #[.val (.int p0), .val (.int p1), .val (.int p2), .val (.int p3), .val (.int p4), .val (.int p5), .val (.int (0 : Int32)), .val (.ref b1), .val (.int p1), .val (.int (p1 + p2)), .val (.int ((p1 + p2) + p3)), .val (.int (((p1 + p2) + p3) + p4)), .unset, .unset] [(.int ((((p1 + p2) + p3) + p4) + p5))]))
    refine own_go (fun _ q => XS.istore X2.here hx rfl (hb hby at_103) rfl (l' := #[.val (.int p0), .val (.int p1), .val (.int p2), .val (.int p3), .val (.int p4), .val (.int p5), .val (.int (0 : Int32)), .val (.ref b1), .val (.int p1), .val (.int (p1 + p2)), .val (.int ((p1 + p2) + p3)), .val (.int (((p1 + p2) + p3) + p4)), .val (.int ((((p1 + p2) + p3) + p4) + p5)), .unset]) rfl q) ?_
    show own_Go _ _ _ _ _ _ _ (T2.setTop (mkF m 105 #[.val (.int p0), .val (.int p1), .val (.int p2), .val (.int p3), .val (.int p4), .val (.int p5), .val (.int (0 : Int32)), .val (.ref b1), .val (.int p1), .val (.int (p1 + p2)), .val (.int ((p1 + p2) + p3)), .val (.int (((p1 + p2) + p3) + p4)), .val (.int ((((p1 + p2) + p3) + p4) + p5)), .unset] []))
    refine own_go (fun _ q => XS.aload X2.here hx rfl (hb hby at_105) rfl rfl q) ?_
    show own_Go _ _ _ _ _ _ _ (T2.setTop (mkF m 107 #[.val (.int p0), .val (.int p1), .val (.int p2), .val (.int p3), .val (.int p4), .val (.int p5), .val (.int (0 : Int32)), .val (.ref b1), .val (.int p1), .val (.int (p1 + p2)), .val (.int ((p1 + p2) + p3)), .val (.int (((p1 + p2) + p3) + p4)), .val (.int ((((p1 + p2) + p3) + p4) + p5)), .unset] [(.ref b1)]))
    refine own_length (z := (0 : Int32)) X2 hx hZ rfl A2 rfl (hb hby at_107) rfl ?_
    show own_Go _ _ _ _ _ _ _ (T2.setTop (mkF m 108 #[.val (.int p0), .val (.int p1), .val (.int p2), .val (.int p3), .val (.int p4), .val (.int p5), .val (.int (0 : Int32)), .val (.ref b1), .val (.int p1), .val (.int (p1 + p2)), .val (.int ((p1 + p2) + p3)), .val (.int (((p1 + p2) + p3) + p4)), .val (.int ((((p1 + p2) + p3) + p4) + p5)), .unset] [(.int (0 : Int32))]))
    refine own_go (fun _ q => XS.iload X2.here hx rfl (hb hby at_108) rfl q) ?_
    show own_Go _ _ _ _ _ _ _ (T2.setTop (mkF m 110 #[.val (.int p0), .val (.int p1), .val (.int p2), .val (.int p3), .val (.int p4), .val (.int p5), .val (.int (0 : Int32)), .val (.ref b1), .val (.int p1), .val (.int (p1 + p2)), .val (.int ((p1 + p2) + p3)), .val (.int (((p1 + p2) + p3) + p4)), .val (.int ((((p1 + p2) + p3) + p4) + p5)), .unset] [(.int (0 : Int32)), (.int (0 : Int32))]))
    refine own_go (fun _ q => XS.icmpNo X2.here hx rfl (hb hby at_110) rfl (teq (by decide : (0 : Int32) = (0 : Int32))).2 q) ?_
    show own_Go _ _ _ _ _ _ _ (T2.setTop (mkF m 113 #[.val (.int p0), .val (.int p1), .val (.int p2), .val (.int p3), .val (.int p4), .val (.int p5), .val (.int (0 : Int32)), .val (.ref b1), .val (.int p1), .val (.int (p1 + p2)), .val (.int ((p1 + p2) + p3)), .val (.int (((p1 + p2) + p3) + p4)), .val (.int ((((p1 + p2) + p3) + p4) + p5)), .unset] []))
    refine own_go (fun _ q => XS.iconst X2.here hx rfl (hb hby at_113) q) ?_
    show own_Go _ _ _ _ _ _ _ (T2.setTop (mkF m 114 #[.val (.int p0), .val (.int p1), .val (.int p2), .val (.int p3), .val (.int p4), .val (.int p5), .val (.int (0 : Int32)), .val (.ref b1), .val (.int p1), .val (.int (p1 + p2)), .val (.int ((p1 + p2) + p3)), .val (.int (((p1 + p2) + p3) + p4)), .val (.int ((((p1 + p2) + p3) + p4) + p5)), .unset] [(.int (1 : Int32))]))
    refine own_go (fun _ q => XS.goto X2.here hx rfl (pc0 := 114) (pc' := 118) rfl (hb hby at_114) (by decide) (by decide) q) ?_
    show own_Go _ _ _ _ _ _ _ (T2.setTop (mkF m 118 #[.val (.int p0), .val (.int p1), .val (.int p2), .val (.int p3), .val (.int p4), .val (.int p5), .val (.int (0 : Int32)), .val (.ref b1), .val (.int p1), .val (.int (p1 + p2)), .val (.int ((p1 + p2) + p3)), .val (.int (((p1 + p2) + p3) + p4)), .val (.int ((((p1 + p2) + p3) + p4) + p5)), .unset] [(.int (1 : Int32))]))
    refine own_go (fun _ q => XS.istore X2.here hx rfl (hb hby at_118) rfl (l' := #[.val (.int p0), .val (.int p1), .val (.int p2), .val (.int p3), .val (.int p4), .val (.int p5), .val (.int (0 : Int32)), .val (.ref b1), .val (.int p1), .val (.int (p1 + p2)), .val (.int ((p1 + p2) + p3)), .val (.int (((p1 + p2) + p3) + p4)), .val (.int ((((p1 + p2) + p3) + p4) + p5)), .val (.int (1 : Int32))]) rfl q) ?_
    show own_Go _ _ _ _ _ _ _ (T2.setTop (mkF m 120 #[.val (.int p0), .val (.int p1), .val (.int p2), .val (.int p3), .val (.int p4), .val (.int p5), .val (.int (0 : Int32)), .val (.ref b1), .val (.int p1), .val (.int (p1 + p2)), .val (.int ((p1 + p2) + p3)), .val (.int (((p1 + p2) + p3) + p4)), .val (.int ((((p1 + p2) + p3) + p4) + p5)), .val (.int (1 : Int32))] []))
    refine own_go (fun _ q => XS.iload X2.here hx rfl (hb hby at_120) rfl q) ?_
    show own_Go _ _ _ _ _ _ _ (T2.setTop (mkF m 122 #[.val (.int p0), .val (.int p1), .val (.int p2), .val (.int p3), .val (.int p4), .val (.int p5), .val (.int (0 : Int32)), .val (.ref b1), .val (.int p1), .val (.int (p1 + p2)), .val (.int ((p1 + p2) + p3)), .val (.int (((p1 + p2) + p3) + p4)), .val (.int ((((p1 + p2) + p3) + p4) + p5)), .val (.int (1 : Int32))] [(.int (0 : Int32))]))
    refine own_go (fun _ q => XS.ifYes X2.here hx rfl (pc0 := 122) (pc' := 146) rfl (hb hby at_122) rfl ((if0 _ _).trans (flt (by decide : ¬ ((0 : Int32) < (0 : Int32)))).2.2.2) (by decide) (by decide) q) ?_
    show own_Go _ _ _ _ _ _ _ (T2.setTop (mkF m 146 #[.val (.int p0), .val (.int p1), .val (.int p2), .val (.int p3), .val (.int p4), .val (.int p5), .val (.int (0 : Int32)), .val (.ref b1), .val (.int p1), .val (.int (p1 + p2)), .val (.int ((p1 + p2) + p3)), .val (.int (((p1 + p2) + p3) + p4)), .val (.int ((((p1 + p2) + p3) + p4) + p5)), .val (.int (1 : Int32))] []))
    refine own_go (fun _ q => XS.iload X2.here hx rfl (hb hby at_146) rfl q) ?_
    show own_Go _ _ _ _ _ _ _ (T2.setTop (mkF m 148 #[.val (.int p0), .val (.int p1), .val (.int p2), .val (.int p3), .val (.int p4), .val (.int p5), .val (.int (0 : Int32)), .val (.ref b1), .val (.int p1), .val (.int (p1 + p2)), .val (.int ((p1 + p2) + p3)), .val (.int (((p1 + p2) + p3) + p4)), .val (.int ((((p1 + p2) + p3) + p4) + p5)), .val (.int (1 : Int32))] [(.int (0 : Int32))]))
    refine own_go (fun _ q => XS.iconst X2.here hx rfl (hb hby at_148) q) ?_
    show own_Go _ _ _ _ _ _ _ (T2.setTop (mkF m 149 #[.val (.int p0), .val (.int p1), .val (.int p2), .val (.int p3), .val (.int p4), .val (.int p5), .val (.int (0 : Int32)), .val (.ref b1), .val (.int p1), .val (.int (p1 + p2)), .val (.int ((p1 + p2) + p3)), .val (.int (((p1 + p2) + p3) + p4)), .val (.int ((((p1 + p2) + p3) + p4) + p5)), .val (.int (1 : Int32))] [(.int (1 : Int32)), (.int (0 : Int32))]))
    refine own_go (fun _ q => XS.icmpYes X2.here hx rfl (pc0 := 149) (pc' := 173) rfl (hb hby at_149) rfl (flt (by decide : ¬ ((1 : Int32) < (0 : Int32)))).2.2.2 (by decide) (by decide) q) ?_
    show own_Go _ _ _ _ _ _ _ (T2.setTop (mkF m 173 #[.val (.int p0), .val (.int p1), .val (.int p2), .val (.int p3), .val (.int p4), .val (.int p5), .val (.int (0 : Int32)), .val (.ref b1), .val (.int p1), .val (.int (p1 + p2)), .val (.int ((p1 + p2) + p3)), .val (.int (((p1 + p2) + p3) + p4)), .val (.int ((((p1 + p2) + p3) + p4) + p5)), .val (.int (1 : Int32))] []))
    refine own_go (fun _ q => XS.iload X2.here hx rfl (hb hby at_173) rfl q) ?_
    show own_Go _ _ _ _ _ _ _ (T2.setTop (mkF m 175 #[.val (.int p0), .val (.int p1), .val (.int p2), .val (.int p3), .val (.int p4), .val (.int p5), .val (.int (0 : Int32)), .val (.ref b1), .val (.int p1), .val (.int (p1 + p2)), .val (.int ((p1 + p2) + p3)), .val (.int (((p1 + p2) + p3) + p4)), .val (.int ((((p1 + p2) + p3) + p4) + p5)), .val (.int (1 : Int32))] [(.int (0 : Int32))]))
    refine own_go (fun _ q => XS.iconst X2.here hx rfl (hb hby at_175) q) ?_
    show own_Go _ _ _ _ _ _ _ (T2.setTop (mkF m 176 #[.val (.int p0), .val (.int p1), .val (.int p2), .val (.int p3), .val (.int p4), .val (.int p5), .val (.int (0 : Int32)), .val (.ref b1), .val (.int p1), .val (.int (p1 + p2)), .val (.int ((p1 + p2) + p3)), .val (.int (((p1 + p2) + p3) + p4)), .val (.int ((((p1 + p2) + p3) + p4) + p5)), .val (.int (1 : Int32))] [(.int (2 : Int32)), (.int (0 : Int32))]))
    refine own_go (fun _ q => XS.icmpYes X2.here hx rfl (pc0 := 176) (pc' := 200) rfl (hb hby at_176) rfl (flt (by decide : ¬ ((2 : Int32) < (0 : Int32)))).2.2.2 (by decide) (by decide) q) ?_
    show own_Go _ _ _ _ _ _ _ (T2.setTop (mkF m 200 #[.val (.int p0), .val (.int p1), .val (.int p2), .val (.int p3), .val (.int p4), .val (.int p5), .val (.int (0 : Int32)), .val (.ref b1), .val (.int p1), .val (.int (p1 + p2)), .val (.int ((p1 + p2) + p3)), .val (.int (((p1 + p2) + p3) + p4)), .val (.int ((((p1 + p2) + p3) + p4) + p5)), .val (.int (1 : Int32))] []))
    refine own_go (fun _ q => XS.iload X2.here hx rfl (hb hby at_200) rfl q) ?_
    show own_Go _ _ _ _ _ _ _ (T2.setTop (mkF m 202 #[.val (.int p0), .val (.int p1), .val (.int p2), .val (.int p3), .val (.int p4), .val (.int p5), .val (.int (0 : Int32)), .val (.ref b1), .val (.int p1), .val (.int (p1 + p2)), .val (.int ((p1 + p2) + p3)), .val (.int (((p1 + p2) + p3) + p4)), .val (.int ((((p1 + p2) + p3) + p4) + p5)), .val (.int (1 : Int32))] [(.int (0 : Int32))]))
    refine own_go (fun _ q => XS.iconst X2.here hx rfl (hb hby at_202) q) ?_
    show own_Go _ _ _ _ _ _ _ (T2.setTop (mkF m 203 #[.val (.int p0), .val (.int p1), .val (.int p2), .val (.int p3), .val (.int p4), .val (.int p5), .val (.int (0 : Int32)), .val (.ref b1), .val (.int p1), .val (.int (p1 + p2)), .val (.int ((p1 + p2) + p3)), .val (.int (((p1 + p2) + p3) + p4)), .val (.int ((((p1 + p2) + p3) + p4) + p5)), .val (.int (1 : Int32))] [(.int (3 : Int32)), (.int (0 : Int32))]))
    refine own_go (fun _ q => XS.icmpYes X2.here hx rfl (pc0 := 203) (pc' := 227) rfl (hb hby at_203) rfl (flt (by decide : ¬ ((3 : Int32) < (0 : Int32)))).2.2.2 (by decide) (by decide) q) ?_
    show own_Go _ _ _ _ _ _ _ (T2.setTop (mkF m 227 #[.val (.int p0), .val (.int p1), .val (.int p2), .val (.int p3), .val (.int p4), .val (.int p5), .val (.int (0 : Int32)), .val (.ref b1), .val (.int p1), .val (.int (p1 + p2)), .val (.int ((p1 + p2) + p3)), .val (.int (((p1 + p2) + p3) + p4)), .val (.int ((((p1 + p2) + p3) + p4) + p5)), .val (.int (1 : Int32))] []))
    refine own_go (fun _ q => XS.iload X2.here hx rfl (hb hby at_227) rfl q) ?_
    show own_Go _ _ _ _ _ _ _ (T2.setTop (mkF m 229 #[.val (.int p0), .val (.int p1), .val (.int p2), .val (.int p3), .val (.int p4), .val (.int p5), .val (.int (0 : Int32)), .val (.ref b1), .val (.int p1), .val (.int (p1 + p2)), .val (.int ((p1 + p2) + p3)), .val (.int (((p1 + p2) + p3) + p4)), .val (.int ((((p1 + p2) + p3) + p4) + p5)), .val (.int (1 : Int32))] [(.int (0 : Int32))]))
    refine own_go (fun _ q => XS.iconst X2.here hx rfl (hb hby at_229) q) ?_
    show own_Go _ _ _ _ _ _ _ (T2.setTop (mkF m 230 #[.val (.int p0), .val (.int p1), .val (.int p2), .val (.int p3), .val (.int p4), .val (.int p5), .val (.int (0 : Int32)), .val (.ref b1), .val (.int p1), .val (.int (p1 + p2)), .val (.int ((p1 + p2) + p3)), .val (.int (((p1 + p2) + p3) + p4)), .val (.int ((((p1 + p2) + p3) + p4) + p5)), .val (.int (1 : Int32))] [(.int (4 : Int32)), (.int (0 : Int32))]))
    refine own_go (fun _ q => XS.icmpYes X2.here hx rfl (pc0 := 230) (pc' := 254) rfl (hb hby at_230) rfl (flt (by decide : ¬ ((4 : Int32) < (0 : Int32)))).2.2.2 (by decide) (by decide) q) ?_
    show own_Go _ _ _ _ _ _ _ (T2.setTop (mkF m 254 #[.val (.int p0), .val (.int p1), .val (.int p2), .val (.int p3), .val (.int p4), .val (.int p5), .val (.int (0 : Int32)), .val (.ref b1), .val (.int p1), .val (.int (p1 + p2)), .val (.int ((p1 + p2) + p3)), .val (.int (((p1 + p2) + p3) + p4)), .val (.int ((((p1 + p2) + p3) + p4) + p5)), .val (.int (1 : Int32))] []))
    refine own_go (fun _ q => XS.iload X2.here hx rfl (hb hby at_254) rfl q) ?_
    show own_Go _ _ _ _ _ _ _ (T2.setTop (mkF m 256 #[.val (.int p0), .val (.int p1), .val (.int p2), .val (.int p3), .val (.int p4), .val (.int p5), .val (.int (0 : Int32)), .val (.ref b1), .val (.int p1), .val (.int (p1 + p2)), .val (.int ((p1 + p2) + p3)), .val (.int (((p1 + p2) + p3) + p4)), .val (.int ((((p1 + p2) + p3) + p4) + p5)), .val (.int (1 : Int32))] [(.int (1 : Int32))]))
    exact own_retZ X2 hx hlk hret (hb hby at_256) (by decide) (by decide) (by decide) ⟨rfl, N2⟩
  · rw [q]
    show own_Go _ _ _ _ _ _ _ (s₁.setTop (mkF m 11 #[.val (.int p0), .val (.int p1), .val (.int p2), .val (.int p3), .val (.int p4), .val (.int p5), .val (.int (1 : Int32)), .unset, .unset, .unset, .unset, .unset, .unset, .unset] [(.int (1 : Int32))]))
    obtain ⟨T3, h3, k3, X3, e3, E3, Aw3, st3⟩ := newP X0 hx hZ (hw _ (List.mem_of_getElem? (i := 1) rfl)) e0 (g := (mkF m 11 #[.val (.int p0), .val (.int p1), .val (.int p2), .val (.int p3), .val (.int p4), .val (.int p5), .val (.int (1 : Int32)), .unset, .unset, .unset, .unset, .unset, .unset, .unset] [(.int (1 : Int32))])) rfl (hb hby at_11) rfl (by decide) (cap := 1) (by decide) (by decide) (by decide) (by decide)
    obtain ⟨b3, g3⟩ : ∃ z, z = h0.size := ⟨_, rfl⟩
    rw [← g3] at Aw3 st3
    have A3 := own_Ar.new (nn := 1) Aw3 (by decide) rfl
    have G3 : n0 ≤ b3 := by have := Z0; omega
    have Z3 : n0 ≤ h3.size := Nat.le_trans Z0 E3.1
    refine own_go st3 ?_
    show own_Go _ _ _ _ _ _ _ (T3.setTop (mkF m 13 #[.val (.int p0), .val (.int p1), .val (.int p2), .val (.int p3), .val (.int p4), .val (.int p5), .val (.int (1 : Int32)), .unset, .unset, .unset, .unset, .unset, .unset, .unset] [(.ref b3)]))
    have G3 : n0 ≤ b3 := Nat.le_trans Z0 (Nat.le_of_eq g3.symm)
    refine own_go (fun _ q => XS.astore X3.here hx rfl (hb hby at_13) rfl rfl (l' := #[.val (.int p0), .val (.int p1), .val (.int p2), .val (.int p3), .val (.int p4), .val (.int p5), .val (.int (1 : Int32)), .val (.ref b3), .unset, .unset, .unset, .unset, .unset, .unset]) rfl q) ?_
    show own_Go _ _ _ _ _ _ _ (T3.setTop (mkF m 15 #[.val (.int p0), .val (.int p1), .val (.int p2), .val (.int p3), .val (.int p4), .val (.int p5), .val (.int (1 : Int32)), .val (.ref b3), .unset, .unset, .unset, .unset, .unset, .unset] []))
    refine own_go (fun _ q => XS.iload X3.here hx rfl (hb hby at_15) rfl q) ?_
    show own_Go _ _ _ _ _ _ _ (T3.setTop (mkF m 17 #[.val (.int p0), .val (.int p1), .val (.int p2), .val (.int p3), .val (.int p4), .val (.int p5), .val (.int (1 : Int32)), .val (.ref b3), .unset, .unset, .unset, .unset, .unset, .unset] [(.int (1 : Int32))]))
    refine own_go (fun _ q => XS.ifNo X3.here hx rfl (hb hby at_17) rfl ((if0 _ _).trans (tlt (by decide : (0 : Int32) < (1 : Int32))).2.2.2) q) ?_
    show own_Go _ _ _ _ _ _ _ (T3.setTop (mkF m 20 #[.val (.int p0), .val (.int p1), .val (.int p2), .val (.int p3), .val (.int p4), .val (.int p5), .val (.int (1 : Int32)), .val (.ref b3), .unset, .unset, .unset, .unset, .unset, .unset] []))
    refine own_go (fun _ q => XS.aload X3.here hx rfl (hb hby at_20) rfl rfl q) ?_
    show own_Go _ _ _ _ _ _ _ (T3.setTop (mkF m 22 #[.val (.int p0), .val (.int p1), .val (.int p2), .val (.int p3), .val (.int p4), .val (.int p5), .val (.int (1 : Int32)), .val (.ref b3), .unset, .unset, .unset, .unset, .unset, .unset] [(.ref b3)]))
    refine own_go (fun _ q => XS.iconst X3.here hx rfl (hb hby at_22) q) ?_
    show own_Go _ _ _ _ _ _ _ (T3.setTop (mkF m 23 #[.val (.int p0), .val (.int p1), .val (.int p2), .val (.int p3), .val (.int p4), .val (.int p5), .val (.int (1 : Int32)), .val (.ref b3), .unset, .unset, .unset, .unset, .unset, .unset] [(.int (0 : Int32)), (.ref b3)]))
    refine own_go (fun _ q => XS.iloadN X3.here hx rfl (hb hby at_23) rfl q) ?_
    show own_Go _ _ _ _ _ _ _ (T3.setTop (mkF m 24 #[.val (.int p0), .val (.int p1), .val (.int p2), .val (.int p3), .val (.int p4), .val (.int p5), .val (.int (1 : Int32)), .val (.ref b3), .unset, .unset, .unset, .unset, .unset, .unset] [(.int p1), (.int (0 : Int32)), (.ref b3)]))
    refine own_iastore X3 hx hZ e3 (i := 0) A3 rfl (by decide) (hb hby at_24) rfl ?_
    intro T4 h4 X4 e4 W4 A4
    have N4 := Fr.snoc X4 N0 G3
    have Z4 : n0 ≤ h4.size := by rw [W4.size]; exact Z3
    show own_Go _ _ _ _ _ _ _ (T4.setTop (mkF m 25 #[.val (.int p0), .val (.int p1), .val (.int p2), .val (.int p3), .val (.int p4), .val (.int p5), .val (.int (1 : Int32)), .val (.ref b3), .unset, .unset, .unset, .unset, .unset, .unset] []))
    refine own_go (fun _ q => XS.iload X4.here hx rfl (hb hby at_25) rfl q) ?_
    show own_Go _ _ _ _ _ _ _ (T4.setTop (mkF m 27 #[.val (.int p0), .val (.int p1), .val (.int p2), .val (.int p3), .val (.int p4), .val (.int p5), .val (.int (1 : Int32)), .val (.ref b3), .unset, .unset, .unset, .unset, .unset, .unset] [(.int (1 : Int32))]))
    refine own_go (fun _ q => XS.iconst X4.here hx rfl (hb hby at_27) q) ?_
    show own_Go _ _ _ _ _ _ _ (T4.setTop (mkF m 28 #[.val (.int p0), .val (.int p1), .val (.int p2), .val (.int p3), .val (.int p4), .val (.int p5), .val (.int (1 : Int32)), .val (.ref b3), .unset, .unset, .unset, .unset, .unset, .unset] [(.int (1 : Int32)), (.int (1 : Int32))]))
    refine own_go (fun _ q => XS.icmpYes X4.here hx rfl (pc0 := 28) (pc' := 36) rfl (hb hby at_28) rfl (flt (by decide : ¬ ((1 : Int32) < (1 : Int32)))).2.2.2 (by decide) (by decide) q) ?_
    show own_Go _ _ _ _ _ _ _ (T4.setTop (mkF m 36 #[.val (.int p0), .val (.int p1), .val (.int p2), .val (.int p3), .val (.int p4), .val (.int p5), .val (.int (1 : Int32)), .val (.ref b3), .unset, .unset, .unset, .unset, .unset, .unset] []))
    refine own_go (fun _ q => XS.iload X4.here hx rfl (hb hby at_36) rfl q) ?_
    show own_Go _ _ _ _ _ _ _ (T4.setTop (mkF m 38 #[.val (.int p0), .val (.int p1), .val (.int p2), .val (.int p3), .val (.int p4), .val (.int p5), .val (.int (1 : Int32)), .val (.ref b3), .unset, .unset, .unset, .unset, .unset, .unset] [(.int (1 : Int32))]))
    refine own_go (fun _ q => XS.iconst X4.here hx rfl (hb hby at_38) q) ?_
    show own_Go _ _ _ _ _ _ _ (T4.setTop (mkF m 39 #[.val (.int p0), .val (.int p1), .val (.int p2), .val (.int p3), .val (.int p4), .val (.int p5), .val (.int (1 : Int32)), .val (.ref b3), .unset, .unset, .unset, .unset, .unset, .unset] [(.int (2 : Int32)), (.int (1 : Int32))]))
    refine own_go (fun _ q => XS.icmpYes X4.here hx rfl (pc0 := 39) (pc' := 47) rfl (hb hby at_39) rfl (flt (by decide : ¬ ((2 : Int32) < (1 : Int32)))).2.2.2 (by decide) (by decide) q) ?_
    show own_Go _ _ _ _ _ _ _ (T4.setTop (mkF m 47 #[.val (.int p0), .val (.int p1), .val (.int p2), .val (.int p3), .val (.int p4), .val (.int p5), .val (.int (1 : Int32)), .val (.ref b3), .unset, .unset, .unset, .unset, .unset, .unset] []))
    refine own_go (fun _ q => XS.iload X4.here hx rfl (hb hby at_47) rfl q) ?_
    show own_Go _ _ _ _ _ _ _ (T4.setTop (mkF m 49 #[.val (.int p0), .val (.int p1), .val (.int p2), .val (.int p3), .val (.int p4), .val (.int p5), .val (.int (1 : Int32)), .val (.ref b3), .unset, .unset, .unset, .unset, .unset, .unset] [(.int (1 : Int32))]))
    refine own_go (fun _ q => XS.iconst X4.here hx rfl (hb hby at_49) q) ?_
    show own_Go _ _ _ _ _ _ _ (T4.setTop (mkF m 50 #[.val (.int p0), .val (.int p1), .val (.int p2), .val (.int p3), .val (.int p4), .val (.int p5), .val (.int (1 : Int32)), .val (.ref b3), .unset, .unset, .unset, .unset, .unset, .unset] [(.int (3 : Int32)), (.int (1 : Int32))]))
    refine own_go (fun _ q => XS.icmpYes X4.here hx rfl (pc0 := 50) (pc' := 59) rfl (hb hby at_50) rfl (flt (by decide : ¬ ((3 : Int32) < (1 : Int32)))).2.2.2 (by decide) (by decide) q) ?_
    show own_Go _ _ _ _ _ _ _ (T4.setTop (mkF m 59 #[.val (.int p0), .val (.int p1), .val (.int p2), .val (.int p3), .val (.int p4), .val (.int p5), .val (.int (1 : Int32)), .val (.ref b3), .unset, .unset, .unset, .unset, .unset, .unset] []))
    refine own_go (fun _ q => XS.iload X4.here hx rfl (hb hby at_59) rfl q) ?_
    show own_Go _ _ _ _ _ _ _ (T4.setTop (mkF m 61 #[.val (.int p0), .val (.int p1), .val (.int p2), .val (.int p3), .val (.int p4), .val (.int p5), .val (.int (1 : Int32)), .val (.ref b3), .unset, .unset, .unset, .unset, .unset, .unset] [(.int (1 : Int32))]))
    refine own_go (fun _ q => XS.iconst X4.here hx rfl (hb hby at_61) q) ?_
    show own_Go _ _ _ _ _ _ _ (T4.setTop (mkF m 62 #[.val (.int p0), .val (.int p1), .val (.int p2), .val (.int p3), .val (.int p4), .val (.int p5), .val (.int (1 : Int32)), .val (.ref b3), .unset, .unset, .unset, .unset, .unset, .unset] [(.int (4 : Int32)), (.int (1 : Int32))]))
    refine own_go (fun _ q => XS.icmpYes X4.here hx rfl (pc0 := 62) (pc' := 71) rfl (hb hby at_62) rfl (flt (by decide : ¬ ((4 : Int32) < (1 : Int32)))).2.2.2 (by decide) (by decide) q) ?_
    show own_Go _ _ _ _ _ _ _ (T4.setTop (mkF m 71 #[.val (.int p0), .val (.int p1), .val (.int p2), .val (.int p3), .val (.int p4), .val (.int p5), .val (.int (1 : Int32)), .val (.ref b3), .unset, .unset, .unset, .unset, .unset, .unset] []))
    refine own_go (fun _ q => XS.aload X4.here hx rfl (hb hby at_71) rfl rfl q) ?_
    show own_Go _ _ _ _ _ _ _ (T4.setTop (mkF m 73 #[.val (.int p0), .val (.int p1), .val (.int p2), .val (.int p3), .val (.int p4), .val (.int p5), .val (.int (1 : Int32)), .val (.ref b3), .unset, .unset, .unset, .unset, .unset, .unset] [(.ref b3)]))
    have A0 : own_Ar Z h4 b3 .int 1 (fun j => .int (own_f p1 p2 p3 p4 p5 j)) := A4.eqv (fun j hj => by
        have : j = 0 := by omega
        subst this
        rfl)
    have Z1 : n0 ≤ h4.size := by have := A0.lt; omega
    refine own_static X4 hx hZ hown (hw _ (List.mem_of_getElem? (i := 2) rfl)) (hw _ (List.mem_of_getElem? (i := 3) rfl)) (hw _ (List.mem_of_getElem? (i := 4) rfl)) (hw _ (List.mem_of_getElem? (i := 5) rfl)) (by decide) e4 (argsL := [(.ref b3)]) (rest := []) (rm1 l Z a0 hw [] b3 (own_f p1 p2 p3 p4 p5) 1 h4 n0 Z1 A0 G3 (by decide) (1 : Int32) rfl) 0 (by decide) (by decide) (by decide) (by decide) (by rw [hml]; rfl) pd_0 rfl rfl (Nat.le_of_eq rfl) (hb hby at_73) rfl ?_
    intro v5 T5 L5 X5 hQ5
    obtain ⟨rfl, N5q, A5⟩ := hQ5
    have N5 := Fr.app N4 N5q
    show own_Go _ _ _ _ _ _ _ (T5.setTop (mkF m 76 #[.val (.int p0), .val (.int p1), .val (.int p2), .val (.int p3), .val (.int p4), .val (.int p5), .val (.int (1 : Int32)), .val (.ref b3), .unset, .unset, .unset, .unset, .unset, .unset] []))
    refine own_go (fun _ q => XS.iloadN X5.here hx rfl (hb hby at_76) rfl q) ?_
    show own_Go _ _ _ _ _ _ _ (T5.setTop (mkF m 77 #[.val (.int p0), .val (.int p1), .val (.int p2), .val (.int p3), .val (.int p4), .val (.int p5), .val (.int (1 : Int32)), .val (.ref b3), .unset, .unset, .unset, .unset, .unset, .unset] [(.int p1)]))
    refine own_go (fun _ q => XS.istore X5.here hx rfl (hb hby at_77) rfl (l' := #[.val (.int p0), .val (.int p1), .val (.int p2), .val (.int p3), .val (.int p4), .val (.int p5), .val (.int (1 : Int32)), .val (.ref b3), .val (.int p1), .unset, .unset, .unset, .unset, .unset]) rfl q) ?_
    show own_Go _ _ _ _ _ _ _ (T5.setTop (mkF m 79 #[.val (.int p0), .val (.int p1), .val (.int p2), .val (.int p3), .val (.int p4), .val (.int p5), .val (.int (1 : Int32)), .val (.ref b3), .val (.int p1), .unset, .unset, .unset, .unset, .unset] []))
    refine own_go (fun _ q => XS.iload X5.here hx rfl (hb hby at_79) rfl q) ?_
    show own_Go _ _ _ _ _ _ _ (T5.setTop (mkF m 81 #[.val (.int p0), .val (.int p1), .val (.int p2), .val (.int p3), .val (.int p4), .val (.int p5), .val (.int (1 : Int32)), .val (.ref b3), .val (.int p1), .unset, .unset, .unset, .unset, .unset] [(.int p1)]))
    refine own_go (fun _ q => XS.iloadN X5.here hx rfl (hb hby at_81) rfl q) ?_
    show own_Go _ _ _ _ _ _ _ (T5.setTop (mkF m 82 #[.val (.int p0), .val (.int p1), .val (.int p2), .val (.int p3), .val (.int p4), .val (.int p5), .val (.int (1 : Int32)), .val (.ref b3), .val (.int p1), .unset, .unset, .unset, .unset, .unset] [(.int p2), (.int p1)]))
    refine own_go (fun _ q => XS.iadd X5.here hx rfl (hb hby at_82) rfl q) ?_
    show own_Go _ _ _ _ _ _ _ (T5.setTop (mkF m 83 #[.val (.int p0), .val (.int p1), .val (.int p2), .val (.int p3), .val (.int p4), .val (.int p5), .val (.int (1 : Int32)), .val (.ref b3), .val (.int p1), .unset, .unset, .unset, .unset, .unset] [(.int (p1 + p2))]))
    refine own_go (fun _ q => XS.istore X5.here hx rfl (hb hby at_83) rfl (l' := #[.val (.int p0), .val (.int p1), .val (.int p2), .val (.int p3), .val (.int p4), .val (.int p5), .val (.int (1 : Int32)), .val (.ref b3), .val (.int p1), .val (.int (p1 + p2)), .unset, .unset, .unset, .unset]) rfl q) ?_
    show own_Go _ _ _ _ _ _ _ (T5.setTop (mkF m 85 #[.val (.int p0), .val (.int p1), .val (.int p2), .val (.int p3), .val (.int p4), .val (.int p5), .val (.int (1 : Int32)), .val (.ref b3), .val (.int p1), .val (.int (p1 + p2)), .unset, .unset, .unset, .unset] []))
    refine own_go (fun _ q => XS.iload X5.here hx rfl (hb hby at_85) rfl q) ?_
    show own_Go _ _ _ _ _ _ _ (T5.setTop (mkF m 87 #[.val (.int p0), .val (.int p1), .val (.int p2), .val (.int p3), .val (.int p4), .val (.int p5), .val (.int (1 : Int32)), .val (.ref b3), .val (.int p1), .val (.int (p1 + p2)), .unset, .unset, .unset, .unset] [(.int (p1 + p2))]))
    refine own_go (fun _ q => XS.iloadN X5.here hx rfl (hb hby at_87) rfl q) ?_
    show own_Go _ _ _ _ _ _ _ (T5.setTop (mkF m 88 #[.val (.int p0), .val (.int p1), .val (.int p2), .val (.int p3), .val (.int p4), .val (.int p5), .val (.int (1 : Int32)), .val (.ref b3), .val (.int p1), .val (.int (p1 + p2)), .unset, .unset, .unset, .unset] [(.int p3), (.int (p1 + p2))]))
    refine own_go (fun _ q => XS.iadd X5.here hx rfl (hb hby at_88) rfl q) ?_
    show own_Go _ _ _ _ _ _ _ (T5.setTop (mkF m 89 #[.val (.int p0), .val (.int p1), .val (.int p2), .val (.int p3), .val (.int p4), .val (.int p5), .val (.int (1 : Int32)), .val (.ref b3), .val (.int p1), .val (.int (p1 + p2)), .unset, .unset, .unset, .unset] [(.int ((p1 + p2) + p3))]))
    refine own_go (fun _ q => XS.istore X5.here hx rfl (hb hby at_89) rfl (l' := #[.val (.int p0), .val (.int p1), .val (.int p2), .val (.int p3), .val (.int p4), .val (.int p5), .val (.int (1 : Int32)), .val (.ref b3), .val (.int p1), .val (.int (p1 + p2)), .val (.int ((p1 + p2) + p3)), .unset, .unset, .unset]) rfl q) ?_
    show own_Go _ _ _ _ _ _ _ (T5.setTop (mkF m 91 #[.val (.int p0), .val (.int p1), .val (.int p2), .val (.int p3), .val (.int p4), .val (.int p5), .val (.int (1 : Int32)), .val (.ref b3), .val (.int p1), .val (.int (p1 + p2)), .val (.int ((p1 + p2) + p3)), .unset, .unset, .unset] []))
    refine own_go (fun _ q => XS.iload X5.here hx rfl (hb hby at_91) rfl q) ?_
    show own_Go _ _ _ _ _ _ _ (T5.setTop (mkF m 93 #[.val (.int p0), .val (.int p1), .val (.int p2), .val (.int p3), .val (.int p4), .val (.int p5), .val (.int (1 : Int32)), .val (.ref b3), .val (.int p1), .val (.int (p1 + p2)), .val (.int ((p1 + p2) + p3)), .unset, .unset, .unset] [(.int ((p1 + p2) + p3))]))
    refine own_go (fun _ q => XS.iload X5.here hx rfl (hb hby at_93) rfl q) ?_
    show own_Go _ _ _ _ _ _ _ (T5.setTop (mkF m 95 #[.val (.int p0), .val (.int p1), .val (.int p2), .val (.int p3), .val (.int p4), .val (.int p5), .val (.int (1 : Int32)), .val (.ref b3), .val (.int p1), .val (.int (p1 + p2)), .val (.int ((p1 + p2) + p3)), .unset, .unset, .unset] [(.int p4), (.int ((p1 + p2) + p3))]))
    refine own_go (fun _ q => XS.iadd X5.here hx rfl (hb hby at_95) rfl q) ?_
    show own_Go _ _ _ _ _ _ _ (T5.setTop (mkF m 96 #[.val (.int p0), .val (.int p1), .val (.int p2), .val (.int p3), .val (.int p4), .val (.int p5), .val (.int (1 : Int32)), .val (.ref b3), .val (.int p1), .val (.int (p1 + p2)), .val (.int ((p1 + p2) + p3)), .unset, .unset, .unset] [(.int (((p1 + p2) + p3) + p4))]))
    refine own_go (fun _ q => XS.istore X5.here hx rfl (hb hby at_96) rfl (l' := #[.val (.int p0), .val (.int p1), .val (.int p2), .val (.int p3), .val (.int p4), .val (.int p5), .val (.int (1 : Int32)), .val (.ref b3), .val (.int p1), .val (.int (p1 + p2)), .val (.int ((p1 + p2) + p3)), .val (.int (((p1 + p2) + p3) + p4)), .unset, .unset]) rfl q) ?_
    show own_Go _ _ _ _ _ _ _ (T5.setTop (mkF m 98 #[.val (.int p0), .val (.int p1), .val (.int p2), .val (.int p3), .val (.int p4), .val (.int p5), .val (.int (1 : Int32)), .val (.ref b3), .val (.int p1), .val (.int (p1 + p2)), .val (.int ((p1 + p2) + p3)), .val (.int (((p1 + p2) + p3) + p4)), .unset, .unset] []))
    refine own_go (fun _ q => XS.iload X5.here hx rfl (hb hby at_98) rfl q) ?_
    show own_Go _ _ _ _ _ _ _ (T5.setTop (mkF m 100 #[.val (.int p0), .val (.int p1), .val (.int p2), .val (.int p3), .val (.int p4), .val (.int p5), .val (.int (1 : Int32)), .val (.ref b3), .val (.int p1), .val (.int (p1 + p2)), .val (.int ((p1 + p2) + p3)), .val (.int (((p1 + p2) + p3) + p4)), .unset, .unset] [(.int (((p1 + p2) + p3) + p4))]))
    refine own_go (fun _ q => XS.iload X5.here hx rfl (hb hby at_100) rfl q) ?_
    show own_Go _ _ _ _ _ _ _ (T5.setTop (mkF m 102 #[.val (.int p0), .val (.int p1), .val (.int p2), .val (.int p3), .val (.int p4), .val (.int p5), .val (.int (1 : Int32)), .val (.ref b3), .val (.int p1), .val (.int (p1 + p2)), .val (.int ((p1 + p2) + p3)), .val (.int (((p1 + p2) + p3) + p4)), .unset, .unset] [(.int p5), (.int (((p1 + p2) + p3) + p4))]))
    refine own_go (fun _ q => XS.iadd X5.here hx rfl (hb hby at_102) rfl q) ?_
    show own_Go _ _ _ _ _ _ _ (T5.setTop (mkF m 103 #[.val (.int p0), .val (.int p1), .val (.int p2), .val (.int p3), .val (.int p4), .val (.int p5), .val (.int (1 : Int32)), .val (.ref b3), .val (.int p1), .val (.int (p1 + p2)), .val (.int ((p1 + p2) + p3)), .val (.int (((p1 + p2) + p3) + p4)), .unset, .unset] [(.int ((((p1 + p2) + p3) + p4) + p5))]))
    refine own_go (fun _ q => XS.istore X5.here hx rfl (hb hby at_103) rfl (l' := #[.val (.int p0), .val (.int p1), .val (.int p2), .val (.int p3), .val (.int p4), .val (.int p5), .val (.int (1 : Int32)), .val (.ref b3), .val (.int p1), .val (.int (p1 + p2)), .val (.int ((p1 + p2) + p3)), .val (.int (((p1 + p2) + p3) + p4)), .val (.int ((((p1 + p2) + p3) + p4) + p5)), .unset]) rfl q) ?_
    show own_Go _ _ _ _ _ _ _ (T5.setTop (mkF m 105 #[.val (.int p0), .val (.int p1), .val (.int p2), .val (.int p3), .val (.int p4), .val (.int p5), .val (.int (1 : Int32)), .val (.ref b3), .val (.int p1), .val (.int (p1 + p2)), .val (.int ((p1 + p2) + p3)), .val (.int (((p1 + p2) + p3) + p4)), .val (.int ((((p1 + p2) + p3) + p4) + p5)), .unset] []))
    refine own_go (fun _ q => XS.aload X5.here hx rfl (hb hby at_105) rfl rfl q) ?_
    show own_Go _ _ _ _ _ _ _ (T5.setTop (mkF m 107 #[.val (.int p0), .val (.int p1), .val (.int p2), .val (.int p3), .val (.int p4), .val (.int p5), .val (.int (1 : Int32)), .val (.ref b3), .val (.int p1), .val (.int (p1 + p2)), .val (.int ((p1 + p2) + p3)), .val (.int (((p1 + p2) + p3) + p4)), .val (.int ((((p1 + p2) + p3) + p4) + p5)), .unset] [(.ref b3)]))
    refine own_length (z := (1 : Int32)) X5 hx hZ rfl A5 rfl (hb hby at_107) rfl ?_
    show own_Go _ _ _ _ _ _ _ (T5.setTop (mkF m 108 #[.val (.int p0), .val (.int p1), .val (.int p2), .val (.int p3), .val (.int p4), .val (.int p5), .val (.int (1 : Int32)), .val (.ref b3), .val (.int p1), .val (.int (p1 + p2)), .val (.int ((p1 + p2) + p3)), .val (.int (((p1 + p2) + p3) + p4)), .val (.int ((((p1 + p2) + p3) + p4) + p5)), .unset] [(.int (1 : Int32))]))
    refine own_go (fun _ q => XS.iload X5.here hx rfl (hb hby at_108) rfl q) ?_
    show own_Go _ _ _ _ _ _ _ (T5.setTop (mkF m 110 #[.val (.int p0), .val (.int p1), .val (.int p2), .val (.int p3), .val (.int p4), .val (.int p5), .val (.int (1 : Int32)), .val (.ref b3), .val (.int p1), .val (.int (p1 + p2)), .val (.int ((p1 + p2) + p3)), .val (.int (((p1 + p2) + p3) + p4)), .val (.int ((((p1 + p2) + p3) + p4) + p5)), .unset] [(.int (1 : Int32)), (.int (1 : Int32))]))
    refine own_go (fun _ q => XS.icmpNo X5.here hx rfl (hb hby at_110) rfl (teq (by decide : (1 : Int32) = (1 : Int32))).2 q) ?_
    show own_Go _ _ _ _ _ _ _ (T5.setTop (mkF m 113 #[.val (.int p0), .val (.int p1), .val (.int p2), .val (.int p3), .val (.int p4), .val (.int p5), .val (.int (1 : Int32)), .val (.ref b3), .val (.int p1), .val (.int (p1 + p2)), .val (.int ((p1 + p2) + p3)), .val (.int (((p1 + p2) + p3) + p4)), .val (.int ((((p1 + p2) + p3) + p4) + p5)), .unset] []))
    refine own_go (fun _ q => XS.iconst X5.here hx rfl (hb hby at_113) q) ?_
    show own_Go _ _ _ _ _ _ _ (T5.setTop (mkF m 114 #[.val (.int p0), .val (.int p1), .val (.int p2), .val (.int p3), .val (.int p4), .val (.int p5), .val (.int (1 : Int32)), .val (.ref b3), .val (.int p1), .val (.int (p1 + p2)), .val (.int ((p1 + p2) + p3)), .val (.int (((p1 + p2) + p3) + p4)), .val (.int ((((p1 + p2) + p3) + p4) + p5)), .unset] [(.int (1 : Int32))]))
    refine own_go (fun _ q => XS.goto X5.here hx rfl (pc0 := 114) (pc' := 118) rfl (hb hby at_114) (by decide) (by decide) q) ?_
    show own_Go _ _ _ _ _ _ _ (T5.setTop (mkF m 118 #[.val (.int p0), .val (.int p1), .val (.int p2), .val (.int p3), .val (.int p4), .val (.int p5), .val (.int (1 : Int32)), .val (.ref b3), .val (.int p1), .val (.int (p1 + p2)), .val (.int ((p1 + p2) + p3)), .val (.int (((p1 + p2) + p3) + p4)), .val (.int ((((p1 + p2) + p3) + p4) + p5)), .unset] [(.int (1 : Int32))]))
    refine own_go (fun _ q => XS.istore X5.here hx rfl (hb hby at_118) rfl (l' := #[.val (.int p0), .val (.int p1), .val (.int p2), .val (.int p3), .val (.int p4), .val (.int p5), .val (.int (1 : Int32)), .val (.ref b3), .val (.int p1), .val (.int (p1 + p2)), .val (.int ((p1 + p2) + p3)), .val (.int (((p1 + p2) + p3) + p4)), .val (.int ((((p1 + p2) + p3) + p4) + p5)), .val (.int (1 : Int32))]) rfl q) ?_
    show own_Go _ _ _ _ _ _ _ (T5.setTop (mkF m 120 #[.val (.int p0), .val (.int p1), .val (.int p2), .val (.int p3), .val (.int p4), .val (.int p5), .val (.int (1 : Int32)), .val (.ref b3), .val (.int p1), .val (.int (p1 + p2)), .val (.int ((p1 + p2) + p3)), .val (.int (((p1 + p2) + p3) + p4)), .val (.int ((((p1 + p2) + p3) + p4) + p5)), .val (.int (1 : Int32))] []))
    refine own_go (fun _ q => XS.iload X5.here hx rfl (hb hby at_120) rfl q) ?_
    show own_Go _ _ _ _ _ _ _ (T5.setTop (mkF m 122 #[.val (.int p0), .val (.int p1), .val (.int p2), .val (.int p3), .val (.int p4), .val (.int p5), .val (.int (1 : Int32)), .val (.ref b3), .val (.int p1), .val (.int (p1 + p2)), .val (.int ((p1 + p2) + p3)), .val (.int (((p1 + p2) + p3) + p4)), .val (.int ((((p1 + p2) + p3) + p4) + p5)), .val (.int (1 : Int32))] [(.int (1 : Int32))]))
    refine own_go (fun _ q => XS.ifNo X5.here hx rfl (hb hby at_122) rfl ((if0 _ _).trans (tlt (by decide : (0 : Int32) < (1 : Int32))).2.2.2) q) ?_
    show own_Go _ _ _ _ _ _ _ (T5.setTop (mkF m 125 #[.val (.int p0), .val (.int p1), .val (.int p2), .val (.int p3), .val (.int p4), .val (.int p5), .val (.int (1 : Int32)), .val (.ref b3), .val (.int p1), .val (.int (p1 + p2)), .val (.int ((p1 + p2) + p3)), .val (.int (((p1 + p2) + p3) + p4)), .val (.int ((((p1 + p2) + p3) + p4) + p5)), .val (.int (1 : Int32))] []))
    refine own_go (fun _ q => XS.iload X5.here hx rfl (hb hby at_125) rfl q) ?_
    show own_Go _ _ _ _ _ _ _ (T5.setTop (mkF m 127 #[.val (.int p0), .val (.int p1), .val (.int p2), .val (.int p3), .val (.int p4), .val (.int p5), .val (.int (1 : Int32)), .val (.ref b3), .val (.int p1), .val (.int (p1 + p2)), .val (.int ((p1 + p2) + p3)), .val (.int (((p1 + p2) + p3) + p4)), .val (.int ((((p1 + p2) + p3) + p4) + p5)), .val (.int (1 : Int32))] [(.int (1 : Int32))]))
    refine own_go (fun _ q => XS.ifNo X5.here hx rfl (hb hby at_127) rfl ((if0 _ _).trans (feq (by decide : ¬ ((1 : Int32) = (0 : Int32)))).1) q) ?_
    show own_Go _ _ _ _ _ _ _ (T5.setTop (mkF m 130 #[.val (.int p0), .val (.int p1), .val (.int p2), .val (.int p3), .val (.int p4), .val (.int p5), .val (.int (1 : Int32)), .val (.ref b3), .val (.int p1), .val (.int (p1 + p2)), .val (.int ((p1 + p2) + p3)), .val (.int (((p1 + p2) + p3) + p4)), .val (.int ((((p1 + p2) + p3) + p4) + p5)), .val (.int (1 : Int32))] []))
    refine own_go (fun _ q => XS.aload X5.here hx rfl (hb hby at_130) rfl rfl q) ?_
    show own_Go _ _ _ _ _ _ _ (T5.setTop (mkF m 132 #[.val (.int p0), .val (.int p1), .val (.int p2), .val (.int p3), .val (.int p4), .val (.int p5), .val (.int (1 : Int32)), .val (.ref b3), .val (.int p1), .val (.int (p1 + p2)), .val (.int ((p1 + p2) + p3)), .val (.int (((p1 + p2) + p3) + p4)), .val (.int ((((p1 + p2) + p3) + p4) + p5)), .val (.int (1 : Int32))] [(.ref b3)]))
    refine own_go (fun _ q => XS.iconst X5.here hx rfl (hb hby at_132) q) ?_
    show own_Go _ _ _ _ _ _ _ (T5.setTop (mkF m 133 #[.val (.int p0), .val (.int p1), .val (.int p2), .val (.int p3), .val (.int p4), .val (.int p5), .val (.int (1 : Int32)), .val (.ref b3), .val (.int p1), .val (.int (p1 + p2)), .val (.int ((p1 + p2) + p3)), .val (.int (((p1 + p2) + p3) + p4)), .val (.int ((((p1 + p2) + p3) + p4) + p5)), .val (.int (1 : Int32))] [(.int (0 : Int32)), (.ref b3)]))
    refine own_iaload X5 hx hZ rfl (i := 0) A5 rfl (by decide) rfl (hb hby at_133) rfl ?_
    show own_Go _ _ _ _ _ _ _ (T5.setTop (mkF m 134 #[.val (.int p0), .val (.int p1), .val (.int p2), .val (.int p3), .val (.int p4), .val (.int p5), .val (.int (1 : Int32)), .val (.ref b3), .val (.int p1), .val (.int (p1 + p2)), .val (.int ((p1 + p2) + p3)), .val (.int (((p1 + p2) + p3) + p4)), .val (.int ((((p1 + p2) + p3) + p4) + p5)), .val (.int (1 : Int32))] [(.int p1)]))
    refine own_go (fun _ q => XS.iload X5.here hx rfl (hb hby at_134) rfl q) ?_
    show own_Go _ _ _ _ _ _ _ (T5.setTop (mkF m 136 #[.val (.int p0), .val (.int p1), .val (.int p2), .val (.int p3), .val (.int p4), .val (.int p5), .val (.int (1 : Int32)), .val (.ref b3), .val (.int p1), .val (.int (p1 + p2)), .val (.int ((p1 + p2) + p3)), .val (.int (((p1 + p2) + p3) + p4)), .val (.int ((((p1 + p2) + p3) + p4) + p5)), .val (.int (1 : Int32))] [(.int p1), (.int p1)]))
    refine own_go (fun _ q => XS.icmpNo X5.here hx rfl (hb hby at_136) rfl (teq rfl).2 q) ?_
    show own_Go _ _ _ _ _ _ _ (T5.setTop (mkF m 139 #[.val (.int p0), .val (.int p1), .val (.int p2), .val (.int p3), .val (.int p4), .val (.int p5), .val (.int (1 : Int32)), .val (.ref b3), .val (.int p1), .val (.int (p1 + p2)), .val (.int ((p1 + p2) + p3)), .val (.int (((p1 + p2) + p3) + p4)), .val (.int ((((p1 + p2) + p3) + p4) + p5)), .val (.int (1 : Int32))] []))
    refine own_go (fun _ q => XS.iconst X5.here hx rfl (hb hby at_139) q) ?_
    show own_Go _ _ _ _ _ _ _ (T5.setTop (mkF m 140 #[.val (.int p0), .val (.int p1), .val (.int p2), .val (.int p3), .val (.int p4), .val (.int p5), .val (.int (1 : Int32)), .val (.ref b3), .val (.int p1), .val (.int (p1 + p2)), .val (.int ((p1 + p2) + p3)), .val (.int (((p1 + p2) + p3) + p4)), .val (.int ((((p1 + p2) + p3) + p4) + p5)), .val (.int (1 : Int32))] [(.int (1 : Int32))]))
    refine own_go (fun _ q => XS.goto X5.here hx rfl (pc0 := 140) (pc' := 144) rfl (hb hby at_140) (by decide) (by decide) q) ?_
    show own_Go _ _ _ _ _ _ _ (T5.setTop (mkF m 144 #[.val (.int p0), .val (.int p1), .val (.int p2), .val (.int p3), .val (.int p4), .val (.int p5), .val (.int (1 : Int32)), .val (.ref b3), .val (.int p1), .val (.int (p1 + p2)), .val (.int ((p1 + p2) + p3)), .val (.int (((p1 + p2) + p3) + p4)), .val (.int ((((p1 + p2) + p3) + p4) + p5)), .val (.int (1 : Int32))] [(.int (1 : Int32))]))
    refine own_go (fun _ q => XS.istore X5.here hx rfl (hb hby at_144) rfl (l' := #[.val (.int p0), .val (.int p1), .val (.int p2), .val (.int p3), .val (.int p4), .val (.int p5), .val (.int (1 : Int32)), .val (.ref b3), .val (.int p1), .val (.int (p1 + p2)), .val (.int ((p1 + p2) + p3)), .val (.int (((p1 + p2) + p3) + p4)), .val (.int ((((p1 + p2) + p3) + p4) + p5)), .val (.int (1 : Int32))]) rfl q) ?_
    show own_Go _ _ _ _ _ _ _ (T5.setTop (mkF m 146 #[.val (.int p0), .val (.int p1), .val (.int p2), .val (.int p3), .val (.int p4), .val (.int p5), .val (.int (1 : Int32)), .val (.ref b3), .val (.int p1), .val (.int (p1 + p2)), .val (.int ((p1 + p2) + p3)), .val (.int (((p1 + p2) + p3) + p4)), .val (.int ((((p1 + p2) + p3) + p4) + p5)), .val (.int (1 : Int32))] []))
    refine own_go (fun _ q => XS.iload X5.here hx rfl (hb hby at_146) rfl q) ?_
    show own_Go _ _ _ _ _ _ _ (T5.setTop (mkF m 148 #[.val (.int p0), .val (.int p1), .val (.int p2), .val (.int p3), .val (.int p4), .val (.int p5), .val (.int (1 : Int32)), .val (.ref b3), .val (.int p1), .val (.int (p1 + p2)), .val (.int ((p1 + p2) + p3)), .val (.int (((p1 + p2) + p3) + p4)), .val (.int ((((p1 + p2) + p3) + p4) + p5)), .val (.int (1 : Int32))] [(.int (1 : Int32))]))
    refine own_go (fun _ q => XS.iconst X5.here hx rfl (hb hby at_148) q) ?_
    show own_Go _ _ _ _ _ _ _ (T5.setTop (mkF m 149 #[.val (.int p0), .val (.int p1), .val (.int p2), .val (.int p3), .val (.int p4), .val (.int p5), .val (.int (1 : Int32)), .val (.ref b3), .val (.int p1), .val (.int (p1 + p2)), .val (.int ((p1 + p2) + p3)), .val (.int (((p1 + p2) + p3) + p4)), .val (.int ((((p1 + p2) + p3) + p4) + p5)), .val (.int (1 : Int32))] [(.int (1 : Int32)), (.int (1 : Int32))]))
    refine own_go (fun _ q => XS.icmpYes X5.here hx rfl (pc0 := 149) (pc' := 173) rfl (hb hby at_149) rfl (flt (by decide : ¬ ((1 : Int32) < (1 : Int32)))).2.2.2 (by decide) (by decide) q) ?_
    show own_Go _ _ _ _ _ _ _ (T5.setTop (mkF m 173 #[.val (.int p0), .val (.int p1), .val (.int p2), .val (.int p3), .val (.int p4), .val (.int p5), .val (.int (1 : Int32)), .val (.ref b3), .val (.int p1), .val (.int (p1 + p2)), .val (.int ((p1 + p2) + p3)), .val (.int (((p1 + p2) + p3) + p4)), .val (.int ((((p1 + p2) + p3) + p4) + p5)), .val (.int (1 : Int32))] []))
    refine own_go (fun _ q => XS.iload X5.here hx rfl (hb hby at_173) rfl q) ?_
    show own_Go _ _ _ _ _ _ _ (T5.setTop (mkF m 175 #[.val (.int p0), .val (.int p1), .val (.int p2), .val (.int p3), .val (.int p4), .val (.int p5), .val (.int (1 : Int32)), .val (.ref b3), .val (.int p1), .val (.int (p1 + p2)), .val (.int ((p1 + p2) + p3)), .val (.int (((p1 + p2) + p3) + p4)), .val (.int ((((p1 + p2) + p3) + p4) + p5)), .val (.int (1 : Int32))] [(.int (1 : Int32))]))
    refine own_go (fun _ q => XS.iconst X5.here hx rfl (hb hby at_175) q) ?_
    show own_Go _ _ _ _ _ _ _ (T5.setTop (mkF m 176 #[.val (.int p0), .val (.int p1), .val (.int p2), .val (.int p3), .val (.int p4), .val (.int p5), .val (.int (1 : Int32)), .val (.ref b3), .val (.int p1), .val (.int (p1 + p2)), .val (.int ((p1 + p2) + p3)), .val (.int (((p1 + p2) + p3) + p4)), .val (.int ((((p1 + p2) + p3) + p4) + p5)), .val (.int (1 : Int32))] [(.int (2 : Int32)), (.int (1 : Int32))]))
    refine own_go (fun _ q => XS.icmpYes X5.here hx rfl (pc0 := 176) (pc' := 200) rfl (hb hby at_176) rfl (flt (by decide : ¬ ((2 : Int32) < (1 : Int32)))).2.2.2 (by decide) (by decide) q) ?_
    show own_Go _ _ _ _ _ _ _ (T5.setTop (mkF m 200 #[.val (.int p0), .val (.int p1), .val (.int p2), .val (.int p3), .val (.int p4), .val (.int p5), .val (.int (1 : Int32)), .val (.ref b3), .val (.int p1), .val (.int (p1 + p2)), .val (.int ((p1 + p2) + p3)), .val (.int (((p1 + p2) + p3) + p4)), .val (.int ((((p1 + p2) + p3) + p4) + p5)), .val (.int (1 : Int32))] []))
    refine own_go (fun _ q => XS.iload X5.here hx rfl (hb hby at_200) rfl q) ?_
    show own_Go _ _ _ _ _ _ _ (T5.setTop (mkF m 202 #[.val (.int p0), .val (.int p1), .val (.int p2), .val (.int p3), .val (.int p4), .val (.int p5), .val (.int (1 : Int32)), .val (.ref b3), .val (.int p1), .val (.int (p1 + p2)), .val (.int ((p1 + p2) + p3)), .val (.int (((p1 + p2) + p3) + p4)), .val (.int ((((p1 + p2) + p3) + p4) + p5)), .val (.int (1 : Int32))] [(.int (1 : Int32))]))
    refine own_go (fun _ q => XS.iconst X5.here hx rfl (hb hby at_202) q) ?_
    show own_Go _ _ _ _ _ _ _ (T5.setTop (mkF m 203 #[.val (.int p0), .val (.int p1), .val (.int p2), .val (.int p3), .val (.int p4), .val (.int p5), .val (.int (1 : Int32)), .val (.ref b3), .val (.int p1), .val (.int (p1 + p2)), .val (.int ((p1 + p2) + p3)), .val (.int (((p1 + p2) + p3) + p4)), .val (.int ((((p1 + p2) + p3) + p4) + p5)), .val (.int (1 : Int32))] [(.int (3 : Int32)), (.int (1 : Int32))]))
    refine own_go (fun _ q => XS.icmpYes X5.here hx rfl (pc0 := 203) (pc' := 227) rfl (hb hby at_203) rfl (flt (by decide : ¬ ((3 : Int32) < (1 : Int32)))).2.2.2 (by decide) (by decide) q) ?_
    show own_Go _ _ _ _ _ _ _ (T5.setTop (mkF m 227 #[.val (.int p0), .val (.int p1), .val (.int p2), .val (.int p3), .val (.int p4), .val (.int p5), .val (.int (1 : Int32)), .val (.ref b3), .val (.int p1), .val (.int (p1 + p2)), .val (.int ((p1 + p2) + p3)), .val (.int (((p1 + p2) + p3) + p4)), .val (.int ((((p1 + p2) + p3) + p4) + p5)), .val (.int (1 : Int32))] []))
    refine own_go (fun _ q => XS.iload X5.here hx rfl (hb hby at_227) rfl q) ?_
    show own_Go _ _ _ _ _ _ _ (T5.setTop (mkF m 229 #[.val (.int p0), .val (.int p1), .val (.int p2), .val (.int p3), .val (.int p4), .val (.int p5), .val (.int (1 : Int32)), .val (.ref b3), .val (.int p1), .val (.int (p1 + p2)), .val (.int ((p1 + p2) + p3)), .val (.int (((p1 + p2) + p3) + p4)), .val (.int ((((p1 + p2) + p3) + p4) + p5)), .val (.int (1 : Int32))] [(.int (1 : Int32))]))
    refine own_go (fun _ q => XS.iconst X5.here hx rfl (hb hby at_229) q) ?_
    show own_Go _ _ _ _ _ _ _ (T5.setTop (mkF m 230 #[.val (.int p0), .val (.int p1), .val (.int p2), .val (.int p3), .val (.int p4), .val (.int p5), .val (.int (1 : Int32)), .val (.ref b3), .val (.int p1), .val (.int (p1 + p2)), .val (.int ((p1 + p2) + p3)), .val (.int (((p1 + p2) + p3) + p4)), .val (.int ((((p1 + p2) + p3) + p4) + p5)), .val (.int (1 : Int32))] [(.int (4 : Int32)), (.int (1 : Int32))]))
    refine own_go (fun _ q => XS.icmpYes X5.here hx rfl (pc0 := 230) (pc' := 254) rfl (hb hby at_230) rfl (flt (by decide : ¬ ((4 : Int32) < (1 : Int32)))).2.2.2 (by decide) (by decide) q) ?_
    show own_Go _ _ _ _ _ _ _ (T5.setTop (mkF m 254 #[.val (.int p0), .val (.int p1), .val (.int p2), .val (.int p3), .val (.int p4), .val (.int p5), .val (.int (1 : Int32)), .val (.ref b3), .val (.int p1), .val (.int (p1 + p2)), .val (.int ((p1 + p2) + p3)), .val (.int (((p1 + p2) + p3) + p4)), .val (.int ((((p1 + p2) + p3) + p4) + p5)), .val (.int (1 : Int32))] []))
    refine own_go (fun _ q => XS.iload X5.here hx rfl (hb hby at_254) rfl q) ?_
    show own_Go _ _ _ _ _ _ _ (T5.setTop (mkF m 256 #[.val (.int p0), .val (.int p1), .val (.int p2), .val (.int p3), .val (.int p4), .val (.int p5), .val (.int (1 : Int32)), .val (.ref b3), .val (.int p1), .val (.int (p1 + p2)), .val (.int ((p1 + p2) + p3)), .val (.int (((p1 + p2) + p3) + p4)), .val (.int ((((p1 + p2) + p3) + p4) + p5)), .val (.int (1 : Int32))] [(.int (1 : Int32))]))
    exact own_retZ X5 hx hlk hret (hb hby at_256) (by decide) (by decide) (by decide) ⟨rfl, N5⟩
  · rw [q]
    show own_Go _ _ _ _ _ _ _ (s₁.setTop (mkF m 11 #[.val (.int p0), .val (.int p1), .val (.int p2), .val (.int p3), .val (.int p4), .val (.int p5), .val (.int (2 : Int32)), .unset, .unset, .unset, .unset, .unset, .unset, .unset] [(.int (2 : Int32))]))
    obtain ⟨T6, h6, k6, X6, e6, E6, Aw6, st6⟩ := newP X0 hx hZ (hw _ (List.mem_of_getElem? (i := 1) rfl)) e0 (g := (mkF m 11 #[.val (.int p0), .val (.int p1), .val (.int p2), .val (.int p3), .val (.int p4), .val (.int p5), .val (.int (2 : Int32)), .unset, .unset, .unset, .unset, .unset, .unset, .unset] [(.int (2 : Int32))])) rfl (hb hby at_11) rfl (by decide) (cap := 2) (by decide) (by decide) (by decide) (by decide)
    obtain ⟨b6, g6⟩ : ∃ z, z = h0.size := ⟨_, rfl⟩
    rw [← g6] at Aw6 st6
    have A6 := own_Ar.new (nn := 2) Aw6 (by decide) rfl
    have G6 : n0 ≤ b6 := by have := Z0; omega
    have Z6 : n0 ≤ h6.size := Nat.le_trans Z0 E6.1
    refine own_go st6 ?_
    show own_Go _ _ _ _ _ _ _ (T6.setTop (mkF m 13 #[.val (.int p0), .val (.int p1), .val (.int p2), .val (.int p3), .val (.int p4), .val (.int p5), .val (.int (2 : Int32)), .unset, .unset, .unset, .unset, .unset, .unset, .unset] [(.ref b6)]))
    have G6 : n0 ≤ b6 := Nat.le_trans Z0 (Nat.le_of_eq g6.symm)
    refine own_go (fun _ q => XS.astore X6.here hx rfl (hb hby at_13) rfl rfl (l' := #[.val (.int p0), .val (.int p1), .val (.int p2), .val (.int p3), .val (.int p4), .val (.int p5), .val (.int (2 : Int32)), .val (.ref b6), .unset, .unset, .unset, .unset, .unset, .unset]) rfl q) ?_
    show own_Go _ _ _ _ _ _ _ (T6.setTop (mkF m 15 #[.val (.int p0), .val (.int p1), .val (.int p2), .val (.int p3), .val (.int p4), .val (.int p5), .val (.int (2 : Int32)), .val (.ref b6), .unset, .unset, .unset, .unset, .unset, .unset] []))
    refine own_go (fun _ q => XS.iload X6.here hx rfl (hb hby at_15) rfl q) ?_
    show own_Go _ _ _ _ _ _ _ (T6.setTop (mkF m 17 #[.val (.int p0), .val (.int p1), .val (.int p2), .val (.int p3), .val (.int p4), .val (.int p5), .val (.int (2 : Int32)), .val (.ref b6), .unset, .unset, .unset, .unset, .unset, .unset] [(.int (2 : Int32))]))
    refine own_go (fun _ q => XS.ifNo X6.here hx rfl (hb hby at_17) rfl ((if0 _ _).trans (tlt (by decide : (0 : Int32) < (2 : Int32))).2.2.2) q) ?_
    show own_Go _ _ _ _ _ _ _ (T6.setTop (mkF m 20 #[.val (.int p0), .val (.int p1), .val (.int p2), .val (.int p3), .val (.int p4), .val (.int p5), .val (.int (2 : Int32)), .val (.ref b6), .unset, .unset, .unset, .unset, .unset, .unset] []))
    refine own_go (fun _ q => XS.aload X6.here hx rfl (hb hby at_20) rfl rfl q) ?_
    show own_Go _ _ _ _ _ _ _ (T6.setTop (mkF m 22 #[.val (.int p0), .val (.int p1), .val (.int p2), .val (.int p3), .val (.int p4), .val (.int p5), .val (.int (2 : Int32)), .val (.ref b6), .unset, .unset, .unset, .unset, .unset, .unset] [(.ref b6)]))
    refine own_go (fun _ q => XS.iconst X6.here hx rfl (hb hby at_22) q) ?_
    show own_Go _ _ _ _ _ _ _ (T6.setTop (mkF m 23 #[.val (.int p0), .val (.int p1), .val (.int p2), .val (.int p3), .val (.int p4), .val (.int p5), .val (.int (2 : Int32)), .val (.ref b6), .unset, .unset, .unset, .unset, .unset, .unset] [(.int (0 : Int32)), (.ref b6)]))
    refine own_go (fun _ q => XS.iloadN X6.here hx rfl (hb hby at_23) rfl q) ?_
    show own_Go _ _ _ _ _ _ _ (T6.setTop (mkF m 24 #[.val (.int p0), .val (.int p1), .val (.int p2), .val (.int p3), .val (.int p4), .val (.int p5), .val (.int (2 : Int32)), .val (.ref b6), .unset, .unset, .unset, .unset, .unset, .unset] [(.int p1), (.int (0 : Int32)), (.ref b6)]))
    refine own_iastore X6 hx hZ e6 (i := 0) A6 rfl (by decide) (hb hby at_24) rfl ?_
    intro T7 h7 X7 e7 W7 A7
    have N7 := Fr.snoc X7 N0 G6
    have Z7 : n0 ≤ h7.size := by rw [W7.size]; exact Z6
    show own_Go _ _ _ _ _ _ _ (T7.setTop (mkF m 25 #[.val (.int p0), .val (.int p1), .val (.int p2), .val (.int p3), .val (.int p4), .val (.int p5), .val (.int (2 : Int32)), .val (.ref b6), .unset, .unset, .unset, .unset, .unset, .unset] []))
    refine own_go (fun _ q => XS.iload X7.here hx rfl (hb hby at_25) rfl q) ?_
    show own_Go _ _ _ _ _ _ _ (T7.setTop (mkF m 27 #[.val (.int p0), .val (.int p1), .val (.int p2), .val (.int p3), .val (.int p4), .val (.int p5), .val (.int (2 : Int32)), .val (.ref b6), .unset, .unset, .unset, .unset, .unset, .unset] [(.int (2 : Int32))]))
    refine own_go (fun _ q => XS.iconst X7.here hx rfl (hb hby at_27) q) ?_
    show own_Go _ _ _ _ _ _ _ (T7.setTop (mkF m 28 #[.val (.int p0), .val (.int p1), .val (.int p2), .val (.int p3), .val (.int p4), .val (.int p5), .val (.int (2 : Int32)), .val (.ref b6), .unset, .unset, .unset, .unset, .unset, .unset] [(.int (1 : Int32)), (.int (2 : Int32))]))
    refine own_go (fun _ q => XS.icmpNo X7.here hx rfl (hb hby at_28) rfl (tlt (by decide : (1 : Int32) < (2 : Int32))).2.2.2 q) ?_
    show own_Go _ _ _ _ _ _ _ (T7.setTop (mkF m 31 #[.val (.int p0), .val (.int p1), .val (.int p2), .val (.int p3), .val (.int p4), .val (.int p5), .val (.int (2 : Int32)), .val (.ref b6), .unset, .unset, .unset, .unset, .unset, .unset] []))
    refine own_go (fun _ q => XS.aload X7.here hx rfl (hb hby at_31) rfl rfl q) ?_
    show own_Go _ _ _ _ _ _ _ (T7.setTop (mkF m 33 #[.val (.int p0), .val (.int p1), .val (.int p2), .val (.int p3), .val (.int p4), .val (.int p5), .val (.int (2 : Int32)), .val (.ref b6), .unset, .unset, .unset, .unset, .unset, .unset] [(.ref b6)]))
    refine own_go (fun _ q => XS.iconst X7.here hx rfl (hb hby at_33) q) ?_
    show own_Go _ _ _ _ _ _ _ (T7.setTop (mkF m 34 #[.val (.int p0), .val (.int p1), .val (.int p2), .val (.int p3), .val (.int p4), .val (.int p5), .val (.int (2 : Int32)), .val (.ref b6), .unset, .unset, .unset, .unset, .unset, .unset] [(.int (1 : Int32)), (.ref b6)]))
    refine own_go (fun _ q => XS.iloadN X7.here hx rfl (hb hby at_34) rfl q) ?_
    show own_Go _ _ _ _ _ _ _ (T7.setTop (mkF m 35 #[.val (.int p0), .val (.int p1), .val (.int p2), .val (.int p3), .val (.int p4), .val (.int p5), .val (.int (2 : Int32)), .val (.ref b6), .unset, .unset, .unset, .unset, .unset, .unset] [(.int p2), (.int (1 : Int32)), (.ref b6)]))
    refine own_iastore X7 hx hZ e7 (i := 1) A7 rfl (by decide) (hb hby at_35) rfl ?_
    intro T8 h8 X8 e8 W8 A8
    have N8 := Fr.snoc X8 N7 G6
    have Z8 : n0 ≤ h8.size := by rw [W8.size]; exact Z7
    show own_Go _ _ _ _ _ _ _ (T8.setTop (mkF m 36 #[.val (.int p0), .val (.int p1), .val (.int p2), .val (.int p3), .val (.int p4), .val (.int p5), .val (.int (2 : Int32)), .val (.ref b6), .unset, .unset, .unset, .unset, .unset, .unset] []))
    refine own_go (fun _ q => XS.iload X8.here hx rfl (hb hby at_36) rfl q) ?_
    show own_Go _ _ _ _ _ _ _ (T8.setTop (mkF m 38 #[.val (.int p0), .val (.int p1), .val (.int p2), .val (.int p3), .val (.int p4), .val (.int p5), .val (.int (2 : Int32)), .val (.ref b6), .unset, .unset, .unset, .unset, .unset, .unset] [(.int (2 : Int32))]))
    refine own_go (fun _ q => XS.iconst X8.here hx rfl (hb hby at_38) q) ?_
    show own_Go _ _ _ _ _ _ _ (T8.setTop (mkF m 39 #[.val (.int p0), .val (.int p1), .val (.int p2), .val (.int p3), .val (.int p4), .val (.int p5), .val (.int (2 : Int32)), .val (.ref b6), .unset, .unset, .unset, .unset, .unset, .unset] [(.int (2 : Int32)), (.int (2 : Int32))]))
    refine own_go (fun _ q => XS.icmpYes X8.here hx rfl (pc0 := 39) (pc' := 47) rfl (hb hby at_39) rfl (flt (by decide : ¬ ((2 : Int32) < (2 : Int32)))).2.2.2 (by decide) (by decide) q) ?_
    show own_Go _ _ _ _ _ _ _ (T8.setTop (mkF m 47 #[.val (.int p0), .val (.int p1), .val (.int p2), .val (.int p3), .val (.int p4), .val (.int p5), .val (.int (2 : Int32)), .val (.ref b6), .unset, .unset, .unset, .unset, .unset, .unset] []))
    refine own_go (fun _ q => XS.iload X8.here hx rfl (hb hby at_47) rfl q) ?_
    show own_Go _ _ _ _ _ _ _ (T8.setTop (mkF m 49 #[.val (.int p0), .val (.int p1), .val (.int p2), .val (.int p3), .val (.int p4), .val (.int p5), .val (.int (2 : Int32)), .val (.ref b6), .unset, .unset, .unset, .unset, .unset, .unset] [(.int (2 : Int32))]))
    refine own_go (fun _ q => XS.iconst X8.here hx rfl (hb hby at_49) q) ?_
    show own_Go _ _ _ _ _ _ _ (T8.setTop (mkF m 50 #[.val (.int p0), .val (.int p1), .val (.int p2), .val (.int p3), .val (.int p4), .val (.int p5), .val (.int (2 : Int32)), .val (.ref b6), .unset, .unset, .unset, .unset, .unset, .unset] [(.int (3 : Int32)), (.int (2 : Int32))]))
    refine own_go (fun _ q => XS.icmpYes X8.here hx rfl (pc0 := 50) (pc' := 59) rfl (hb hby at_50) rfl (flt (by decide : ¬ ((3 : Int32) < (2 : Int32)))).2.2.2 (by decide) (by decide) q) ?_
    show own_Go _ _ _ _ _ _ _ (T8.setTop (mkF m 59 #[.val (.int p0), .val (.int p1), .val (.int p2), .val (.int p3), .val (.int p4), .val (.int p5), .val (.int (2 : Int32)), .val (.ref b6), .unset, .unset, .unset, .unset, .unset, .unset] []))
    refine own_go (fun _ q => XS.iload X8.here hx rfl (hb hby at_59) rfl q) ?_
    show own_Go _ _ _ _ _ _ _ (T8.setTop (mkF m 61 #[.val (.int p0), .val (.int p1), .val (.int p2), .val (.int p3), .val (.int p4), .val (.int p5), .val (.int (2 : Int32)), .val (.ref b6), .unset, .unset, .unset, .unset, .unset, .unset] [(.int (2 : Int32))]))
    refine own_go (fun _ q => XS.iconst X8.here hx rfl (hb hby at_61) q) ?_
    show own_Go _ _ _ _ _ _ _ (T8.setTop (mkF m 62 #[.val (.int p0), .val (.int p1), .val (.int p2), .val (.int p3), .val (.int p4), .val (.int p5), .val (.int (2 : Int32)), .val (.ref b6), .unset, .unset, .unset, .unset, .unset, .unset] [(.int (4 : Int32)), (.int (2 : Int32))]))
    refine own_go (fun _ q => XS.icmpYes X8.here hx rfl (pc0 := 62) (pc' := 71) rfl (hb hby at_62) rfl (flt (by decide : ¬ ((4 : Int32) < (2 : Int32)))).2.2.2 (by decide) (by decide) q) ?_
    show own_Go _ _ _ _ _ _ _ (T8.setTop (mkF m 71 #[.val (.int p0), .val (.int p1), .val (.int p2), .val (.int p3), .val (.int p4), .val (.int p5), .val (.int (2 : Int32)), .val (.ref b6), .unset, .unset, .unset, .unset, .unset, .unset] []))
    refine own_go (fun _ q => XS.aload X8.here hx rfl (hb hby at_71) rfl rfl q) ?_
    show own_Go _ _ _ _ _ _ _ (T8.setTop (mkF m 73 #[.val (.int p0), .val (.int p1), .val (.int p2), .val (.int p3), .val (.int p4), .val (.int p5), .val (.int (2 : Int32)), .val (.ref b6), .unset, .unset, .unset, .unset, .unset, .unset] [(.ref b6)]))
    have A0 : own_Ar Z h8 b6 .int 2 (fun j => .int (own_f p1 p2 p3 p4 p5 j)) := A8.eqv (fun j hj => by
        have : j = 0 ∨ j = 1 := by omega
        rcases this with rfl | rfl <;> rfl)
    have Z1 : n0 ≤ h8.size := by have := A0.lt; omega
    refine own_static X8 hx hZ hown (hw _ (List.mem_of_getElem? (i := 2) rfl)) (hw _ (List.mem_of_getElem? (i := 3) rfl)) (hw _ (List.mem_of_getElem? (i := 4) rfl)) (hw _ (List.mem_of_getElem? (i := 5) rfl)) (by decide) e8 (argsL := [(.ref b6)]) (rest := []) (rm1 l Z a0 hw [] b6 (own_f p1 p2 p3 p4 p5) 2 h8 n0 Z1 A0 G6 (by decide) (2 : Int32) rfl) 0 (by decide) (by decide) (by decide) (by decide) (by rw [hml]; rfl) pd_0 rfl rfl (Nat.le_of_eq rfl) (hb hby at_73) rfl ?_
    intro v9 T9 L9 X9 hQ9
    obtain ⟨rfl, N9q, A9⟩ := hQ9
    have N9 := Fr.app N8 N9q
    show own_Go _ _ _ _ _ _ _ (T9.setTop (mkF m 76 #[.val (.int p0), .val (.int p1), .val (.int p2), .val (.int p3), .val (.int p4), .val (.int p5), .val (.int (2 : Int32)), .val (.ref b6), .unset, .unset, .unset, .unset, .unset, .unset] []))
    refine own_go (fun _ q => XS.iloadN X9.here hx rfl (hb hby at_76) rfl q) ?_
    show own_Go _ _ _ _ _ _ _ (T9.setTop (mkF m 77 #[.val (.int p0), .val (.int p1), .val (.int p2), .val (.int p3), .val (.int p4), .val (.int p5), .val (.int (2 : Int32)), .val (.ref b6), .unset, .unset, .unset, .unset, .unset, .unset] [(.int p1)]))
    refine own_go (fun _ q => XS.istore X9.here hx rfl (hb hby at_77) rfl (l' := #[.val (.int p0), .val (.int p1), .val (.int p2), .val (.int p3), .val (.int p4), .val (.int p5), .val (.int (2 : Int32)), .val (.ref b6), .val (.int p1), .unset, .unset, .unset, .unset, .unset]) rfl q) ?_
    show own_Go _ _ _ _ _ _ _ (T9.setTop (mkF m 79 #[.val (.int p0), .val (.int p1), .val (.int p2), .val (.int p3), .val (.int p4), .val (.int p5), .val (.int (2 : Int32)), .val (.ref b6), .val (.int p1), .unset, .unset, .unset, .unset, .unset] []))
    refine own_go (fun _ q => XS.iload X9.here hx rfl (hb hby at_79) rfl q) ?_
    show own_Go _ _ _ _ _ _ _ (T9.setTop (mkF m 81 #[.val (.int p0), .val (.int p1), .val (.int p2), .val (.int p3), .val (.int p4), .val (.int p5), .val (.int (2 : Int32)), .val (.ref b6), .val (.int p1), .unset, .unset, .unset, .unset, .unset] [(.int p1)]))
    refine own_go (fun _ q => XS.iloadN X9.here hx rfl (hb hby at_81) rfl q) ?_
    show own_Go _ _ _ _ _ _ _ (T9.setTop (mkF m 82 #[.val (.int p0), .val (.int p1), .val (.int p2), .val (.int p3), .val (.int p4), .val (.int p5), .val (.int (2 : Int32)), .val (.ref b6), .val (.int p1), .unset, .unset, .unset, .unset, .unset] [(.int p2), (.int p1)]))
    refine own_go (fun _ q => XS.iadd X9.here hx rfl (hb hby at_82) rfl q) ?_
    show own_Go _ _ _ _ _ _ _ (T9.setTop (mkF m 83 #[.val (.int p0), .val (.int p1), .val (.int p2), .val (.int p3), .val (.int p4), .val (.int p5), .val (.int (2 : Int32)), .val (.ref b6), .val (.int p1), .unset, .unset, .unset, .unset, .unset] [(.int (p1 + p2))]))
    refine own_go (fun _ q => XS.istore X9.here hx rfl (hb hby at_83) rfl (l' := #[.val (.int p0), .val (.int p1), .val (.int p2), .val (.int p3), .val (.int p4), .val (.int p5), .val (.int (2 : Int32)), .val (.ref b6), .val (.int p1), .val (.int (p1 + p2)), .unset, .unset, .unset, .unset]) rfl q) ?_
    show own_Go _ _ _ _ _ _ _ (T9.setTop (mkF m 85 #[.val (.int p0), .val (.int p1), .val (.int p2), .val (.int p3), .val (.int p4), .val (.int p5), .val (.int (2 : Int32)), .val (.ref b6), .val (.int p1), .val (.int (p1 + p2)), .unset, .unset, .unset, .unset] []))
    refine own_go (fun _ q => XS.iload X9.here hx rfl (hb hby at_85) rfl q) ?_
    show own_Go _ _ _ _ _ _ _ (T9.setTop (mkF m 87 #[.val (.int p0), .val (.int p1), .val (.int p2), .val (.int p3), .val (.int p4), .val (.int p5), .val (.int (2 : Int32)), .val (.ref b6), .val (.int p1), .val (.int (p1 + p2)), .unset, .unset, .unset, .unset] [(.int (p1 + p2))]))
    refine own_go (fun _ q => XS.iloadN X9.here hx rfl (hb hby at_87) rfl q) ?_
    show own_Go _ _ _ _ _ _ _ (T9.setTop (mkF m 88 #[.val (.int p0), .val (.int p1), .val (.int p2), .val (.int p3), .val (.int p4), .val (.int p5), .val (.int (2 : Int32)), .val (.ref b6), .val (.int p1), .val (.int (p1 + p2)), .unset, .unset, .unset, .unset] [(.int p3), (.int (p1 + p2))]))
    refine own_go (fun _ q => XS.iadd X9.here hx rfl (hb hby at_88) rfl q) ?_
    show own_Go _ _ _ _ _ _ _ (T9.setTop (mkF m 89 #[.val (.int p0), .val (.int p1), .val (.int p2), .val (.int p3), .val (.int p4), .val (.int p5), .val (.int (2 : Int32)), .val (.ref b6), .val (.int p1), .val (.int (p1 + p2)), .unset, .unset, .unset, .unset] [(.int ((p1 + p2) + p3))]))
    refine own_go (fun _ q => XS.istore X9.here hx rfl (hb hby at_89) rfl (l' := #[.val (.int p0), .val (.int p1), .val (.int p2), .val (.int p3), .val (.int p4), .val (.int p5), .val (.int (2 : Int32)), .val (.ref b6), .val (.int p1), .val (.int (p1 + p2)), .val (.int ((p1 + p2) + p3)), .unset, .unset, .unset]) rfl q) ?_
    show own_Go _ _ _ _ _ _ _ (T9.setTop (mkF m 91 #[.val (.int p0), .val (.int p1), .val (.int p2), .val (.int p3), .val (.int p4), .val (.int p5), .val (.int (2 : Int32)), .val (.ref b6), .val (.int p1), .val (.int (p1 + p2)), .val (.int ((p1 + p2) + p3)), .unset, .unset, .unset] []))
    refine own_go (fun _ q => XS.iload X9.here hx rfl (hb hby at_91) rfl q) ?_
    show own_Go _ _ _ _ _ _ _ (T9.setTop (mkF m 93 #[.val (.int p0), .val (.int p1), .val (.int p2), .val (.int p3), .val (.int p4), .val (.int p5), .val (.int (2 : Int32)), .val (.ref b6), .val (.int p1), .val (.int (p1 + p2)), .val (.int ((p1 + p2) + p3)), .unset, .unset, .unset] [(.int ((p1 + p2) + p3))]))
    refine own_go (fun _ q => XS.iload X9.here hx rfl (hb hby at_93) rfl q) ?_
    show own_Go _ _ _ _ _ _ _ (T9.setTop (mkF m 95 #[.val (.int p0), .val (.int p1), .val (.int p2), .val (.int p3), .val (.int p4), .val (.int p5), .val (.int (2 : Int32)), .val (.ref b6), .val (.int p1), .val (.int (p1 + p2)), .val (.int ((p1 + p2) + p3)), .unset, .unset, .unset] [(.int p4), (.int ((p1 + p2) + p3))]))
    refine own_go (fun _ q => XS.iadd X9.here hx rfl (hb hby at_95) rfl q) ?_
    show own_Go _ _ _ _ _ _ _ (T9.setTop (mkF m 96 #[.val (.int p0), .val (.int p1), .val (.int p2), .val (.int p3), .val (.int p4), .val (.int p5), .val (.int (2 : Int32)), .val (.ref b6), .val (.int p1), .val (.int (p1 + p2)), .val (.int ((p1 + p2) + p3)), .unset, .unset, .unset] [(.int (((p1 + p2) + p3) + p4))]))
    refine own_go (fun _ q => XS.istore X9.here hx rfl (hb hby at_96) rfl (l' := #[.val (.int p0), .val (.int p1), .val (.int p2), .val (.int p3), .val (.int p4), .val (.int p5), .val (.int (2 : Int32)), .val (.ref b6), .val (.int p1), .val (.int (p1 + p2)), .val (.int ((p1 + p2) + p3)), .val (.int (((p1 + p2) + p3) + p4)), .unset, .unset]) rfl q) ?_
    show own_Go _ _ _ _ _ _ _ (T9.setTop (mkF m 98 #[.val (.int p0), .val (.int p1), .val (.int p2), .val (.int p3), .val (.int p4), .val (.int p5), .val (.int (2 : Int32)), .val (.ref b6), .val (.int p1), .val (.int (p1 + p2)), .val (.int ((p1 + p2) + p3)), .val (.int (((p1 + p2) + p3) + p4)), .unset, .unset] []))
    refine own_go (fun _ q => XS.iload X9.here hx rfl (hb hby at_98) rfl q) ?_
    show own_Go _ _ _ _ _ _ _ (T9.setTop (mkF m 100 #[.val (.int p0), .val (.int p1), .val (.int p2), .val (.int p3), .val (.int p4), .val (.int p5), .val (.int (2 : Int32)), .val (.ref b6), .val (.int p1), .val (.int (p1 + p2)), .val (.int ((p1 + p2) + p3)), .val (.int (((p1 + p2) + p3) + p4)), .unset, .unset] [(.int (((p1 + p2) + p3) + p4))]))
    refine own_go (fun _ q => XS.iload X9.here hx rfl (hb hby at_100) rfl q) ?_
    show own_Go _ _ _ _ _ _ _ (T9.setTop (mkF m 102 #[.val (.int p0), .val (.int p1), .val (.int p2), .val (.int p3), .val (.int p4), .val (.int p5), .val (.int (2 : Int32)), .val (.ref b6), .val (.int p1), .val (.int (p1 + p2)), .val (.int ((p1 + p2) + p3)), .val (.int (((p1 + p2) + p3) + p4)), .unset, .unset] [(.int p5), (.int (((p1 + p2) + p3) + p4))]))
    refine own_go (fun _ q => XS.iadd X9.here hx rfl (hb hby at_102) rfl q) ?_
    show own_Go _ _ _ _ _ _ _ (T9.setTop (mkF m 103 #[.val (.int p0), .val (.int p1), .val (.int p2), .val (.int p3), .val (.int p4), .val (.int p5), .val (.int (2 : Int32)), .val (.ref b6), .val (.int p1), .val (.int (p1 + p2)), .val (.int ((p1 + p2) + p3)), .val (.int (((p1 + p2) + p3) + p4)), .unset, .unset] [(.int ((((p1 + p2) + p3) + p4) + p5))]))
    refine own_go (fun _ q => XS.istore X9.here hx rfl (hb hby at_103) rfl (l' := #[.val (.int p0), .val (.int p1), .val (.int p2), .val (.int p3), .val (.int p4), .val (.int p5), .val (.int (2 : Int32)), .val (.ref b6), .val (.int p1), .val (.int (p1 + p2)), .val (.int ((p1 + p2) + p3)), .val (.int (((p1 + p2) + p3) + p4)), .val (.int ((((p1 + p2) + p3) + p4) + p5)), .unset]) rfl q) ?_
    show own_Go _ _ _ _ _ _ _ (T9.setTop (mkF m 105 #[.val (.int p0), .val (.int p1), .val (.int p2), .val (.int p3), .val (.int p4), .val (.int p5), .val (.int (2 : Int32)), .val (.ref b6), .val (.int p1), .val (.int (p1 + p2)), .val (.int ((p1 + p2) + p3)), .val (.int (((p1 + p2) + p3) + p4)), .val (.int ((((p1 + p2) + p3) + p4) + p5)), .unset] []))
    refine own_go (fun _ q => XS.aload X9.here hx rfl (hb hby at_105) rfl rfl q) ?_
    show own_Go _ _ _ _ _ _ _ (T9.setTop (mkF m 107 #[.val (.int p0), .val (.int p1), .val (.int p2), .val (.int p3), .val (.int p4), .val (.int p5), .val (.int (2 : Int32)), .val (.ref b6), .val (.int p1), .val (.int (p1 + p2)), .val (.int ((p1 + p2) + p3)), .val (.int (((p1 + p2) + p3) + p4)), .val (.int ((((p1 + p2) + p3) + p4) + p5)), .unset] [(.ref b6)]))
    refine own_length (z := (2 : Int32)) X9 hx hZ rfl A9 rfl (hb hby at_107) rfl ?_
    show own_Go _ _ _ _ _ _ _ (T9.setTop (mkF m 108 #[.val (.int p0), .val (.int p1), .val (.int p2), .val (.int p3), .val (.int p4), .val (.int p5), .val (.int (2 : Int32)), .val (.ref b6), .val (.int p1), .val (.int (p1 + p2)), .val (.int ((p1 + p2) + p3)), .val (.int (((p1 + p2) + p3) + p4)), .val (.int ((((p1 + p2) + p3) + p4) + p5)), .unset] [(.int (2 : Int32))]))
    refine own_go (fun _ q => XS.iload X9.here hx rfl (hb hby at_108) rfl q) ?_
    show own_Go _ _ _ _ _ _ _ (T9.setTop (mkF m 110 #[.val (.int p0), .val (.int p1), .val (.int p2), .val (.int p3), .val (.int p4), .val (.int p5), .val (.int (2 : Int32)), .val (.ref b6), .val (.int p1), .val (.int (p1 + p2)), .val (.int ((p1 + p2) + p3)), .val (.int (((p1 + p2) + p3) + p4)), .val (.int ((((p1 + p2) + p3) + p4) + p5)), .unset] [(.int (2 : Int32)), (.int (2 : Int32))]))
    refine own_go (fun _ q => XS.icmpNo X9.here hx rfl (hb hby at_110) rfl (teq (by decide : (2 : Int32) = (2 : Int32))).2 q) ?_
    show own_Go _ _ _ _ _ _ _ (T9.setTop (mkF m 113 #[.val (.int p0), .val (.int p1), .val (.int p2), .val (.int p3), .val (.int p4), .val (.int p5), .val (.int (2 : Int32)), .val (.ref b6), .val (.int p1), .val (.int (p1 + p2)), .val (.int ((p1 + p2) + p3)), .val (.int (((p1 + p2) + p3) + p4)), .val (.int ((((p1 + p2) + p3) + p4) + p5)), .unset] []))
    refine own_go (fun _ q => XS.iconst X9.here hx rfl (hb hby at_113) q) ?_
    show own_Go _ _ _ _ _ _ _ (T9.setTop (mkF m 114 #[.val (.int p0), .val (.int p1), .val (.int p2), .val (.int p3), .val (.int p4), .val (.int p5), .val (.int (2 : Int32)), .val (.ref b6), .val (.int p1), .val (.int (p1 + p2)), .val (.int ((p1 + p2) + p3)), .val (.int (((p1 + p2) + p3) + p4)), .val (.int ((((p1 + p2) + p3) + p4) + p5)), .unset] [(.int (1 : Int32))]))
    refine own_go (fun _ q => XS.goto X9.here hx rfl (pc0 := 114) (pc' := 118) rfl (hb hby at_114) (by decide) (by decide) q) ?_
    show own_Go _ _ _ _ _ _ _ (T9.setTop (mkF m 118 #[.val (.int p0), .val (.int p1), .val (.int p2), .val (.int p3), .val (.int p4), .val (.int p5), .val (.int (2 : Int32)), .val (.ref b6), .val (.int p1), .val (.int (p1 + p2)), .val (.int ((p1 + p2) + p3)), .val (.int (((p1 + p2) + p3) + p4)), .val (.int ((((p1 + p2) + p3) + p4) + p5)), .unset] [(.int (1 : Int32))]))
    refine own_go (fun _ q => XS.istore X9.here hx rfl (hb hby at_118) rfl (l' := #[.val (.int p0), .val (.int p1), .val (.int p2), .val (.int p3), .val (.int p4), .val (.int p5), .val (.int (2 : Int32)), .val (.ref b6), .val (.int p1), .val (.int (p1 + p2)), .val (.int ((p1 + p2) + p3)), .val (.int (((p1 + p2) + p3) + p4)), .val (.int ((((p1 + p2) + p3) + p4) + p5)), .val (.int (1 : Int32))]) rfl q) ?_
    show own_Go _ _ _ _ _ _ _ (T9.setTop (mkF m 120 #[.val (.int p0), .val (.int p1), .val (.int p2), .val (.int p3), .val (.int p4), .val (.int p5), .val (.int (2 : Int32)), .val (.ref b6), .val (.int p1), .val (.int (p1 + p2)), .val (.int ((p1 + p2) + p3)), .val (.int (((p1 + p2) + p3) + p4)), .val (.int ((((p1 + p2) + p3) + p4) + p5)), .val (.int (1 : Int32))] []))
    refine own_go (fun _ q => XS.iload X9.here hx rfl (hb hby at_120) rfl q) ?_
    show own_Go _ _ _ _ _ _ _ (T9.setTop (mkF m 122 #[.val (.int p0), .val (.int p1), .val (.int p2), .val (.int p3), .val (.int p4), .val (.int p5), .val (.int (2 : Int32)), .val (.ref b6), .val (.int p1), .val (.int (p1 + p2)), .val (.int ((p1 + p2) + p3)), .val (.int (((p1 + p2) + p3) + p4)), .val (.int ((((p1 + p2) + p3) + p4) + p5)), .val (.int (1 : Int32))] [(.int (2 : Int32))]))
    refine own_go (fun _ q => XS.ifNo X9.here hx rfl (hb hby at_122) rfl ((if0 _ _).trans (tlt (by decide : (0 : Int32) < (2 : Int32))).2.2.2) q) ?_
    show own_Go _ _ _ _ _ _ _ (T9.setTop (mkF m 125 #[.val (.int p0), .val (.int p1), .val (.int p2), .val (.int p3), .val (.int p4), .val (.int p5), .val (.int (2 : Int32)), .val (.ref b6), .val (.int p1), .val (.int (p1 + p2)), .val (.int ((p1 + p2) + p3)), .val (.int (((p1 + p2) + p3) + p4)), .val (.int ((((p1 + p2) + p3) + p4) + p5)), .val (.int (1 : Int32))] []))
    refine own_go (fun _ q => XS.iload X9.here hx rfl (hb hby at_125) rfl q) ?_
    show own_Go _ _ _ _ _ _ _ (T9.setTop (mkF m 127 #[.val (.int p0), .val (.int p1), .val (.int p2), .val (.int p3), .val (.int p4), .val (.int p5), .val (.int (2 : Int32)), .val (.ref b6), .val (.int p1), .val (.int (p1 + p2)), .val (.int ((p1 + p2) + p3)), .val (.int (((p1 + p2) + p3) + p4)), .val (.int ((((p1 + p2) + p3) + p4) + p5)), .val (.int (1 : Int32))] [(.int (1 : Int32))]))
    refine own_go (fun _ q => XS.ifNo X9.here hx rfl (hb hby at_127) rfl ((if0 _ _).trans (feq (by decide : ¬ ((1 : Int32) = (0 : Int32)))).1) q) ?_
    show own_Go _ _ _ _ _ _ _ (T9.setTop (mkF m 130 #[.val (.int p0), .val (.int p1), .val (.int p2), .val (.int p3), .val (.int p4), .val (.int p5), .val (.int (2 : Int32)), .val (.ref b6), .val (.int p1), .val (.int (p1 + p2)), .val (.int ((p1 + p2) + p3)), .val (.int (((p1 + p2) + p3) + p4)), .val (.int ((((p1 + p2) + p3) + p4) + p5)), .val (.int (1 : Int32))] []))
    refine own_go (fun _ q => XS.aload X9.here hx rfl (hb hby at_130) rfl rfl q) ?_
    show own_Go _ _ _ _ _ _ _ (T9.setTop (mkF m 132 #[.val (.int p0), .val (.int p1), .val (.int p2), .val (.int p3), .val (.int p4), .val (.int p5), .val (.int (2 : Int32)), .val (.ref b6), .val (.int p1), .val (.int (p1 + p2)), .val (.int ((p1 + p2) + p3)), .val (.int (((p1 + p2) + p3) + p4)), .val (.int ((((p1 + p2) + p3) + p4) + p5)), .val (.int (1 : Int32))] [(.ref b6)]))
    refine own_go (fun _ q => XS.iconst X9.here hx rfl (hb hby at_132) q) ?_
    show own_Go _ _ _ _ _ _ _ (T9.setTop (mkF m 133 #[.val (.int p0), .val (.int p1), .val (.int p2), .val (.int p3), .val (.int p4), .val (.int p5), .val (.int (2 : Int32)), .val (.ref b6), .val (.int p1), .val (.int (p1 + p2)), .val (.int ((p1 + p2) + p3)), .val (.int (((p1 + p2) + p3) + p4)), .val (.int ((((p1 + p2) + p3) + p4) + p5)), .val (.int (1 : Int32))] [(.int (0 : Int32)), (.ref b6)]))
    refine own_iaload X9 hx hZ rfl (i := 0) A9 rfl (by decide) rfl (hb hby at_133) rfl ?_
    show own_Go _ _ _ _ _ _ _ (T9.setTop (mkF m 134 #[.val (.int p0), .val (.int p1), .val (.int p2), .val (.int p3), .val (.int p4), .val (.int p5), .val (.int (2 : Int32)), .val (.ref b6), .val (.int p1), .val (.int (p1 + p2)), .val (.int ((p1 + p2) + p3)), .val (.int (((p1 + p2) + p3) + p4)), .val (.int ((((p1 + p2) + p3) + p4) + p5)), .val (.int (1 : Int32))] [(.int p1)]))
    refine own_go (fun _ q => XS.iload X9.here hx rfl (hb hby at_134) rfl q) ?_
    show own_Go _ _ _ _ _ _ _ (T9.setTop (mkF m 136 #[.val (.int p0), .val (.int p1), .val (.int p2), .val (.int p3), .val (.int p4), .val (.int p5), .val (.int (2 : Int32)), .val (.ref b6), .val (.int p1), .val (.int (p1 + p2)), .val (.int ((p1 + p2) + p3)), .val (.int (((p1 + p2) + p3) + p4)), .val (.int ((((p1 + p2) + p3) + p4) + p5)), .val (.int (1 : Int32))] [(.int p1), (.int p1)]))
    refine own_go (fun _ q => XS.icmpNo X9.here hx rfl (hb hby at_136) rfl (teq rfl).2 q) ?_
    show own_Go _ _ _ _ _ _ _ (T9.setTop (mkF m 139 #[.val (.int p0), .val (.int p1), .val (.int p2), .val (.int p3), .val (.int p4), .val (.int p5), .val (.int (2 : Int32)), .val (.ref b6), .val (.int p1), .val (.int (p1 + p2)), .val (.int ((p1 + p2) + p3)), .val (.int (((p1 + p2) + p3) + p4)), .val (.int ((((p1 + p2) + p3) + p4) + p5)), .val (.int (1 : Int32))] []))
    refine own_go (fun _ q => XS.iconst X9.here hx rfl (hb hby at_139) q) ?_
    show own_Go _ _ _ _ _ _ _ (T9.setTop (mkF m 140 #[.val (.int p0), .val (.int p1), .val (.int p2), .val (.int p3), .val (.int p4), .val (.int p5), .val (.int (2 : Int32)), .val (.ref b6), .val (.int p1), .val (.int (p1 + p2)), .val (.int ((p1 + p2) + p3)), .val (.int (((p1 + p2) + p3) + p4)), .val (.int ((((p1 + p2) + p3) + p4) + p5)), .val (.int (1 : Int32))] [(.int (1 : Int32))]))
    refine own_go (fun _ q => XS.goto X9.here hx rfl (pc0 := 140) (pc' := 144) rfl (hb hby at_140) (by decide) (by decide) q) ?_
    show own_Go _ _ _ _ _ _ _ (T9.setTop (mkF m 144 #[.val (.int p0), .val (.int p1), .val (.int p2), .val (.int p3), .val (.int p4), .val (.int p5), .val (.int (2 : Int32)), .val (.ref b6), .val (.int p1), .val (.int (p1 + p2)), .val (.int ((p1 + p2) + p3)), .val (.int (((p1 + p2) + p3) + p4)), .val (.int ((((p1 + p2) + p3) + p4) + p5)), .val (.int (1 : Int32))] [(.int (1 : Int32))]))
    refine own_go (fun _ q => XS.istore X9.here hx rfl (hb hby at_144) rfl (l' := #[.val (.int p0), .val (.int p1), .val (.int p2), .val (.int p3), .val (.int p4), .val (.int p5), .val (.int (2 : Int32)), .val (.ref b6), .val (.int p1), .val (.int (p1 + p2)), .val (.int ((p1 + p2) + p3)), .val (.int (((p1 + p2) + p3) + p4)), .val (.int ((((p1 + p2) + p3) + p4) + p5)), .val (.int (1 : Int32))]) rfl q) ?_
    show own_Go _ _ _ _ _ _ _ (T9.setTop (mkF m 146 #[.val (.int p0), .val (.int p1), .val (.int p2), .val (.int p3), .val (.int p4), .val (.int p5), .val (.int (2 : Int32)), .val (.ref b6), .val (.int p1), .val (.int (p1 + p2)), .val (.int ((p1 + p2) + p3)), .val (.int (((p1 + p2) + p3) + p4)), .val (.int ((((p1 + p2) + p3) + p4) + p5)), .val (.int (1 : Int32))] []))
    refine own_go (fun _ q => XS.iload X9.here hx rfl (hb hby at_146) rfl q) ?_
    show own_Go _ _ _ _ _ _ _ (T9.setTop (mkF m 148 #[.val (.int p0), .val (.int p1), .val (.int p2), .val (.int p3), .val (.int p4), .val (.int p5), .val (.int (2 : Int32)), .val (.ref b6), .val (.int p1), .val (.int (p1 + p2)), .val (.int ((p1 + p2) + p3)), .val (.int (((p1 + p2) + p3) + p4)), .val (.int ((((p1 + p2) + p3) + p4) + p5)), .val (.int (1 : Int32))] [(.int (2 : Int32))]))
    refine own_go (fun _ q => XS.iconst X9.here hx rfl (hb hby at_148) q) ?_
    show own_Go _ _ _ _ _ _ _ (T9.setTop (mkF m 149 #[.val (.int p0), .val (.int p1), .val (.int p2), .val (.int p3), .val (.int p4), .val (.int p5), .val (.int (2 : Int32)), .val (.ref b6), .val (.int p1), .val (.int (p1 + p2)), .val (.int ((p1 + p2) + p3)), .val (.int (((p1 + p2) + p3) + p4)), .val (.int ((((p1 + p2) + p3) + p4) + p5)), .val (.int (1 : Int32))] [(.int (1 : Int32)), (.int (2 : Int32))]))
    refine own_go (fun _ q => XS.icmpNo X9.here hx rfl (hb hby at_149) rfl (tlt (by decide : (1 : Int32) < (2 : Int32))).2.2.2 q) ?_
    show own_Go _ _ _ _ _ _ _ (T9.setTop (mkF m 152 #[.val (.int p0), .val (.int p1), .val (.int p2), .val (.int p3), .val (.int p4), .val (.int p5), .val (.int (2 : Int32)), .val (.ref b6), .val (.int p1), .val (.int (p1 + p2)), .val (.int ((p1 + p2) + p3)), .val (.int (((p1 + p2) + p3) + p4)), .val (.int ((((p1 + p2) + p3) + p4) + p5)), .val (.int (1 : Int32))] []))
    refine own_go (fun _ q => XS.iload X9.here hx rfl (hb hby at_152) rfl q) ?_
    show own_Go _ _ _ _ _ _ _ (T9.setTop (mkF m 154 #[.val (.int p0), .val (.int p1), .val (.int p2), .val (.int p3), .val (.int p4), .val (.int p5), .val (.int (2 : Int32)), .val (.ref b6), .val (.int p1), .val (.int (p1 + p2)), .val (.int ((p1 + p2) + p3)), .val (.int (((p1 + p2) + p3) + p4)), .val (.int ((((p1 + p2) + p3) + p4) + p5)), .val (.int (1 : Int32))] [(.int (1 : Int32))]))
    refine own_go (fun _ q => XS.ifNo X9.here hx rfl (hb hby at_154) rfl ((if0 _ _).trans (feq (by decide : ¬ ((1 : Int32) = (0 : Int32)))).1) q) ?_
    show own_Go _ _ _ _ _ _ _ (T9.setTop (mkF m 157 #[.val (.int p0), .val (.int p1), .val (.int p2), .val (.int p3), .val (.int p4), .val (.int p5), .val (.int (2 : Int32)), .val (.ref b6), .val (.int p1), .val (.int (p1 + p2)), .val (.int ((p1 + p2) + p3)), .val (.int (((p1 + p2) + p3) + p4)), .val (.int ((((p1 + p2) + p3) + p4) + p5)), .val (.int (1 : Int32))] []))
    refine own_go (fun _ q => XS.aload X9.here hx rfl (hb hby at_157) rfl rfl q) ?_
    show own_Go _ _ _ _ _ _ _ (T9.setTop (mkF m 159 #[.val (.int p0), .val (.int p1), .val (.int p2), .val (.int p3), .val (.int p4), .val (.int p5), .val (.int (2 : Int32)), .val (.ref b6), .val (.int p1), .val (.int (p1 + p2)), .val (.int ((p1 + p2) + p3)), .val (.int (((p1 + p2) + p3) + p4)), .val (.int ((((p1 + p2) + p3) + p4) + p5)), .val (.int (1 : Int32))] [(.ref b6)]))
    refine own_go (fun _ q => XS.iconst X9.here hx rfl (hb hby at_159) q) ?_
    show own_Go _ _ _ _ _ _ _ (T9.setTop (mkF m 160 #[.val (.int p0), .val (.int p1), .val (.int p2), .val (.int p3), .val (.int p4), .val (.int p5), .val (.int (2 : Int32)), .val (.ref b6), .val (.int p1), .val (.int (p1 + p2)), .val (.int ((p1 + p2) + p3)), .val (.int (((p1 + p2) + p3) + p4)), .val (.int ((((p1 + p2) + p3) + p4) + p5)), .val (.int (1 : Int32))] [(.int (1 : Int32)), (.ref b6)]))
    refine own_iaload X9 hx hZ rfl (i := 1) A9 rfl (by decide) rfl (hb hby at_160) rfl ?_
    show own_Go _ _ _ _ _ _ _ (T9.setTop (mkF m 161 #[.val (.int p0), .val (.int p1), .val (.int p2), .val (.int p3), .val (.int p4), .val (.int p5), .val (.int (2 : Int32)), .val (.ref b6), .val (.int p1), .val (.int (p1 + p2)), .val (.int ((p1 + p2) + p3)), .val (.int (((p1 + p2) + p3) + p4)), .val (.int ((((p1 + p2) + p3) + p4) + p5)), .val (.int (1 : Int32))] [(.int (p1 + p2))]))
    refine own_go (fun _ q => XS.iload X9.here hx rfl (hb hby at_161) rfl q) ?_
    show own_Go _ _ _ _ _ _ _ (T9.setTop (mkF m 163 #[.val (.int p0), .val (.int p1), .val (.int p2), .val (.int p3), .val (.int p4), .val (.int p5), .val (.int (2 : Int32)), .val (.ref b6), .val (.int p1), .val (.int (p1 + p2)), .val (.int ((p1 + p2) + p3)), .val (.int (((p1 + p2) + p3) + p4)), .val (.int ((((p1 + p2) + p3) + p4) + p5)), .val (.int (1 : Int32))] [(.int (p1 + p2)), (.int (p1 + p2))]))
    refine own_go (fun _ q => XS.icmpNo X9.here hx rfl (hb hby at_163) rfl (teq rfl).2 q) ?_
    show own_Go _ _ _ _ _ _ _ (T9.setTop (mkF m 166 #[.val (.int p0), .val (.int p1), .val (.int p2), .val (.int p3), .val (.int p4), .val (.int p5), .val (.int (2 : Int32)), .val (.ref b6), .val (.int p1), .val (.int (p1 + p2)), .val (.int ((p1 + p2) + p3)), .val (.int (((p1 + p2) + p3) + p4)), .val (.int ((((p1 + p2) + p3) + p4) + p5)), .val (.int (1 : Int32))] []))
    refine own_go (fun _ q => XS.iconst X9.here hx rfl (hb hby at_166) q) ?_
    show own_Go _ _ _ _ _ _ _ (T9.setTop (mkF m 167 #[.val (.int p0), .val (.int p1), .val (.int p2), .val (.int p3), .val (.int p4), .val (.int p5), .val (.int (2 : Int32)), .val (.ref b6), .val (.int p1), .val (.int (p1 + p2)), .val (.int ((p1 + p2) + p3)), .val (.int (((p1 + p2) + p3) + p4)), .val (.int ((((p1 + p2) + p3) + p4) + p5)), .val (.int (1 : Int32))] [(.int (1 : Int32))]))
    refine own_go (fun _ q => XS.goto X9.here hx rfl (pc0 := 167) (pc' := 171) rfl (hb hby at_167) (by decide) (by decide) q) ?_
    show own_Go _ _ _ _ _ _ _ (T9.setTop (mkF m 171 #[.val (.int p0), .val (.int p1), .val (.int p2), .val (.int p3), .val (.int p4), .val (.int p5), .val (.int (2 : Int32)), .val (.ref b6), .val (.int p1), .val (.int (p1 + p2)), .val (.int ((p1 + p2) + p3)), .val (.int (((p1 + p2) + p3) + p4)), .val (.int ((((p1 + p2) + p3) + p4) + p5)), .val (.int (1 : Int32))] [(.int (1 : Int32))]))
    refine own_go (fun _ q => XS.istore X9.here hx rfl (hb hby at_171) rfl (l' := #[.val (.int p0), .val (.int p1), .val (.int p2), .val (.int p3), .val (.int p4), .val (.int p5), .val (.int (2 : Int32)), .val (.ref b6), .val (.int p1), .val (.int (p1 + p2)), .val (.int ((p1 + p2) + p3)), .val (.int (((p1 + p2) + p3) + p4)), .val (.int ((((p1 + p2) + p3) + p4) + p5)), .val (.int (1 : Int32))]) rfl q) ?_
    show own_Go _ _ _ _ _ _ _ (T9.setTop (mkF m 173 #[.val (.int p0), .val (.int p1), .val (.int p2), .val (.int p3), .val (.int p4), .val (.int p5), .val (.int (2 : Int32)), .val (.ref b6), .val (.int p1), .val (.int (p1 + p2)), .val (.int ((p1 + p2) + p3)), .val (.int (((p1 + p2) + p3) + p4)), .val (.int ((((p1 + p2) + p3) + p4) + p5)), .val (.int (1 : Int32))] []))
    refine own_go (fun _ q => XS.iload X9.here hx rfl (hb hby at_173) rfl q) ?_
    show own_Go _ _ _ _ _ _ _ (T9.setTop (mkF m 175 #[.val (.int p0), .val (.int p1), .val (.int p2), .val (.int p3), .val (.int p4), .val (.int p5), .val (.int (2 : Int32)), .val (.ref b6), .val (.int p1), .val (.int (p1 + p2)), .val (.int ((p1 + p2) + p3)), .val (.int (((p1 + p2) + p3) + p4)), .val (.int ((((p1 + p2) + p3) + p4) + p5)), .val (.int (1 : Int32))] [(.int (2 : Int32))]))
    refine own_go (fun _ q => XS.iconst X9.here hx rfl (hb hby at_175) q) ?_
    show own_Go _ _ _ _ _ _ _ (T9.setTop (mkF m 176 #[.val (.int p0), .val (.int p1), .val (.int p2), .val (.int p3), .val (.int p4), .val (.int p5), .val (.int (2 : Int32)), .val (.ref b6), .val (.int p1), .val (.int (p1 + p2)), .val (.int ((p1 + p2) + p3)), .val (.int (((p1 + p2) + p3) + p4)), .val (.int ((((p1 + p2) + p3) + p4) + p5)), .val (.int (1 : Int32))] [(.int (2 : Int32)), (.int (2 : Int32))]))
    refine own_go (fun _ q => XS.icmpYes X9.here hx rfl (pc0 := 176) (pc' := 200) rfl (hb hby at_176) rfl (flt (by decide : ¬ ((2 : Int32) < (2 : Int32)))).2.2.2 (by decide) (by decide) q) ?_
    show own_Go _ _ _ _ _ _ _ (T9.setTop (mkF m 200 #[.val (.int p0), .val (.int p1), .val (.int p2), .val (.int p3), .val (.int p4), .val (.int p5), .val (.int (2 : Int32)), .val (.ref b6), .val (.int p1), .val (.int (p1 + p2)), .val (.int ((p1 + p2) + p3)), .val (.int (((p1 + p2) + p3) + p4)), .val (.int ((((p1 + p2) + p3) + p4) + p5)), .val (.int (1 : Int32))] []))
    refine own_go (fun _ q => XS.iload X9.here hx rfl (hb hby at_200) rfl q) ?_
    show own_Go _ _ _ _ _ _ _ (T9.setTop (mkF m 202 #[.val (.int p0), .val (.int p1), .val (.int p2), .val (.int p3), .val (.int p4), .val (.int p5), .val (.int (2 : Int32)), .val (.ref b6), .val (.int p1), .val (.int (p1 + p2)), .val (.int ((p1 + p2) + p3)), .val (.int (((p1 + p2) + p3) + p4)), .val (.int ((((p1 + p2) + p3) + p4) + p5)), .val (.int (1 : Int32))] [(.int (2 : Int32))]))
    refine own_go (fun _ q => XS.iconst X9.here hx rfl (hb hby at_202) q) ?_
    show own_Go _ _ _ _ _ _ _ (T9.setTop (mkF m 203 #[.val (.int p0), .val (.int p1), .val (.int p2), .val (.int p3), .val (.int p4), .val (.int p5), .val (.int (2 : Int32)), .val (.ref b6), .val (.int p1), .val (.int (p1 + p2)), .val (.int ((p1 + p2) + p3)), .val (.int (((p1 + p2) + p3) + p4)), .val (.int ((((p1 + p2) + p3) + p4) + p5)), .val (.int (1 : Int32))] [(.int (3 : Int32)), (.int (2 : Int32))]))
    refine own_go (fun _ q => XS.icmpYes X9.here hx rfl (pc0 := 203) (pc' := 227) rfl (hb hby at_203) rfl (flt (by decide : ¬ ((3 : Int32) < (2 : Int32)))).2.2.2 (by decide) (by decide) q) ?_
    show own_Go _ _ _ _ _ _ _ (T9.setTop (mkF m 227 #[.val (.int p0), .val (.int p1), .val (.int p2), .val (.int p3), .val (.int p4), .val (.int p5), .val (.int (2 : Int32)), .val (.ref b6), .val (.int p1), .val (.int (p1 + p2)), .val (.int ((p1 + p2) + p3)), .val (.int (((p1 + p2) + p3) + p4)), .val (.int ((((p1 + p2) + p3) + p4) + p5)), .val (.int (1 : Int32))] []))
    refine own_go (fun _ q => XS.iload X9.here hx rfl (hb hby at_227) rfl q) ?_
    show own_Go _ _ _ _ _ _ _ (T9.setTop (mkF m 229 #[.val (.int p0), .val (.int p1), .val (.int p2), .val (.int p3), .val (.int p4), .val (.int p5), .val (.int (2 : Int32)), .val (.ref b6), .val (.int p1), .val (.int (p1 + p2)), .val (.int ((p1 + p2) + p3)), .val (.int (((p1 + p2) + p3) + p4)), .val (.int ((((p1 + p2) + p3) + p4) + p5)), .val (.int (1 : Int32))] [(.int (2 : Int32))]))
    refine own_go (fun _ q => XS.iconst X9.here hx rfl (hb hby at_229) q) ?_
    show own_Go _ _ _ _ _ _ _ (T9.setTop (mkF m 230 #[.val (.int p0), .val (.int p1), .val (.int p2), .val (.int p3), .val (.int p4), .val (.int p5), .val (.int (2 : Int32)), .val (.ref b6), .val (.int p1), .val (.int (p1 + p2)), .val (.int ((p1 + p2) + p3)), .val (.int (((p1 + p2) + p3) + p4)), .val (.int ((((p1 + p2) + p3) + p4) + p5)), .val (.int (1 : Int32))] [(.int (4 : Int32)), (.int (2 : Int32))]))
    refine own_go (fun _ q => XS.icmpYes X9.here hx rfl (pc0 := 230) (pc' := 254) rfl (hb hby at_230) rfl (flt (by decide : ¬ ((4 : Int32) < (2 : Int32)))).2.2.2 (by decide) (by decide) q) ?_
    show own_Go _ _ _ _ _ _ _ (T9.setTop (mkF m 254 #[.val (.int p0), .val (.int p1), .val (.int p2), .val (.int p3), .val (.int p4), .val (.int p5), .val (.int (2 : Int32)), .val (.ref b6), .val (.int p1), .val (.int (p1 + p2)), .val (.int ((p1 + p2) + p3)), .val (.int (((p1 + p2) + p3) + p4)), .val (.int ((((p1 + p2) + p3) + p4) + p5)), .val (.int (1 : Int32))] []))
    refine own_go (fun _ q => XS.iload X9.here hx rfl (hb hby at_254) rfl q) ?_
    show own_Go _ _ _ _ _ _ _ (T9.setTop (mkF m 256 #[.val (.int p0), .val (.int p1), .val (.int p2), .val (.int p3), .val (.int p4), .val (.int p5), .val (.int (2 : Int32)), .val (.ref b6), .val (.int p1), .val (.int (p1 + p2)), .val (.int ((p1 + p2) + p3)), .val (.int (((p1 + p2) + p3) + p4)), .val (.int ((((p1 + p2) + p3) + p4) + p5)), .val (.int (1 : Int32))] [(.int (1 : Int32))]))
    exact own_retZ X9 hx hlk hret (hb hby at_256) (by decide) (by decide) (by decide) ⟨rfl, N9⟩
  · rw [q]
    show own_Go _ _ _ _ _ _ _ (s₁.setTop (mkF m 11 #[.val (.int p0), .val (.int p1), .val (.int p2), .val (.int p3), .val (.int p4), .val (.int p5), .val (.int (3 : Int32)), .unset, .unset, .unset, .unset, .unset, .unset, .unset] [(.int (3 : Int32))]))
    obtain ⟨T10, h10, k10, X10, e10, E10, Aw10, st10⟩ := newP X0 hx hZ (hw _ (List.mem_of_getElem? (i := 1) rfl)) e0 (g := (mkF m 11 #[.val (.int p0), .val (.int p1), .val (.int p2), .val (.int p3), .val (.int p4), .val (.int p5), .val (.int (3 : Int32)), .unset, .unset, .unset, .unset, .unset, .unset, .unset] [(.int (3 : Int32))])) rfl (hb hby at_11) rfl (by decide) (cap := 3) (by decide) (by decide) (by decide) (by decide)
    obtain ⟨b10, g10⟩ : ∃ z, z = h0.size := ⟨_, rfl⟩
    rw [← g10] at Aw10 st10
    have A10 := own_Ar.new (nn := 3) Aw10 (by decide) rfl
    have G10 : n0 ≤ b10 := by have := Z0; omega
    have Z10 : n0 ≤ h10.size := Nat.le_trans Z0 E10.1
    refine own_go st10 ?_
    show own_Go _ _ _ _ _ _ _ (T10.setTop (mkF m 13 #[.val (.int p0), .val (.int p1), .val (.int p2), .val (.int p3), .val (.int p4), .val (.int p5), .val (.int (3 : Int32)), .unset, .unset, .unset, .unset, .unset, .unset, .unset] [(.ref b10)]))
    have G10 : n0 ≤ b10 := Nat.le_trans Z0 (Nat.le_of_eq g10.symm)
    refine own_go (fun _ q => XS.astore X10.here hx rfl (hb hby at_13) rfl rfl (l' := #[.val (.int p0), .val (.int p1), .val (.int p2), .val (.int p3), .val (.int p4), .val (.int p5), .val (.int (3 : Int32)), .val (.ref b10), .unset, .unset, .unset, .unset, .unset, .unset]) rfl q) ?_
    show own_Go _ _ _ _ _ _ _ (T10.setTop (mkF m 15 #[.val (.int p0), .val (.int p1), .val (.int p2), .val (.int p3), .val (.int p4), .val (.int p5), .val (.int (3 : Int32)), .val (.ref b10), .unset, .unset, .unset, .unset, .unset, .unset] []))
    refine own_go (fun _ q => XS.iload X10.here hx rfl (hb hby at_15) rfl q) ?_
    show own_Go _ _ _ _ _ _ _ (T10.setTop (mkF m 17 #[.val (.int p0), .val (.int p1), .val (.int p2), .val (.int p3), .val (.int p4), .val (.int p5), .val (.int (3 : Int32)), .val (.ref b10), .unset, .unset, .unset, .unset, .unset, .unset] [(.int (3 : Int32))]))
    refine own_go (fun _ q => XS.ifNo X10.here hx rfl (hb hby at_17) rfl ((if0 _ _).trans (tlt (by decide : (0 : Int32) < (3 : Int32))).2.2.2) q) ?_
    show own_Go _ _ _ _ _ _ _ (T10.setTop (mkF m 20 #[.val (.int p0), .val (.int p1), .val (.int p2), .val (.int p3), .val (.int p4), .val (.int p5), .val (.int (3 : Int32)), .val (.ref b10), .unset, .unset, .unset, .unset, .unset, .unset] []))
    refine own_go (fun _ q => XS.aload X10.here hx rfl (hb hby at_20) rfl rfl q) ?_
    show own_Go _ _ _ _ _ _ _ (T10.setTop (mkF m 22 #[.val (.int p0), .val (.int p1), .val (.int p2), .val (.int p3), .val (.int p4), .val (.int p5), .val (.int (3 : Int32)), .val (.ref b10), .unset, .unset, .unset, .unset, .unset, .unset] [(.ref b10)]))
    refine own_go (fun _ q => XS.iconst X10.here hx rfl (hb hby at_22) q) ?_
    show own_Go _ _ _ _ _ _ _ (T10.setTop (mkF m 23 #[.val (.int p0), .val (.int p1), .val (.int p2), .val (.int p3), .val (.int p4), .val (.int p5), .val (.int (3 : Int32)), .val (.ref b10), .unset, .unset, .unset, .unset, .unset, .unset] [(.int (0 : Int32)), (.ref b10)]))
    refine own_go (fun _ q => XS.iloadN X10.here hx rfl (hb hby at_23) rfl q) ?_
    show own_Go _ _ _ _ _ _ _ (T10.setTop (mkF m 24 #[.val (.int p0), .val (.int p1), .val (.int p2), .val (.int p3), .val (.int p4), .val (.int p5), .val (.int (3 : Int32)), .val (.ref b10), .unset, .unset, .unset, .unset, .unset, .unset] [(.int p1), (.int (0 : Int32)), (.ref b10)]))
    refine own_iastore X10 hx hZ e10 (i := 0) A10 rfl (by decide) (hb hby at_24) rfl ?_
    intro T11 h11 X11 e11 W11 A11
    have N11 := Fr.snoc X11 N0 G10
    have Z11 : n0 ≤ h11.size := by rw [W11.size]; exact Z10
    show own_Go _ _ _ _ _ _ _ (T11.setTop (mkF m 25 #[.val (.int p0), .val (.int p1), .val (.int p2), .val (.int p3), .val (.int p4), .val (.int p5), .val (.int (3 : Int32)), .val (.ref b10), .unset, .unset, .unset, .unset, .unset, .unset] []))
    refine own_go (fun _ q => XS.iload X11.here hx rfl (hb hby at_25) rfl q) ?_
    show own_Go _ _ _ _ _ _ _ (T11.setTop (mkF m 27 #[.val (.int p0), .val (.int p1), .val (.int p2), .val (.int p3), .val (.int p4), .val (.int p5), .val (.int (3 : Int32)), .val (.ref b10), .unset, .unset, .unset, .unset, .unset, .unset] [(.int (3 : Int32))]))
    refine own_go (fun _ q => XS.iconst X11.here hx rfl (hb hby at_27) q) ?_
    show own_Go _ _ _ _ _ _ _ (T11.setTop (mkF m 28 #[.val (.int p0), .val (.int p1), .val (.int p2), .val (.int p3), .val (.int p4), .val (.int p5), .val (.int (3 : Int32)), .val (.ref b10), .unset, .unset, .unset, .unset, .unset, .unset] [(.int (1 : Int32)), (.int (3 : Int32))]))
    refine own_go (fun _ q => XS.icmpNo X11.here hx rfl (hb hby at_28) rfl (tlt (by decide : (1 : Int32) < (3 : Int32))).2.2.2 q) ?_
    show own_Go _ _ _ _ _ _ _ (T11.setTop (mkF m 31 #[.val (.int p0), .val (.int p1), .val (.int p2), .val (.int p3), .val (.int p4), .val (.int p5), .val (.int (3 : Int32)), .val (.ref b10), .unset, .unset, .unset, .unset, .unset, .unset] []))
    refine own_go (fun _ q => XS.aload X11.here hx rfl (hb hby at_31) rfl rfl q) ?_
    show own_Go _ _ _ _ _ _ _ (T11.setTop (mkF m 33 #[.val (.int p0), .val (.int p1), .val (.int p2), .val (.int p3), .val (.int p4), .val (.int p5), .val (.int (3 : Int32)), .val (.ref b10), .unset, .unset, .unset, .unset, .unset, .unset] [(.ref b10)]))
    refine own_go (fun _ q => XS.iconst X11.here hx rfl (hb hby at_33) q) ?_
    show own_Go _ _ _ _ _ _ _ (T11.setTop (mkF m 34 #[.val (.int p0), .val (.int p1), .val (.int p2), .val (.int p3), .val (.int p4), .val (.int p5), .val (.int (3 : Int32)), .val (.ref b10), .unset, .unset, .unset, .unset, .unset, .unset] [(.int (1 : Int32)), (.ref b10)]))
    refine own_go (fun _ q => XS.iloadN X11.here hx rfl (hb hby at_34) rfl q) ?_
    show own_Go _ _ _ _ _ _ _ (T11.setTop (mkF m 35 #[.val (.int p0), .val (.int p1), .val (.int p2), .val (.int p3), .val (.int p4), .val (.int p5), .val (.int (3 : Int32)), .val (.ref b10), .unset, .unset, .unset, .unset, .unset, .unset] [(.int p2), (.int (1 : Int32)), (.ref b10)]))
    refine own_iastore X11 hx hZ e11 (i := 1) A11 rfl (by decide) (hb hby at_35) rfl ?_
    intro T12 h12 X12 e12 W12 A12
    have N12 := Fr.snoc X12 N11 G10
    have Z12 : n0 ≤ h12.size := by rw [W12.size]; exact Z11
    show own_Go _ _ _ _ _ _ _ (T12.setTop (mkF m 36 #[.val (.int p0), .val (.int p1), .val (.int p2), .val (.int p3), .val (.int p4), .val (.int p5), .val (.int (3 : Int32)), .val (.ref b10), .unset, .unset, .unset, .unset, .unset, .unset] []))
    refine own_go (fun _ q => XS.iload X12.here hx rfl (hb hby at_36) rfl q) ?_
    show own_Go _ _ _ _ _ _ _ (T12.setTop (mkF m 38 #[.val (.int p0), .val (.int p1), .val (.int p2), .val (.int p3), .val (.int p4), .val (.int p5), .val (.int (3 : Int32)), .val (.ref b10), .unset, .unset, .unset, .unset, .unset, .unset] [(.int (3 : Int32))]))
    refine own_go (fun _ q => XS.iconst X12.here hx rfl (hb hby at_38) q) ?_
    show own_Go _ _ _ _ _ _ _ (T12.setTop (mkF m 39 #[.val (.int p0), .val (.int p1), .val (.int p2), .val (.int p3), .val (.int p4), .val (.int p5), .val (.int (3 : Int32)), .val (.ref b10), .unset, .unset, .unset, .unset, .unset, .unset] [(.int (2 : Int32)), (.int (3 : Int32))]))
    refine own_go (fun _ q => XS.icmpNo X12.here hx rfl (hb hby at_39) rfl (tlt (by decide : (2 : Int32) < (3 : Int32))).2.2.2 q) ?_
    show own_Go _ _ _ _ _ _ _ (T12.setTop (mkF m 42 #[.val (.int p0), .val (.int p1), .val (.int p2), .val (.int p3), .val (.int p4), .val (.int p5), .val (.int (3 : Int32)), .val (.ref b10), .unset, .unset, .unset, .unset, .unset, .unset] []))
    refine own_go (fun _ q => XS.aload X12.here hx rfl (hb hby at_42) rfl rfl q) ?_
    show own_Go _ _ _ _ _ _ _ (T12.setTop (mkF m 44 #[.val (.int p0), .val (.int p1), .val (.int p2), .val (.int p3), .val (.int p4), .val (.int p5), .val (.int (3 : Int32)), .val (.ref b10), .unset, .unset, .unset, .unset, .unset, .unset] [(.ref b10)]))
    refine own_go (fun _ q => XS.iconst X12.here hx rfl (hb hby at_44) q) ?_
    show own_Go _ _ _ _ _ _ _ (T12.setTop (mkF m 45 #[.val (.int p0), .val (.int p1), .val (.int p2), .val (.int p3), .val (.int p4), .val (.int p5), .val (.int (3 : Int32)), .val (.ref b10), .unset, .unset, .unset, .unset, .unset, .unset] [(.int (2 : Int32)), (.ref b10)]))
    refine own_go (fun _ q => XS.iloadN X12.here hx rfl (hb hby at_45) rfl q) ?_
    show own_Go _ _ _ _ _ _ _ (T12.setTop (mkF m 46 #[.val (.int p0), .val (.int p1), .val (.int p2), .val (.int p3), .val (.int p4), .val (.int p5), .val (.int (3 : Int32)), .val (.ref b10), .unset, .unset, .unset, .unset, .unset, .unset] [(.int p3), (.int (2 : Int32)), (.ref b10)]))
    refine own_iastore X12 hx hZ e12 (i := 2) A12 rfl (by decide) (hb hby at_46) rfl ?_
    intro T13 h13 X13 e13 W13 A13
    have N13 := Fr.snoc X13 N12 G10
    have Z13 : n0 ≤ h13.size := by rw [W13.size]; exact Z12
    show own_Go _ _ _ _ _ _ _ (T13.setTop (mkF m 47 #[.val (.int p0), .val (.int p1), .val (.int p2), .val (.int p3), .val (.int p4), .val (.int p5), .val (.int (3 : Int32)), .val (.ref b10), .unset, .unset, .unset, .unset, .unset, .unset] []))
    refine own_go (fun _ q => XS.iload X13.here hx rfl (hb hby at_47) rfl q) ?_
    show own_Go _ _ _ _ _ _ _ (T13.setTop (mkF m 49 #[.val (.int p0), .val (.int p1), .val (.int p2), .val (.int p3), .val (.int p4), .val (.int p5), .val (.int (3 : Int32)), .val (.ref b10), .unset, .unset, .unset, .unset, .unset, .unset] [(.int (3 : Int32))]))
    refine own_go (fun _ q => XS.iconst X13.here hx rfl (hb hby at_49) q) ?_
    show own_Go _ _ _ _ _ _ _ (T13.setTop (mkF m 50 #[.val (.int p0), .val (.int p1), .val (.int p2), .val (.int p3), .val (.int p4), .val (.int p5), .val (.int (3 : Int32)), .val (.ref b10), .unset, .unset, .unset, .unset, .unset, .unset] [(.int (3 : Int32)), (.int (3 : Int32))]))
    refine own_go (fun _ q => XS.icmpYes X13.here hx rfl (pc0 := 50) (pc' := 59) rfl (hb hby at_50) rfl (flt (by decide : ¬ ((3 : Int32) < (3 : Int32)))).2.2.2 (by decide) (by decide) q) ?_
    show own_Go _ _ _ _ _ _ _ (T13.setTop (mkF m 59 #[.val (.int p0), .val (.int p1), .val (.int p2), .val (.int p3), .val (.int p4), .val (.int p5), .val (.int (3 : Int32)), .val (.ref b10), .unset, .unset, .unset, .unset, .unset, .unset] []))
    refine own_go (fun _ q => XS.iload X13.here hx rfl (hb hby at_59) rfl q) ?_
    show own_Go _ _ _ _ _ _ _ (T13.setTop (mkF m 61 #[.val (.int p0), .val (.int p1), .val (.int p2), .val (.int p3), .val (.int p4), .val (.int p5), .val (.int (3 : Int32)), .val (.ref b10), .unset, .unset, .unset, .unset, .unset, .unset] [(.int (3 : Int32))]))
    refine own_go (fun _ q => XS.iconst X13.here hx rfl (hb hby at_61) q) ?_
    show own_Go _ _ _ _ _ _ _ (T13.setTop (mkF m 62 #[.val (.int p0), .val (.int p1), .val (.int p2), .val (.int p3), .val (.int p4), .val (.int p5), .val (.int (3 : Int32)), .val (.ref b10), .unset, .unset, .unset, .unset, .unset, .unset] [(.int (4 : Int32)), (.int (3 : Int32))]))
    refine own_go (fun _ q => XS.icmpYes X13.here hx rfl (pc0 := 62) (pc' := 71) rfl (hb hby at_62) rfl (flt (by decide : ¬ ((4 : Int32) < (3 : Int32)))).2.2.2 (by decide) (by decide) q) ?_
    show own_Go _ _ _ _ _ _ _ (T13.setTop (mkF m 71 #[.val (.int p0), .val (.int p1), .val (.int p2), .val (.int p3), .val (.int p4), .val (.int p5), .val (.int (3 : Int32)), .val (.ref b10), .unset, .unset, .unset, .unset, .unset, .unset] []))
    refine own_go (fun _ q => XS.aload X13.here hx rfl (hb hby at_71) rfl rfl q) ?_
    show own_Go _ _ _ _ _ _ _ (T13.setTop (mkF m 73 #[.val (.int p0), .val (.int p1), .val (.int p2), .val (.int p3), .val (.int p4), .val (.int p5), .val (.int (3 : Int32)), .val (.ref b10), .unset, .unset, .unset, .unset, .unset, .unset] [(.ref b10)]))
    have A0 : own_Ar Z h13 b10 .int 3 (fun j => .int (own_f p1 p2 p3 p4 p5 j)) := A13.eqv (fun j hj => by
        have : j = 0 ∨ j = 1 ∨ j = 2 := by omega
        rcases this with rfl | rfl | rfl <;> rfl)
    have Z1 : n0 ≤ h13.size := by have := A0.lt; omega
    refine own_static X13 hx hZ hown (hw _ (List.mem_of_getElem? (i := 2) rfl)) (hw _ (List.mem_of_getElem? (i := 3) rfl)) (hw _ (List.mem_of_getElem? (i := 4) rfl)) (hw _ (List.mem_of_getElem? (i := 5) rfl)) (by decide) e13 (argsL := [(.ref b10)]) (rest := []) (rm1 l Z a0 hw [] b10 (own_f p1 p2 p3 p4 p5) 3 h13 n0 Z1 A0 G10 (by decide) (3 : Int32) rfl) 0 (by decide) (by decide) (by decide) (by decide) (by rw [hml]; rfl) pd_0 rfl rfl (Nat.le_of_eq rfl) (hb hby at_73) rfl ?_
    intro v14 T14 L14 X14 hQ14
    obtain ⟨rfl, N14q, A14⟩ := hQ14
    have N14 := Fr.app N13 N14q
    show own_Go _ _ _ _ _ _ _ (T14.setTop (mkF m 76 #[.val (.int p0), .val (.int p1), .val (.int p2), .val (.int p3), .val (.int p4), .val (.int p5), .val (.int (3 : Int32)), .val (.ref b10), .unset, .unset, .unset, .unset, .unset, .unset] []))
    refine own_go (fun _ q => XS.iloadN X14.here hx rfl (hb hby at_76) rfl q) ?_
    show own_Go _ _ _ _ _ _ _ (T14.setTop (mkF m 77 #[.val (.int p0), .val (.int p1), .val (.int p2), .val (.int p3), .val (.int p4), .val (.int p5), .val (.int (3 : Int32)), .val (.ref b10), .unset, .unset, .unset, .unset, .unset, .unset] [(.int p1)]))
    refine own_go (fun _ q => XS.istore X14.here hx rfl (hb hby at_77) rfl (l' := #[.val (.int p0), .val (.int p1), .val (.int p2), .val (.int p3), .val (.int p4), .val (.int p5), .val (.int (3 : Int32)), .val (.ref b10), .val (.int p1), .unset, .unset, .unset, .unset, .unset]) rfl q) ?_
    show own_Go _ _ _ _ _ _ _ (T14.setTop (mkF m 79 #[.val (.int p0), .val (.int p1), .val (.int p2), .val (.int p3), .val (.int p4), .val (.int p5), .val (.int (3 : Int32)), .val (.ref b10), .val (.int p1), .unset, .unset, .unset, .unset, .unset] []))
    refine own_go (fun _ q => XS.iload X14.here hx rfl (hb hby at_79) rfl q) ?_
    show own_Go _ _ _ _ _ _ _ (T14.setTop (mkF m 81 #[.val (.int p0), .val (.int p1), .val (.int p2), .val (.int p3), .val (.int p4), .val (.int p5), .val (.int (3 : Int32)), .val (.ref b10), .val (.int p1), .unset, .unset, .unset, .unset, .unset] [(.int p1)]))
    refine own_go (fun _ q => XS.iloadN X14.here hx rfl (hb hby at_81) rfl q) ?_
    show own_Go _ _ _ _ _ _ _ (T14.setTop (mkF m 82 #[.val (.int p0), .val (.int p1), .val (.int p2), .val (.int p3), .val (.int p4), .val (.int p5), .val (.int (3 : Int32)), .val (.ref b10), .val (.int p1), .unset, .unset, .unset, .unset, .unset] [(.int p2), (.int p1)]))
    refine own_go (fun _ q => XS.iadd X14.here hx rfl (hb hby at_82) rfl q) ?_
    show own_Go _ _ _ _ _ _ _ (T14.setTop (mkF m 83 #[.val (.int p0), .val (.int p1), .val (.int p2), .val (.int p3), .val (.int p4), .val (.int p5), .val (.int (3 : Int32)), .val (.ref b10), .val (.int p1), .unset, .unset, .unset, .unset, .unset] [(.int (p1 + p2))]))
    refine own_go (fun _ q => XS.istore X14.here hx rfl (hb hby at_83) rfl (l' := #[.val (.int p0), .val (.int p1), .val (.int p2), .val (.int p3), .val (.int p4), .val (.int p5), .val (.int (3 : Int32)), .val (.ref b10), .val (.int p1), .val (.int (p1 + p2)), .unset, .unset, .unset, .unset]) rfl q) ?_
    show own_Go _ _ _ _ _ _ _ (T14.setTop (mkF m 85 #[.val (.int p0), .val (.int p1), .val (.int p2), .val (.int p3), .val (.int p4), .val (.int p5), .val (.int (3 : Int32)), .val (.ref b10), .val (.int p1), .val (.int (p1 + p2)), .unset, .unset, .unset, .unset] []))
    refine own_go (fun _ q => XS.iload X14.here hx rfl (hb hby at_85) rfl q) ?_
    show own_Go _ _ _ _ _ _ _ (T14.setTop (mkF m 87 #[.val (.int p0), .val (.int p1), .val (.int p2), .val (.int p3), .val (.int p4), .val (.int p5), .val (.int (3 : Int32)), .val (.ref b10), .val (.int p1), .val (.int (p1 + p2)), .unset, .unset, .unset, .unset] [(.int (p1 + p2))]))
    refine own_go (fun _ q => XS.iloadN X14.here hx rfl (hb hby at_87) rfl q) ?_
    show own_Go _ _ _ _ _ _ _ (T14.setTop (mkF m 88 #[.val (.int p0), .val (.int p1), .val (.int p2), .val (.int p3), .val (.int p4), .val (.int p5), .val (.int (3 : Int32)), .val (.ref b10), .val (.int p1), .val (.int (p1 + p2)), .unset, .unset, .unset, .unset] [(.int p3), (.int (p1 + p2))]))
    refine own_go (fun _ q => XS.iadd X14.here hx rfl (hb hby at_88) rfl q) ?_
    show own_Go _ _ _ _ _ _ _ (T14.setTop (mkF m 89 #[.val (.int p0), .val (.int p1), .val (.int p2), .val (.int p3), .val (.int p4), .val (.int p5), .val (.int (3 : Int32)), .val (.ref b10), .val (.int p1), .val (.int (p1 + p2)), .unset, .unset, .unset, .unset] [(.int ((p1 + p2) + p3))]))
    refine own_go (fun _ q => XS.istore X14.here hx rfl (hb hby at_89) rfl (l' := #[.val (.int p0), .val (.int p1), .val (.int p2), .val (.int p3), .val (.int p4), .val (.int p5), .val (.int (3 : Int32)), .val (.ref b10), .val (.int p1), .val (.int (p1 + p2)), .val (.int ((p1 + p2) + p3)), .unset, .unset, .unset]) rfl q) ?_
    show own_Go _ _ _ _ _ _ _ (T14.setTop (mkF m 91 #[.val (.int p0), .val (.int p1), .val (.int p2), .val (.int p3), .val (.int p4), .val (.int p5), .val (.int (3 : Int32)), .val (.ref b10), .val (.int p1), .val (.int (p1 + p2)), .val (.int ((p1 + p2) + p3)), .unset, .unset, .unset] []))
    refine own_go (fun _ q => XS.iload X14.here hx rfl (hb hby at_91) rfl q) ?_
    show own_Go _ _ _ _ _ _ _ (T14.setTop (mkF m 93 #[.val (.int p0), .val (.int p1), .val (.int p2), .val (.int p3), .val (.int p4), .val (.int p5), .val (.int (3 : Int32)), .val (.ref b10), .val (.int p1), .val (.int (p1 + p2)), .val (.int ((p1 + p2) + p3)), .unset, .unset, .unset] [(.int ((p1 + p2) + p3))]))
    refine own_go (fun _ q => XS.iload X14.here hx rfl (hb hby at_93) rfl q) ?_
    show own_Go _ _ _ _ _ _ _ (T14.setTop (mkF m 95 #[.val (.int p0), .val (.int p1), .val (.int p2), .val (.int p3), .val (.int p4), .val (.int p5), .val (.int (3 : Int32)), .val (.ref b10), .val (.int p1), .val (.int (p1 + p2)), .val (.int ((p1 + p2) + p3)), .unset, .unset, .unset] [(.int p4), (.int ((p1 + p2) + p3))]))
    refine own_go (fun _ q => XS.iadd X14.here hx rfl (hb hby at_95) rfl q) ?_
    show own_Go _ _ _ _ _ _ _ (T14.setTop (mkF m 96 #[.val (.int p0), .val (.int p1), .val (.int p2), .val (.int p3), .val (.int p4), .val (.int p5), .val (.int (3 : Int32)), .val (.ref b10), .val (.int p1), .val (.int (p1 + p2)), .val (.int ((p1 + p2) + p3)), .unset, .unset, .unset] [(.int (((p1 + p2) + p3) + p4))]))
    refine own_go (fun _ q => XS.istore X14.here hx rfl (hb hby at_96) rfl (l' := #[.val (.int p0), .val (.int p1), .val (.int p2), .val (.int p3), .val (.int p4), .val (.int p5), .val (.int (3 : Int32)), .val (.ref b10), .val (.int p1), .val (.int (p1 + p2)), .val (.int ((p1 + p2) + p3)), .val (.int (((p1 + p2) + p3) + p4)), .unset, .unset]) rfl q) ?_
    show own_Go _ _ _ _ _ _ _ (T14.setTop (mkF m 98 #[.val (.int p0), .val (.int p1), .val (.int p2), .val (.int p3), .val (.int p4), .val (.int p5), .val (.int (3 : Int32)), .val (.ref b10), .val (.int p1), .val (.int (p1 + p2)), .val (.int ((p1 + p2) + p3)), .val (.int (((p1 + p2) + p3) + p4)), .unset, .unset] []))
    refine own_go (fun _ q => XS.iload X14.here hx rfl (hb hby at_98) rfl q) ?_
    show own_Go _ _ _ _ _ _ _ (T14.setTop (mkF m 100 #[.val (.int p0), .val (.int p1), .val (.int p2), .val (.int p3), .val (.int p4), .val (.int p5), .val (.int (3 : Int32)), .val (.ref b10), .val (.int p1), .val (.int (p1 + p2)), .val (.int ((p1 + p2) + p3)), .val (.int (((p1 + p2) + p3) + p4)), .unset, .unset] [(.int (((p1 + p2) + p3) + p4))]))
    refine own_go (fun _ q => XS.iload X14.here hx rfl (hb hby at_100) rfl q) ?_
    show own_Go _ _ _ _ _ _ _ (T14.setTop (mkF m 102 #[.val (.int p0), .val (.int p1), .val (.int p2), .val (.int p3), .val (.int p4), .val (.int p5), .val (.int (3 : Int32)), .val (.ref b10), .val (.int p1), .val (.int (p1 + p2)), .val (.int ((p1 + p2) + p3)), .val (.int (((p1 + p2) + p3) + p4)), .unset, .unset] [(.int p5), (.int (((p1 + p2) + p3) + p4))]))
    refine own_go (fun _ q => XS.iadd X14.here hx rfl (hb hby at_102) rfl q) ?_
    show own_Go _ _ _ _ _ _ _ (T14.setTop (mkF m 103 #[.val (.int p0), .val (.int p1), .val (.int p2), .val (.int p3), .val (.int p4), .val (.int p5), .val (.int (3 : Int32)), .val (.ref b10), .val (.int p1), .val (.int (p1 + p2)), .val (.int ((p1 + p2) + p3)), .val (.int (((p1 + p2) + p3) + p4)), .unset, .unset] [(.int ((((p1 + p2) + p3) + p4) + p5))]))
    refine own_go (fun _ q => XS.istore X14.here hx rfl (hb hby at_103) rfl (l' := #[.val (.int p0), .val (.int p1), .val (.int p2), .val (.int p3), .val (.int p4), .val (.int p5), .val (.int (3 : Int32)), .val (.ref b10), .val (.int p1), .val (.int (p1 + p2)), .val (.int ((p1 + p2) + p3)), .val (.int (((p1 + p2) + p3) + p4)), .val (.int ((((p1 + p2) + p3) + p4) + p5)), .unset]) rfl q) ?_
    show own_Go _ _ _ _ _ _ _ (T14.setTop (mkF m 105 #[.val (.int p0), .val (.int p1), .val (.int p2), .val (.int p3), .val (.int p4), .val (.int p5), .val (.int (3 : Int32)), .val (.ref b10), .val (.int p1), .val (.int (p1 + p2)), .val (.int ((p1 + p2) + p3)), .val (.int (((p1 + p2) + p3) + p4)), .val (.int ((((p1 + p2) + p3) + p4) + p5)), .unset] []))
    refine own_go (fun _ q => XS.aload X14.here hx rfl (hb hby at_105) rfl rfl q) ?_
    show own_Go _ _ _ _ _ _ _ (T14.setTop (mkF m 107 #[.val (.int p0), .val (.int p1), .val (.int p2), .val (.int p3), .val (.int p4), .val (.int p5), .val (.int (3 : Int32)), .val (.ref b10), .val (.int p1), .val (.int (p1 + p2)), .val (.int ((p1 + p2) + p3)), .val (.int (((p1 + p2) + p3) + p4)), .val (.int ((((p1 + p2) + p3) + p4) + p5)), .unset] [(.ref b10)]))
    refine own_length (z := (3 : Int32)) X14 hx hZ rfl A14 rfl (hb hby at_107) rfl ?_
    show own_Go _ _ _ _ _ _ _ (T14.setTop (mkF m 108 #[.val (.int p0), .val (.int p1), .val (.int p2), .val (.int p3), .val (.int p4), .val (.int p5), .val (.int (3 : Int32)), .val (.ref b10), .val (.int p1), .val (.int (p1 + p2)), .val (.int ((p1 + p2) + p3)), .val (.int (((p1 + p2) + p3) + p4)), .val (.int ((((p1 + p2) + p3) + p4) + p5)), .unset] [(.int (3 : Int32))]))
    refine own_go (fun _ q => XS.iload X14.here hx rfl (hb hby at_108) rfl q) ?_
    show own_Go _ _ _ _ _ _ _ (T14.setTop (mkF m 110 #[.val (.int p0), .val (.int p1), .val (.int p2), .val (.int p3), .val (.int p4), .val (.int p5), .val (.int (3 : Int32)), .val (.ref b10), .val (.int p1), .val (.int (p1 + p2)), .val (.int ((p1 + p2) + p3)), .val (.int (((p1 + p2) + p3) + p4)), .val (.int ((((p1 + p2) + p3) + p4) + p5)), .unset] [(.int (3 : Int32)), (.int (3 : Int32))]))
    refine own_go (fun _ q => XS.icmpNo X14.here hx rfl (hb hby at_110) rfl (teq (by decide : (3 : Int32) = (3 : Int32))).2 q) ?_
    show own_Go _ _ _ _ _ _ _ (T14.setTop (mkF m 113 #[.val (.int p0), .val (.int p1), .val (.int p2), .val (.int p3), .val (.int p4), .val (.int p5), .val (.int (3 : Int32)), .val (.ref b10), .val (.int p1), .val (.int (p1 + p2)), .val (.int ((p1 + p2) + p3)), .val (.int (((p1 + p2) + p3) + p4)), .val (.int ((((p1 + p2) + p3) + p4) + p5)), .unset] []))
    refine own_go (fun _ q => XS.iconst X14.here hx rfl (hb hby at_113) q) ?_
    show own_Go _ _ _ _ _ _ _ (T14.setTop (mkF m 114 #[.val (.int p0), .val (.int p1), .val (.int p2), .val (.int p3), .val (.int p4), .val (.int p5), .val (.int (3 : Int32)), .val (.ref b10), .val (.int p1), .val (.int (p1 + p2)), .val (.int ((p1 + p2) + p3)), .val (.int (((p1 + p2) + p3) + p4)), .val (.int ((((p1 + p2) + p3) + p4) + p5)), .unset] [(.int (1 : Int32))]))
    refine own_go (fun _ q => XS.goto X14.here hx rfl (pc0 := 114) (pc' := 118) rfl (hb hby at_114) (by decide) (by decide) q) ?_
    show own_Go _ _ _ _ _ _ _ (T14.setTop (mkF m 118 #[.val (.int p0), .val (.int p1), .val (.int p2), .val (.int p3), .val (.int p4), .val (.int p5), .val (.int (3 : Int32)), .val (.ref b10), .val (.int p1), .val (.int (p1 + p2)), .val (.int ((p1 + p2) + p3)), .val (.int (((p1 + p2) + p3) + p4)), .val (.int ((((p1 + p2) + p3) + p4) + p5)), .unset] [(.int (1 : Int32))]))
    refine own_go (fun _ q => XS.istore X14.here hx rfl (hb hby at_118) rfl (l' := #[.val (.int p0), .val (.int p1), .val (.int p2), .val (.int p3), .val (.int p4), .val (.int p5), .val (.int (3 : Int32)), .val (.ref b10), .val (.int p1), .val (.int (p1 + p2)), .val (.int ((p1 + p2) + p3)), .val (.int (((p1 + p2) + p3) + p4)), .val (.int ((((p1 + p2) + p3) + p4) + p5)), .val (.int (1 : Int32))]) rfl q) ?_
    show own_Go _ _ _ _ _ _ _ (T14.setTop (mkF m 120 #[.val (.int p0), .val (.int p1), .val (.int p2), .val (.int p3), .val (.int p4), .val (.int p5), .val (.int (3 : Int32)), .val (.ref b10), .val (.int p1), .val (.int (p1 + p2)), .val (.int ((p1 + p2) + p3)), .val (.int (((p1 + p2) + p3) + p4)), .val (.int ((((p1 + p2) + p3) + p4) + p5)), .val (.int (1 : Int32))] []))
    refine own_go (fun _ q => XS.iload X14.here hx rfl (hb hby at_120) rfl q) ?_
    show own_Go _ _ _ _ _ _ _ (T14.setTop (mkF m 122 #[.val (.int p0), .val (.int p1), .val (.int p2), .val (.int p3), .val (.int p4), .val (.int p5), .val (.int (3 : Int32)), .val (.ref b10), .val (.int p1), .val (.int (p1 + p2)), .val (.int ((p1 + p2) + p3)), .val (.int (((p1 + p2) + p3) + p4)), .val (.int ((((p1 + p2) + p3) + p4) + p5)), .val (.int (1 : Int32))] [(.int (3 : Int32))]))
    refine own_go (fun _ q => XS.ifNo X14.here hx rfl (hb hby at_122) rfl ((if0 _ _).trans (tlt (by decide : (0 : Int32) < (3 : Int32))).2.2.2) q) ?_
    show own_Go _ _ _ _ _ _ _ (T14.setTop (mkF m 125 #[.val (.int p0), .val (.int p1), .val (.int p2), .val (.int p3), .val (.int p4), .val (.int p5), .val (.int (3 : Int32)), .val (.ref b10), .val (.int p1), .val (.int (p1 + p2)), .val (.int ((p1 + p2) + p3)), .val (.int (((p1 + p2) + p3) + p4)), .val (.int ((((p1 + p2) + p3) + p4) + p5)), .val (.int (1 : Int32))] []))
    refine own_go (fun _ q => XS.iload X14.here hx rfl (hb hby at_125) rfl q) ?_
    show own_Go _ _ _ _ _ _ _ (T14.setTop (mkF m 127 #[.val (.int p0), .val (.int p1), .val (.int p2), .val (.int p3), .val (.int p4), .val (.int p5), .val (.int (3 : Int32)), .val (.ref b10), .val (.int p1), .val (.int (p1 + p2)), .val (.int ((p1 + p2) + p3)), .val (.int (((p1 + p2) + p3) + p4)), .val (.int ((((p1 + p2) + p3) + p4) + p5)), .val (.int (1 : Int32))] [(.int (1 : Int32))]))
    refine own_go (fun _ q => XS.ifNo X14.here hx rfl (hb hby at_127) rfl ((if0 _ _).trans (feq (by decide : ¬ ((1 : Int32) = (0 : Int32)))).1) q) ?_
    show own_Go _ _ _ _ _ _ _ (T14.setTop (mkF m 130 #[.val (.int p0), .val (.int p1), .val (.int p2), .val (.int p3), .val (.int p4), .val (.int p5), .val (.int (3 : Int32)), .val (.ref b10), .val (.int p1), .val (.int (p1 + p2)), .val (.int ((p1 + p2) + p3)), .val (.int (((p1 + p2) + p3) + p4)), .val (.int ((((p1 + p2) + p3) + p4) + p5)), .val (.int (1 : Int32))] []))
    refine own_go (fun _ q => XS.aload X14.here hx rfl (hb hby at_130) rfl rfl q) ?_
    show own_Go _ _ _ _ _ _ _ (T14.setTop (mkF m 132 #[.val (.int p0), .val (.int p1), .val (.int p2), .val (.int p3), .val (.int p4), .val (.int p5), .val (.int (3 : Int32)), .val (.ref b10), .val (.int p1), .val (.int (p1 + p2)), .val (.int ((p1 + p2) + p3)), .val (.int (((p1 + p2) + p3) + p4)), .val (.int ((((p1 + p2) + p3) + p4) + p5)), .val (.int (1 : Int32))] [(.ref b10)]))
    refine own_go (fun _ q => XS.iconst X14.here hx rfl (hb hby at_132) q) ?_
    show own_Go _ _ _ _ _ _ _ (T14.setTop (mkF m 133 #[.val (.int p0), .val (.int p1), .val (.int p2), .val (.int p3), .val (.int p4), .val (.int p5), .val (.int (3 : Int32)), .val (.ref b10), .val (.int p1), .val (.int (p1 + p2)), .val (.int ((p1 + p2) + p3)), .val (.int (((p1 + p2) + p3) + p4)), .val (.int ((((p1 + p2) + p3) + p4) + p5)), .val (.int (1 : Int32))] [(.int (0 : Int32)), (.ref b10)]))
    refine own_iaload X14 hx hZ rfl (i := 0) A14 rfl (by decide) rfl (hb hby at_133) rfl ?_
    show own_Go _ _ _ _ _ _ _ (T14.setTop (mkF m 134 #[.val (.int p0), .val (.int p1), .val (.int p2), .val (.int p3), .val (.int p4), .val (.int p5), .val (.int (3 : Int32)), .val (.ref b10), .val (.int p1), .val (.int (p1 + p2)), .val (.int ((p1 + p2) + p3)), .val (.int (((p1 + p2) + p3) + p4)), .val (.int ((((p1 + p2) + p3) + p4) + p5)), .val (.int (1 : Int32))] [(.int p1)]))
    refine own_go (fun _ q => XS.iload X14.here hx rfl (hb hby at_134) rfl q) ?_
    show own_Go _ _ _ _ _ _ _ (T14.setTop (mkF m 136 #[.val (.int p0), .val (.int p1), .val (.int p2), .val (.int p3), .val (.int p4), .val (.int p5), .val (.int (3 : Int32)), .val (.ref b10), .val (.int p1), .val (.int (p1 + p2)), .val (.int ((p1 + p2) + p3)), .val (.int (((p1 + p2) + p3) + p4)), .val (.int ((((p1 + p2) + p3) + p4) + p5)), .val (.int (1 : Int32))] [(.int p1), (.int p1)]))
    refine own_go (fun _ q => XS.icmpNo X14.here hx rfl (hb hby at_136) rfl (teq rfl).2 q) ?_
    show own_Go _ _ _ _ _ _ _ (T14.setTop (mkF m 139 #[.val (.int p0), .val (.int p1), .val (.int p2), .val (.int p3), .val (.int p4), .val (.int p5), .val (.int (3 : Int32)), .val (.ref b10), .val (.int p1), .val (.int (p1 + p2)), .val (.int ((p1 + p2) + p3)), .val (.int (((p1 + p2) + p3) + p4)), .val (.int ((((p1 + p2) + p3) + p4) + p5)), .val (.int (1 : Int32))] []))
    refine own_go (fun _ q => XS.iconst X14.here hx rfl (hb hby at_139) q) ?_
    show own_Go _ _ _ _ _ _ _ (T14.setTop (mkF m 140 #[.val (.int p0), .val (.int p1), .val (.int p2), .val (.int p3), .val (.int p4), .val (.int p5), .val (.int (3 : Int32)), .val (.ref b10), .val (.int p1), .val (.int (p1 + p2)), .val (.int ((p1 + p2) + p3)), .val (.int (((p1 + p2) + p3) + p4)), .val (.int ((((p1 + p2) + p3) + p4) + p5)), .val (.int (1 : Int32))] [(.int (1 : Int32))]))
    refine own_go (fun _ q => XS.goto X14.here hx rfl (pc0 := 140) (pc' := 144) rfl (hb hby at_140) (by decide) (by decide) q) ?_
    show own_Go _ _ _ _ _ _ _ (T14.setTop (mkF m 144 #[.val (.int p0), .val (.int p1), .val (.int p2), .val (.int p3), .val (.int p4), .val (.int p5), .val (.int (3 : Int32)), .val (.ref b10), .val (.int p1), .val (.int (p1 + p2)), .val (.int ((p1 + p2) + p3)), .val (.int (((p1 + p2) + p3) + p4)), .val (.int ((((p1 + p2) + p3) + p4) + p5)), .val (.int (1 : Int32))] [(.int (1 : Int32))]))
    refine own_go (fun _ q => XS.istore X14.here hx rfl (hb hby at_144) rfl (l' := #[.val (.int p0), .val (.int p1), .val (.int p2), .val (.int p3), .val (.int p4), .val (.int p5), .val (.int (3 : Int32)), .val (.ref b10), .val (.int p1), .val (.int (p1 + p2)), .val (.int ((p1 + p2) + p3)), .val (.int (((p1 + p2) + p3) + p4)), .val (.int ((((p1 + p2) + p3) + p4) + p5)), .val (.int (1 : Int32))]) rfl q) ?_
    show own_Go _ _ _ _ _ _ _ (T14.setTop (mkF m 146 #[.val (.int p0), .val (.int p1), .val (.int p2), .val (.int p3), .val (.int p4), .val (.int p5), .val (.int (3 : Int32)), .val (.ref b10), .val (.int p1), .val (.int (p1 + p2)), .val (.int ((p1 + p2) + p3)), .val (.int (((p1 + p2) + p3) + p4)), .val (.int ((((p1 + p2) + p3) + p4) + p5)), .val (.int (1 : Int32))] []))
    refine own_go (fun _ q => XS.iload X14.here hx rfl (hb hby at_146) rfl q) ?_
    show own_Go _ _ _ _ _ _ _ (T14.setTop (mkF m 148 #[.val (.int p0), .val (.int p1), .val (.int p2), .val (.int p3), .val (.int p4), .val (.int p5), .val (.int (3 : Int32)), .val (.ref b10), .val (.int p1), .val (.int (p1 + p2)), .val (.int ((p1 + p2) + p3)), .val (.int (((p1 + p2) + p3) + p4)), .val (.int ((((p1 + p2) + p3) + p4) + p5)), .val (.int (1 : Int32))] [(.int (3 : Int32))]))
    refine own_go (fun _ q => XS.iconst X14.here hx rfl (hb hby at_148) q) ?_
    show own_Go _ _ _ _ _ _ _ (T14.setTop (mkF m 149 #[.val (.int p0), .val (.int p1), .val (.int p2), .val (.int p3), .val (.int p4), .val (.int p5), .val (.int (3 : Int32)), .val (.ref b10), .val (.int p1), .val (.int (p1 + p2)), .val (.int ((p1 + p2) + p3)), .val (.int (((p1 + p2) + p3) + p4)), .val (.int ((((p1 + p2) + p3) + p4) + p5)), .val (.int (1 : Int32))] [(.int (1 : Int32)), (.int (3 : Int32))]))
    refine own_go (fun _ q => XS.icmpNo X14.here hx rfl (hb hby at_149) rfl (tlt (by decide : (1 : Int32) < (3 : Int32))).2.2.2 q) ?_
    show own_Go _ _ _ _ _ _ _ (T14.setTop (mkF m 152 #[.val (.int p0), .val (.int p1), .val (.int p2), .val (.int p3), .val (.int p4), .val (.int p5), .val (.int (3 : Int32)), .val (.ref b10), .val (.int p1), .val (.int (p1 + p2)), .val (.int ((p1 + p2) + p3)), .val (.int (((p1 + p2) + p3) + p4)), .val (.int ((((p1 + p2) + p3) + p4) + p5)), .val (.int (1 : Int32))] []))
    refine own_go (fun _ q => XS.iload X14.here hx rfl (hb hby at_152) rfl q) ?_
    show own_Go _ _ _ _ _ _ _ (T14.setTop (mkF m 154 #[.val (.int p0), .val (.int p1), .val (.int p2), .val (.int p3), .val (.int p4), .val (.int p5), .val (.int (3 : Int32)), .val (.ref b10), .val (.int p1), .val (.int (p1 + p2)), .val (.int ((p1 + p2) + p3)), .val (.int (((p1 + p2) + p3) + p4)), .val (.int ((((p1 + p2) + p3) + p4) + p5)), .val (.int (1 : Int32))] [(.int (1 : Int32))]))
    refine own_go (fun _ q => XS.ifNo X14.here hx rfl (hb hby at_154) rfl ((if0 _ _).trans (feq (by decide : ¬ ((1 : Int32) = (0 : Int32)))).1) q) ?_
    show own_Go _ _ _ _ _ _ _ (T14.setTop (mkF m 157 #[.val (.int p0), .val (.int p1), .val (.int p2), .val (.int p3), .val (.int p4), .val (.int p5), .val (.int (3 : Int32)), .val (.ref b10), .val (.int p1), .val (.int (p1 + p2)), .val (.int ((p1 + p2) + p3)), .val (.int (((p1 + p2) + p3) + p4)), .val (.int ((((p1 + p2) + p3) + p4) + p5)), .val (.int (1 : Int32))] []))
    refine own_go (fun _ q => XS.aload X14.here hx rfl (hb hby at_157) rfl rfl q) ?_
    show own_Go _ _ _ _ _ _ _ (T14.setTop (mkF m 159 #[.val (.int p0), .val (.int p1), .val (.int p2), .val (.int p3), .val (.int p4), .val (.int p5), .val (.int (3 : Int32)), .val (.ref b10), .val (.int p1), .val (.int (p1 + p2)), .val (.int ((p1 + p2) + p3)), .val (.int (((p1 + p2) + p3) + p4)), .val (.int ((((p1 + p2) + p3) + p4) + p5)), .val (.int (1 : Int32))] [(.ref b10)]))
    refine own_go (fun _ q => XS.iconst X14.here hx rfl (hb hby at_159) q) ?_
    show own_Go _ _ _ _ _ _ _ (T14.setTop (mkF m 160 #[.val (.int p0), .val (.int p1), .val (.int p2), .val (.int p3), .val (.int p4), .val (.int p5), .val (.int (3 : Int32)), .val (.ref b10), .val (.int p1), .val (.int (p1 + p2)), .val (.int ((p1 + p2) + p3)), .val (.int (((p1 + p2) + p3) + p4)), .val (.int ((((p1 + p2) + p3) + p4) + p5)), .val (.int (1 : Int32))] [(.int (1 : Int32)), (.ref b10)]))
    refine own_iaload X14 hx hZ rfl (i := 1) A14 rfl (by decide) rfl (hb hby at_160) rfl ?_
    show own_Go _ _ _ _ _ _ _ (T14.setTop (mkF m 161 #[.val (.int p0), .val (.int p1), .val (.int p2), .val (.int p3), .val (.int p4), .val (.int p5), .val (.int (3 : Int32)), .val (.ref b10), .val (.int p1), .val (.int (p1 + p2)), .val (.int ((p1 + p2) + p3)), .val (.int (((p1 + p2) + p3) + p4)), .val (.int ((((p1 + p2) + p3) + p4) + p5)), .val (.int (1 : Int32))] [(.int (p1 + p2))]))
    refine own_go (fun _ q => XS.iload X14.here hx rfl (hb hby at_161) rfl q) ?_
    show own_Go _ _ _ _ _ _ _ (T14.setTop (mkF m 163 #[.val (.int p0), .val (.int p1), .val (.int p2), .val (.int p3), .val (.int p4), .val (.int p5), .val (.int (3 : Int32)), .val (.ref b10), .val (.int p1), .val (.int (p1 + p2)), .val (.int ((p1 + p2) + p3)), .val (.int (((p1 + p2) + p3) + p4)), .val (.int ((((p1 + p2) + p3) + p4) + p5)), .val (.int (1 : Int32))] [(.int (p1 + p2)), (.int (p1 + p2))]))
    refine own_go (fun _ q => XS.icmpNo X14.here hx rfl (hb hby at_163) rfl (teq rfl).2 q) ?_
    show own_Go _ _ _ _ _ _ _ (T14.setTop (mkF m 166 #[.val (.int p0), .val (.int p1), .val (.int p2), .val (.int p3), .val (.int p4), .val (.int p5), .val (.int (3 : Int32)), .val (.ref b10), .val (.int p1), .val (.int (p1 + p2)), .val (.int ((p1 + p2) + p3)), .val (.int (((p1 + p2) + p3) + p4)), .val (.int ((((p1 + p2) + p3) + p4) + p5)), .val (.int (1 : Int32))] []))
    refine own_go (fun _ q => XS.iconst X14.here hx rfl (hb hby at_166) q) ?_
    show own_Go _ _ _ _ _ _ _ (T14.setTop (mkF m 167 #[.val (.int p0), .val (.int p1), .val (.int p2), .val (.int p3), .val (.int p4), .val (.int p5), .val (.int (3 : Int32)), .val (.ref b10), .val (.int p1), .val (.int (p1 + p2)), .val (.int ((p1 + p2) + p3)), .val (.int (((p1 + p2) + p3) + p4)), .val (.int ((((p1 + p2) + p3) + p4) + p5)), .val (.int (1 : Int32))] [(.int (1 : Int32))]))
    refine own_go (fun _ q => XS.goto X14.here hx rfl (pc0 := 167) (pc' := 171) rfl (hb hby at_167) (by decide) (by decide) q) ?_
    show own_Go _ _ _ _ _ _ _ (T14.setTop (mkF m 171 #[.val (.int p0), .val (.int p1), .val (.int p2), .val (.int p3), .val (.int p4), .val (.int p5), .val (.int (3 : Int32)), .val (.ref b10), .val (.int p1), .val (.int (p1 + p2)), .val (.int ((p1 + p2) + p3)), .val (.int (((p1 + p2) + p3) + p4)), .val (.int ((((p1 + p2) + p3) + p4) + p5)), .val (.int (1 : Int32))] [(.int (1 : Int32))]))
    refine own_go (fun _ q => XS.istore X14.here hx rfl (hb hby at_171) rfl (l' := #[.val (.int p0), .val (.int p1), .val (.int p2), .val (.int p3), .val (.int p4), .val (.int p5), .val (.int (3 : Int32)), .val (.ref b10), .val (.int p1), .val (.int (p1 + p2)), .val (.int ((p1 + p2) + p3)), .val (.int (((p1 + p2) + p3) + p4)), .val (.int ((((p1 + p2) + p3) + p4) + p5)), .val (.int (1 : Int32))]) rfl q) ?_
    show own_Go _ _ _ _ _ _ _ (T14.setTop (mkF m 173 #[.val (.int p0), .val (.int p1), .val (.int p2), .val (.int p3), .val (.int p4), .val (.int p5), .val (.int (3 : Int32)), .val (.ref b10), .val (.int p1), .val (.int (p1 + p2)), .val (.int ((p1 + p2) + p3)), .val (.int (((p1 + p2) + p3) + p4)), .val (.int ((((p1 + p2) + p3) + p4) + p5)), .val (.int (1 : Int32))] []))
    refine own_go (fun _ q => XS.iload X14.here hx rfl (hb hby at_173) rfl q) ?_
    show own_Go _ _ _ _ _ _ _ (T14.setTop (mkF m 175 #[.val (.int p0), .val (.int p1), .val (.int p2), .val (.int p3), .val (.int p4), .val (.int p5), .val (.int (3 : Int32)), .val (.ref b10), .val (.int p1), .val (.int (p1 + p2)), .val (.int ((p1 + p2) + p3)), .val (.int (((p1 + p2) + p3) + p4)), .val (.int ((((p1 + p2) + p3) + p4) + p5)), .val (.int (1 : Int32))] [(.int (3 : Int32))]))
    refine own_go (fun _ q => XS.iconst X14.here hx rfl (hb hby at_175) q) ?_
    show own_Go _ _ _ _ _ _ _ (T14.setTop (mkF m 176 #[.val (.int p0), .val (.int p1), .val (.int p2), .val (.int p3), .val (.int p4), .val (.int p5), .val (.int (3 : Int32)), .val (.ref b10), .val (.int p1), .val (.int (p1 + p2)), .val (.int ((p1 + p2) + p3)), .val (.int (((p1 + p2) + p3) + p4)), .val (.int ((((p1 + p2) + p3) + p4) + p5)), .val (.int (1 : Int32))] [(.int (2 : Int32)), (.int (3 : Int32))]))
    refine own_go (fun _ q => XS.icmpNo X14.here hx rfl (hb hby at_176) rfl (tlt (by decide : (2 : Int32) < (3 : Int32))).2.2.2 q) ?_
    show own_Go _ _ _ _ _ _ _ (T14.setTop (mkF m 179 #[.val (.int p0), .val (.int p1), .val (.int p2), .val (.int p3), .val (.int p4), .val (.int p5), .val (.int (3 : Int32)), .val (.ref b10), .val (.int p1), .val (.int (p1 + p2)), .val (.int ((p1 + p2) + p3)), .val (.int (((p1 + p2) + p3) + p4)), .val (.int ((((p1 + p2) + p3) + p4) + p5)), .val (.int (1 : Int32))] []))
    refine own_go (fun _ q => XS.iload X14.here hx rfl (hb hby at_179) rfl q) ?_
    show own_Go _ _ _ _ _ _ _ (T14.setTop (mkF m 181 #[.val (.int p0), .val (.int p1), .val (.int p2), .val (.int p3), .val (.int p4), .val (.int p5), .val (.int (3 : Int32)), .val (.ref b10), .val (.int p1), .val (.int (p1 + p2)), .val (.int ((p1 + p2) + p3)), .val (.int (((p1 + p2) + p3) + p4)), .val (.int ((((p1 + p2) + p3) + p4) + p5)), .val (.int (1 : Int32))] [(.int (1 : Int32))]))
    refine own_go (fun _ q => XS.ifNo X14.here hx rfl (hb hby at_181) rfl ((if0 _ _).trans (feq (by decide : ¬ ((1 : Int32) = (0 : Int32)))).1) q) ?_
    show own_Go _ _ _ _ _ _ _ (T14.setTop (mkF m 184 #[.val (.int p0), .val (.int p1), .val (.int p2), .val (.int p3), .val (.int p4), .val (.int p5), .val (.int (3 : Int32)), .val (.ref b10), .val (.int p1), .val (.int (p1 + p2)), .val (.int ((p1 + p2) + p3)), .val (.int (((p1 + p2) + p3) + p4)), .val (.int ((((p1 + p2) + p3) + p4) + p5)), .val (.int (1 : Int32))] []))
    refine own_go (fun _ q => XS.aload X14.here hx rfl (hb hby at_184) rfl rfl q) ?_
    show own_Go _ _ _ _ _ _ _ (T14.setTop (mkF m 186 #[.val (.int p0), .val (.int p1), .val (.int p2), .val (.int p3), .val (.int p4), .val (.int p5), .val (.int (3 : Int32)), .val (.ref b10), .val (.int p1), .val (.int (p1 + p2)), .val (.int ((p1 + p2) + p3)), .val (.int (((p1 + p2) + p3) + p4)), .val (.int ((((p1 + p2) + p3) + p4) + p5)), .val (.int (1 : Int32))] [(.ref b10)]))
    refine own_go (fun _ q => XS.iconst X14.here hx rfl (hb hby at_186) q) ?_
    show own_Go _ _ _ _ _ _ _ (T14.setTop (mkF m 187 #[.val (.int p0), .val (.int p1), .val (.int p2), .val (.int p3), .val (.int p4), .val (.int p5), .val (.int (3 : Int32)), .val (.ref b10), .val (.int p1), .val (.int (p1 + p2)), .val (.int ((p1 + p2) + p3)), .val (.int (((p1 + p2) + p3) + p4)), .val (.int ((((p1 + p2) + p3) + p4) + p5)), .val (.int (1 : Int32))] [(.int (2 : Int32)), (.ref b10)]))
    refine own_iaload X14 hx hZ rfl (i := 2) A14 rfl (by decide) rfl (hb hby at_187) rfl ?_
    show own_Go _ _ _ _ _ _ _ (T14.setTop (mkF m 188 #[.val (.int p0), .val (.int p1), .val (.int p2), .val (.int p3), .val (.int p4), .val (.int p5), .val (.int (3 : Int32)), .val (.ref b10), .val (.int p1), .val (.int (p1 + p2)), .val (.int ((p1 + p2) + p3)), .val (.int (((p1 + p2) + p3) + p4)), .val (.int ((((p1 + p2) + p3) + p4) + p5)), .val (.int (1 : Int32))] [(.int ((p1 + p2) + p3))]))
    refine own_go (fun _ q => XS.iload X14.here hx rfl (hb hby at_188) rfl q) ?_
    show own_Go _ _ _ _ _ _ _ (T14.setTop (mkF m 190 #[.val (.int p0), .val (.int p1), .val (.int p2), .val (.int p3), .val (.int p4), .val (.int p5), .val (.int (3 : Int32)), .val (.ref b10), .val (.int p1), .val (.int (p1 + p2)), .val (.int ((p1 + p2) + p3)), .val (.int (((p1 + p2) + p3) + p4)), .val (.int ((((p1 + p2) + p3) + p4) + p5)), .val (.int (1 : Int32))] [(.int ((p1 + p2) + p3)), (.int ((p1 + p2) + p3))]))
    refine own_go (fun _ q => XS.icmpNo X14.here hx rfl (hb hby at_190) rfl (teq rfl).2 q) ?_
    show own_Go _ _ _ _ _ _ _ (T14.setTop (mkF m 193 #[.val (.int p0), .val (.int p1), .val (.int p2), .val (.int p3), .val (.int p4), .val (.int p5), .val (.int (3 : Int32)), .val (.ref b10), .val (.int p1), .val (.int (p1 + p2)), .val (.int ((p1 + p2) + p3)), .val (.int (((p1 + p2) + p3) + p4)), .val (.int ((((p1 + p2) + p3) + p4) + p5)), .val (.int (1 : Int32))] []))
    refine own_go (fun _ q => XS.iconst X14.here hx rfl (hb hby at_193) q) ?_
    show own_Go _ _ _ _ _ _ _ (T14.setTop (mkF m 194 #[.val (.int p0), .val (.int p1), .val (.int p2), .val (.int p3), .val (.int p4), .val (.int p5), .val (.int (3 : Int32)), .val (.ref b10), .val (.int p1), .val (.int (p1 + p2)), .val (.int ((p1 + p2) + p3)), .val (.int (((p1 + p2) + p3) + p4)), .val (.int ((((p1 + p2) + p3) + p4) + p5)), .val (.int (1 : Int32))] [(.int (1 : Int32))]))
    refine own_go (fun _ q => XS.goto X14.here hx rfl (pc0 := 194) (pc' := 198) rfl (hb hby at_194) (by decide) (by decide) q) ?_
    show own_Go _ _ _ _ _ _ _ (T14.setTop (mkF m 198 #[.val (.int p0), .val (.int p1), .val (.int p2), .val (.int p3), .val (.int p4), .val (.int p5), .val (.int (3 : Int32)), .val (.ref b10), .val (.int p1), .val (.int (p1 + p2)), .val (.int ((p1 + p2) + p3)), .val (.int (((p1 + p2) + p3) + p4)), .val (.int ((((p1 + p2) + p3) + p4) + p5)), .val (.int (1 : Int32))] [(.int (1 : Int32))]))
    refine own_go (fun _ q => XS.istore X14.here hx rfl (hb hby at_198) rfl (l' := #[.val (.int p0), .val (.int p1), .val (.int p2), .val (.int p3), .val (.int p4), .val (.int p5), .val (.int (3 : Int32)), .val (.ref b10), .val (.int p1), .val (.int (p1 + p2)), .val (.int ((p1 + p2) + p3)), .val (.int (((p1 + p2) + p3) + p4)), .val (.int ((((p1 + p2) + p3) + p4) + p5)), .val (.int (1 : Int32))]) rfl q) ?_
    show own_Go _ _ _ _ _ _ _ (T14.setTop (mkF m 200 #[.val (.int p0), .val (.int p1), .val (.int p2), .val (.int p3), .val (.int p4), .val (.int p5), .val (.int (3 : Int32)), .val (.ref b10), .val (.int p1), .val (.int (p1 + p2)), .val (.int ((p1 + p2) + p3)), .val (.int (((p1 + p2) + p3) + p4)), .val (.int ((((p1 + p2) + p3) + p4) + p5)), .val (.int (1 : Int32))] []))
    refine own_go (fun _ q => XS.iload X14.here hx rfl (hb hby at_200) rfl q) ?_
    show own_Go _ _ _ _ _ _ _ (T14.setTop (mkF m 202 #[.val (.int p0), .val (.int p1), .val (.int p2), .val (.int p3), .val (.int p4), .val (.int p5), .val (.int (3 : Int32)), .val (.ref b10), .val (.int p1), .val (.int (p1 + p2)), .val (.int ((p1 + p2) + p3)), .val (.int (((p1 + p2) + p3) + p4)), .val (.int ((((p1 + p2) + p3) + p4) + p5)), .val (.int (1 : Int32))] [(.int (3 : Int32))]))
    refine own_go (fun _ q => XS.iconst X14.here hx rfl (hb hby at_202) q) ?_
    show own_Go _ _ _ _ _ _ _ (T14.setTop (mkF m 203 #[.val (.int p0), .val (.int p1), .val (.int p2), .val (.int p3), .val (.int p4), .val (.int p5), .val (.int (3 : Int32)), .val (.ref b10), .val (.int p1), .val (.int (p1 + p2)), .val (.int ((p1 + p2) + p3)), .val (.int (((p1 + p2) + p3) + p4)), .val (.int ((((p1 + p2) + p3) + p4) + p5)), .val (.int (1 : Int32))] [(.int (3 : Int32)), (.int (3 : Int32))]))
    refine own_go (fun _ q => XS.icmpYes X14.here hx rfl (pc0 := 203) (pc' := 227) rfl (hb hby at_203) rfl (flt (by decide : ¬ ((3 : Int32) < (3 : Int32)))).2.2.2 (by decide) (by decide) q) ?_
    show own_Go _ _ _ _ _ _ _ (T14.setTop (mkF m 227 #[.val (.int p0), .val (.int p1), .val (.int p2), .val (.int p3), .val (.int p4), .val (.int p5), .val (.int (3 : Int32)), .val (.ref b10), .val (.int p1), .val (.int (p1 + p2)), .val (.int ((p1 + p2) + p3)), .val (.int (((p1 + p2) + p3) + p4)), .val (.int ((((p1 + p2) + p3) + p4) + p5)), .val (.int (1 : Int32))] []))
    refine own_go (fun _ q => XS.iload X14.here hx rfl (hb hby at_227) rfl q) ?_
    show own_Go _ _ _ _ _ _ _ (T14.setTop (mkF m 229 #[.val (.int p0), .val (.int p1), .val (.int p2), .val (.int p3), .val (.int p4), .val (.int p5), .val (.int (3 : Int32)), .val (.ref b10), .val (.int p1), .val (.int (p1 + p2)), .val (.int ((p1 + p2) + p3)), .val (.int (((p1 + p2) + p3) + p4)), .val (.int ((((p1 + p2) + p3) + p4) + p5)), .val (.int (1 : Int32))] [(.int (3 : Int32))]))
    refine own_go (fun _ q => XS.iconst X14.here hx rfl (hb hby at_229) q) ?_
    show own_Go _ _ _ _ _ _ _ (T14.setTop (mkF m 230 #[.val (.int p0), .val (.int p1), .val (.int p2), .val (.int p3), .val (.int p4), .val (.int p5), .val (.int (3 : Int32)), .val (.ref b10), .val (.int p1), .val (.int (p1 + p2)), .val (.int ((p1 + p2) + p3)), .val (.int (((p1 + p2) + p3) + p4)), .val (.int ((((p1 + p2) + p3) + p4) + p5)), .val (.int (1 : Int32))] [(.int (4 : Int32)), (.int (3 : Int32))]))
    refine own_go (fun _ q => XS.icmpYes X14.here hx rfl (pc0 := 230) (pc' := 254) rfl (hb hby at_230) rfl (flt (by decide : ¬ ((4 : Int32) < (3 : Int32)))).2.2.2 (by decide) (by decide) q) ?_
    show own_Go _ _ _ _ _ _ _ (T14.setTop (mkF m 254 #[.val (.int p0), .val (.int p1), .val (.int p2), .val (.int p3), .val (.int p4), .val (.int p5), .val (.int (3 : Int32)), .val (.ref b10), .val (.int p1), .val (.int (p1 + p2)), .val (.int ((p1 + p2) + p3)), .val (.int (((p1 + p2) + p3) + p4)), .val (.int ((((p1 + p2) + p3) + p4) + p5)), .val (.int (1 : Int32))] []))
    refine own_go (fun _ q => XS.iload X14.here hx rfl (hb hby at_254) rfl q) ?_
    show own_Go _ _ _ _ _ _ _ (T14.setTop (mkF m 256 #[.val (.int p0), .val (.int p1), .val (.int p2), .val (.int p3), .val (.int p4), .val (.int p5), .val (.int (3 : Int32)), .val (.ref b10), .val (.int p1), .val (.int (p1 + p2)), .val (.int ((p1 + p2) + p3)), .val (.int (((p1 + p2) + p3) + p4)), .val (.int ((((p1 + p2) + p3) + p4) + p5)), .val (.int (1 : Int32))] [(.int (1 : Int32))]))
    exact own_retZ X14 hx hlk hret (hb hby at_256) (by decide) (by decide) (by decide) ⟨rfl, N14⟩
  · rw [q]
    show own_Go _ _ _ _ _ _ _ (s₁.setTop (mkF m 11 #[.val (.int p0), .val (.int p1), .val (.int p2), .val (.int p3), .val (.int p4), .val (.int p5), .val (.int (4 : Int32)), .unset, .unset, .unset, .unset, .unset, .unset, .unset] [(.int (4 : Int32))]))
    obtain ⟨T15, h15, k15, X15, e15, E15, Aw15, st15⟩ := newP X0 hx hZ (hw _ (List.mem_of_getElem? (i := 1) rfl)) e0 (g := (mkF m 11 #[.val (.int p0), .val (.int p1), .val (.int p2), .val (.int p3), .val (.int p4), .val (.int p5), .val (.int (4 : Int32)), .unset, .unset, .unset, .unset, .unset, .unset, .unset] [(.int (4 : Int32))])) rfl (hb hby at_11) rfl (by decide) (cap := 4) (by decide) (by decide) (by decide) (by decide)
    obtain ⟨b15, g15⟩ : ∃ z, z = h0.size := ⟨_, rfl⟩
    rw [← g15] at Aw15 st15
    have A15 := own_Ar.new (nn := 4) Aw15 (by decide) rfl
    have G15 : n0 ≤ b15 := by have := Z0; omega
    have Z15 : n0 ≤ h15.size := Nat.le_trans Z0 E15.1
    refine own_go st15 ?_
    show own_Go _ _ _ _ _ _ _ (T15.setTop (mkF m 13 #[.val (.int p0), .val (.int p1), .val (.int p2), .val (.int p3), .val (.int p4), .val (.int p5), .val (.int (4 : Int32)), .unset, .unset, .unset, .unset, .unset, .unset, .unset] [(.ref b15)]))
    have G15 : n0 ≤ b15 := Nat.le_trans Z0 (Nat.le_of_eq g15.symm)
    refine own_go (fun _ q => XS.astore X15.here hx rfl (hb hby at_13) rfl rfl (l' := #[.val (.int p0), .val (.int p1), .val (.int p2), .val (.int p3), .val (.int p4), .val (.int p5), .val (.int (4 : Int32)), .val (.ref b15), .unset, .unset, .unset, .unset, .unset, .unset]) rfl q) ?_
    show own_Go _ _ _ _ _ _ _ (T15.setTop (mkF m 15 #[.val (.int p0), .val (.int p1), .val (.int p2), .val (.int p3), .val (.int p4), .val (.int p5), .val (.int (4 : Int32)), .val (.ref b15), .unset, .unset, .unset, .unset, .unset, .unset] []))
    refine own_go (fun _ q => XS.iload X15.here hx rfl (hb hby at_15) rfl q) ?_
    show own_Go _ _ _ _ _ _ _ (T15.setTop (mkF m 17 #[.val (.int p0), .val (.int p1), .val (.int p2), .val (.int p3), .val (.int p4), .val (.int p5), .val (.int (4 : Int32)), .val (.ref b15), .unset, .unset, .unset, .unset, .unset, .unset] [(.int (4 : Int32))]))
    refine own_go (fun _ q => XS.ifNo X15.here hx rfl (hb hby at_17) rfl ((if0 _ _).trans (tlt (by decide : (0 : Int32) < (4 : Int32))).2.2.2) q) ?_
    show own_Go _ _ _ _ _ _ _ (T15.setTop (mkF m 20 #[.val (.int p0), .val (.int p1), .val (.int p2), .val (.int p3), .val (.int p4), .val (.int p5), .val (.int (4 : Int32)), .val (.ref b15), .unset, .unset, .unset, .unset, .unset, .unset] []))
    refine own_go (fun _ q => XS.aload X15.here hx rfl (hb hby at_20) rfl rfl q) ?_
    show own_Go _ _ _ _ _ _ _ (T15.setTop (mkF m 22 #[.val (.int p0), .val (.int p1), .val (.int p2), .val (.int p3), .val (.int p4), .val (.int p5), .val (.int (4 : Int32)), .val (.ref b15), .unset, .unset, .unset, .unset, .unset, .unset] [(.ref b15)]))
    refine own_go (fun _ q => XS.iconst X15.here hx rfl (hb hby at_22) q) ?_
    show own_Go _ _ _ _ _ _ _ (T15.setTop (mkF m 23 #[.val (.int p0), .val (.int p1), .val (.int p2), .val (.int p3), .val (.int p4), .val (.int p5), .val (.int (4 : Int32)), .val (.ref b15), .unset, .unset, .unset, .unset, .unset, .unset] [(.int (0 : Int32)), (.ref b15)]))
    refine own_go (fun _ q => XS.iloadN X15.here hx rfl (hb hby at_23) rfl q) ?_
    show own_Go _ _ _ _ _ _ _ (T15.setTop (mkF m 24 #[.val (.int p0), .val (.int p1), .val (.int p2), .val (.int p3), .val (.int p4), .val (.int p5), .val (.int (4 : Int32)), .val (.ref b15), .unset, .unset, .unset, .unset, .unset, .unset] [(.int p1), (.int (0 : Int32)), (.ref b15)]))
    refine own_iastore X15 hx hZ e15 (i := 0) A15 rfl (by decide) (hb hby at_24) rfl ?_
    intro T16 h16 X16 e16 W16 A16
    have N16 := Fr.snoc X16 N0 G15
    have Z16 : n0 ≤ h16.size := by rw [W16.size]; exact Z15
    show own_Go _ _ _ _ _ _ _ (T16.setTop (mkF m 25 #[.val (.int p0), .val (.int p1), .val (.int p2), .val (.int p3), .val (.int p4), .val (.int p5), .val (.int (4 : Int32)), .val (.ref b15), .unset, .unset, .unset, .unset, .unset, .unset] []))
    refine own_go (fun _ q => XS.iload X16.here hx rfl (hb hby at_25) rfl q) ?_
    show own_Go _ _ _ _ _ _ _ (T16.setTop (mkF m 27 #[.val (.int p0), .val (.int p1), .val (.int p2), .val (.int p3), .val (.int p4), .val (.int p5), .val (.int (4 : Int32)), .val (.ref b15), .unset, .unset, .unset, .unset, .unset, .unset] [(.int (4 : Int32))]))
    refine own_go (fun _ q => XS.iconst X16.here hx rfl (hb hby at_27) q) ?_
    show own_Go _ _ _ _ _ _ _ (T16.setTop (mkF m 28 #[.val (.int p0), .val (.int p1), .val (.int p2), .val (.int p3), .val (.int p4), .val (.int p5), .val (.int (4 : Int32)), .val (.ref b15), .unset, .unset, .unset, .unset, .unset, .unset] [(.int (1 : Int32)), (.int (4 : Int32))]))
    refine own_go (fun _ q => XS.icmpNo X16.here hx rfl (hb hby at_28) rfl (tlt (by decide : (1 : Int32) < (4 : Int32))).2.2.2 q) ?_
    show own_Go _ _ _ _ _ _ _ (T16.setTop (mkF m 31 #[.val (.int p0), .val (.int p1), .val (.int p2), .val (.int p3), .val (.int p4), .val (.int p5), .val (.int (4 : Int32)), .val (.ref b15), .unset, .unset, .unset, .unset, .unset, .unset] []))
    refine own_go (fun _ q => XS.aload X16.here hx rfl (hb hby at_31) rfl rfl q) ?_
    show own_Go _ _ _ _ _ _ _ (T16.setTop (mkF m 33 #[.val (.int p0), .val (.int p1), .val (.int p2), .val (.int p3), .val (.int p4), .val (.int p5), .val (.int (4 : Int32)), .val (.ref b15), .unset, .unset, .unset, .unset, .unset, .unset] [(.ref b15)]))
    refine own_go (fun _ q => XS.iconst X16.here hx rfl (hb hby at_33) q) ?_
    show own_Go _ _ _ _ _ _ _ (T16.setTop (mkF m 34 #[.val (.int p0), .val (.int p1), .val (.int p2), .val (.int p3), .val (.int p4), .val (.int p5), .val (.int (4 : Int32)), .val (.ref b15), .unset, .unset, .unset, .unset, .unset, .unset] [(.int (1 : Int32)), (.ref b15)]))
    refine own_go (fun _ q => XS.iloadN X16.here hx rfl (hb hby at_34) rfl q) ?_
    show own_Go _ _ _ _ _ _ _ (T16.setTop (mkF m 35 #[.val (.int p0), .val (.int p1), .val (.int p2), .val (.int p3), .val (.int p4), .val (.int p5), .val (.int (4 : Int32)), .val (.ref b15), .unset, .unset, .unset, .unset, .unset, .unset] [(.int p2), (.int (1 : Int32)), (.ref b15)]))
    refine own_iastore X16 hx hZ e16 (i := 1) A16 rfl (by decide) (hb hby at_35) rfl ?_
    intro T17 h17 X17 e17 W17 A17
    have N17 := Fr.snoc X17 N16 G15
    have Z17 : n0 ≤ h17.size := by rw [W17.size]; exact Z16
    show own_Go _ _ _ _ _ _ _ (T17.setTop (mkF m 36 #[.val (.int p0), .val (.int p1), .val (.int p2), .val (.int p3), .val (.int p4), .val (.int p5), .val (.int (4 : Int32)), .val (.ref b15), .unset, .unset, .unset, .unset, .unset, .unset] []))
    refine own_go (fun _ q => XS.iload X17.here hx rfl (hb hby at_36) rfl q) ?_
    show own_Go _ _ _ _ _ _ _ (T17.setTop (mkF m 38 #[.val (.int p0), .val (.int p1), .val (.int p2), .val (.int p3), .val (.int p4), .val (.int p5), .val (.int (4 : Int32)), .val (.ref b15), .unset, .unset, .unset, .unset, .unset, .unset] [(.int (4 : Int32))]))
    refine own_go (fun _ q => XS.iconst X17.here hx rfl (hb hby at_38) q) ?_
    show own_Go _ _ _ _ _ _ _ (T17.setTop (mkF m 39 #[.val (.int p0), .val (.int p1), .val (.int p2), .val (.int p3), .val (.int p4), .val (.int p5), .val (.int (4 : Int32)), .val (.ref b15), .unset, .unset, .unset, .unset, .unset, .unset] [(.int (2 : Int32)), (.int (4 : Int32))]))
    refine own_go (fun _ q => XS.icmpNo X17.here hx rfl (hb hby at_39) rfl (tlt (by decide : (2 : Int32) < (4 : Int32))).2.2.2 q) ?_
    show own_Go _ _ _ _ _ _ _ (T17.setTop (mkF m 42 #[.val (.int p0), .val (.int p1), .val (.int p2), .val (.int p3), .val (.int p4), .val (.int p5), .val (.int (4 : Int32)), .val (.ref b15), .unset, .unset, .unset, .unset, .unset, .unset] []))
    refine own_go (fun _ q => XS.aload X17.here hx rfl (hb hby at_42) rfl rfl q) ?_
    show own_Go _ _ _ _ _ _ _ (T17.setTop (mkF m 44 #[.val (.int p0), .val (.int p1), .val (.int p2), .val (.int p3), .val (.int p4), .val (.int p5), .val (.int (4 : Int32)), .val (.ref b15), .unset, .unset, .unset, .unset, .unset, .unset] [(.ref b15)]))
    refine own_go (fun _ q => XS.iconst X17.here hx rfl (hb hby at_44) q) ?_
    show own_Go _ _ _ _ _ _ _ (T17.setTop (mkF m 45 #[.val (.int p0), .val (.int p1), .val (.int p2), .val (.int p3), .val (.int p4), .val (.int p5), .val (.int (4 : Int32)), .val (.ref b15), .unset, .unset, .unset, .unset, .unset, .unset] [(.int (2 : Int32)), (.ref b15)]))
    refine own_go (fun _ q => XS.iloadN X17.here hx rfl (hb hby at_45) rfl q) ?_
    show own_Go _ _ _ _ _ _ _ (T17.setTop (mkF m 46 #[.val (.int p0), .val (.int p1), .val (.int p2), .val (.int p3), .val (.int p4), .val (.int p5), .val (.int (4 : Int32)), .val (.ref b15), .unset, .unset, .unset, .unset, .unset, .unset] [(.int p3), (.int (2 : Int32)), (.ref b15)]))
    refine own_iastore X17 hx hZ e17 (i := 2) A17 rfl (by decide) (hb hby at_46) rfl ?_
    intro T18 h18 X18 e18 W18 A18
    have N18 := Fr.snoc X18 N17 G15
    have Z18 : n0 ≤ h18.size := by rw [W18.size]; exact Z17
    show own_Go _ _ _ _ _ _ _ (T18.setTop (mkF m 47 #[.val (.int p0), .val (.int p1), .val (.int p2), .val (.int p3), .val (.int p4), .val (.int p5), .val (.int (4 : Int32)), .val (.ref b15), .unset, .unset, .unset, .unset, .unset, .unset] []))
    refine own_go (fun _ q => XS.iload X18.here hx rfl (hb hby at_47) rfl q) ?_
    show own_Go _ _ _ _ _ _ _ (T18.setTop (mkF m 49 #[.val (.int p0), .val (.int p1), .val (.int p2), .val (.int p3), .val (.int p4), .val (.int p5), .val (.int (4 : Int32)), .val (.ref b15), .unset, .unset, .unset, .unset, .unset, .unset] [(.int (4 : Int32))]))
    refine own_go (fun _ q => XS.iconst X18.here hx rfl (hb hby at_49) q) ?_
    show own_Go _ _ _ _ _ _ _ (T18.setTop (mkF m 50 #[.val (.int p0), .val (.int p1), .val (.int p2), .val (.int p3), .val (.int p4), .val (.int p5), .val (.int (4 : Int32)), .val (.ref b15), .unset, .unset, .unset, .unset, .unset, .unset] [(.int (3 : Int32)), (.int (4 : Int32))]))
    refine own_go (fun _ q => XS.icmpNo X18.here hx rfl (hb hby at_50) rfl (tlt (by decide : (3 : Int32) < (4 : Int32))).2.2.2 q) ?_
    show own_Go _ _ _ _ _ _ _ (T18.setTop (mkF m 53 #[.val (.int p0), .val (.int p1), .val (.int p2), .val (.int p3), .val (.int p4), .val (.int p5), .val (.int (4 : Int32)), .val (.ref b15), .unset, .unset, .unset, .unset, .unset, .unset] []))
    refine own_go (fun _ q => XS.aload X18.here hx rfl (hb hby at_53) rfl rfl q) ?_
    show own_Go _ _ _ _ _ _ _ (T18.setTop (mkF m 55 #[.val (.int p0), .val (.int p1), .val (.int p2), .val (.int p3), .val (.int p4), .val (.int p5), .val (.int (4 : Int32)), .val (.ref b15), .unset, .unset, .unset, .unset, .unset, .unset] [(.ref b15)]))
    refine own_go (fun _ q => XS.iconst X18.here hx rfl (hb hby at_55) q) ?_
    show own_Go _ _ _ _ _ _ _ (T18.setTop (mkF m 56 #[.val (.int p0), .val (.int p1), .val (.int p2), .val (.int p3), .val (.int p4), .val (.int p5), .val (.int (4 : Int32)), .val (.ref b15), .unset, .unset, .unset, .unset, .unset, .unset] [(.int (3 : Int32)), (.ref b15)]))
    refine own_go (fun _ q => XS.iload X18.here hx rfl (hb hby at_56) rfl q) ?_
    show own_Go _ _ _ _ _ _ _ (T18.setTop (mkF m 58 #[.val (.int p0), .val (.int p1), .val (.int p2), .val (.int p3), .val (.int p4), .val (.int p5), .val (.int (4 : Int32)), .val (.ref b15), .unset, .unset, .unset, .unset, .unset, .unset] [(.int p4), (.int (3 : Int32)), (.ref b15)]))
    refine own_iastore X18 hx hZ e18 (i := 3) A18 rfl (by decide) (hb hby at_58) rfl ?_
    intro T19 h19 X19 e19 W19 A19
    have N19 := Fr.snoc X19 N18 G15
    have Z19 : n0 ≤ h19.size := by rw [W19.size]; exact Z18
    show own_Go _ _ _ _ _ _ _ (T19.setTop (mkF m 59 #[.val (.int p0), .val (.int p1), .val (.int p2), .val (.int p3), .val (.int p4), .val (.int p5), .val (.int (4 : Int32)), .val (.ref b15), .unset, .unset, .unset, .unset, .unset, .unset] []))
    refine own_go (fun _ q => XS.iload X19.here hx rfl (hb hby at_59) rfl q) ?_
    show own_Go _ _ _ _ _ _ _ (T19.setTop (mkF m 61 #[.val (.int p0), .val (.int p1), .val (.int p2), .val (.int p3), .val (.int p4), .val (.int p5), .val (.int (4 : Int32)), .val (.ref b15), .unset, .unset, .unset, .unset, .unset, .unset] [(.int (4 : Int32))]))
    refine own_go (fun _ q => XS.iconst X19.here hx rfl (hb hby at_61) q) ?_
    show own_Go _ _ _ _ _ _ _ (T19.setTop (mkF m 62 #[.val (.int p0), .val (.int p1), .val (.int p2), .val (.int p3), .val (.int p4), .val (.int p5), .val (.int (4 : Int32)), .val (.ref b15), .unset, .unset, .unset, .unset, .unset, .unset] [(.int (4 : Int32)), (.int (4 : Int32))]))
    refine own_go (fun _ q => XS.icmpYes X19.here hx rfl (pc0 := 62) (pc' := 71) rfl (hb hby at_62) rfl (flt (by decide : ¬ ((4 : Int32) < (4 : Int32)))).2.2.2 (by decide) (by decide) q) ?_
    show own_Go _ _ _ _ _ _ _ (T19.setTop (mkF m 71 #[.val (.int p0), .val (.int p1), .val (.int p2), .val (.int p3), .val (.int p4), .val (.int p5), .val (.int (4 : Int32)), .val (.ref b15), .unset, .unset, .unset, .unset, .unset, .unset] []))
    refine own_go (fun _ q => XS.aload X19.here hx rfl (hb hby at_71) rfl rfl q) ?_
    show own_Go _ _ _ _ _ _ _ (T19.setTop (mkF m 73 #[.val (.int p0), .val (.int p1), .val (.int p2), .val (.int p3), .val (.int p4), .val (.int p5), .val (.int (4 : Int32)), .val (.ref b15), .unset, .unset, .unset, .unset, .unset, .unset] [(.ref b15)]))
    have A0 : own_Ar Z h19 b15 .int 4 (fun j => .int (own_f p1 p2 p3 p4 p5 j)) := A19.eqv (fun j hj => by
        have : j = 0 ∨ j = 1 ∨ j = 2 ∨ j = 3 := by omega
        rcases this with rfl | rfl | rfl | rfl <;> rfl)
    have Z1 : n0 ≤ h19.size := by have := A0.lt; omega
    refine own_static X19 hx hZ hown (hw _ (List.mem_of_getElem? (i := 2) rfl)) (hw _ (List.mem_of_getElem? (i := 3) rfl)) (hw _ (List.mem_of_getElem? (i := 4) rfl)) (hw _ (List.mem_of_getElem? (i := 5) rfl)) (by decide) e19 (argsL := [(.ref b15)]) (rest := []) (rm1 l Z a0 hw [] b15 (own_f p1 p2 p3 p4 p5) 4 h19 n0 Z1 A0 G15 (by decide) (4 : Int32) rfl) 0 (by decide) (by decide) (by decide) (by decide) (by rw [hml]; rfl) pd_0 rfl rfl (Nat.le_of_eq rfl) (hb hby at_73) rfl ?_
    intro v20 T20 L20 X20 hQ20
    obtain ⟨rfl, N20q, A20⟩ := hQ20
    have N20 := Fr.app N19 N20q
    show own_Go _ _ _ _ _ _ _ (T20.setTop (mkF m 76 #[.val (.int p0), .val (.int p1), .val (.int p2), .val (.int p3), .val (.int p4), .val (.int p5), .val (.int (4 : Int32)), .val (.ref b15), .unset, .unset, .unset, .unset, .unset, .unset] []))
    refine own_go (fun _ q => XS.iloadN X20.here hx rfl (hb hby at_76) rfl q) ?_
    show own_Go _ _ _ _ _ _ _ (T20.setTop (mkF m 77 #[.val (.int p0), .val (.int p1), .val (.int p2), .val (.int p3), .val (.int p4), .val (.int p5), .val (.int (4 : Int32)), .val (.ref b15), .unset, .unset, .unset, .unset, .unset, .unset] [(.int p1)]))
    refine own_go (fun _ q => XS.istore X20.here hx rfl (hb hby at_77) rfl (l' := #[.val (.int p0), .val (.int p1), .val (.int p2), .val (.int p3), .val (.int p4), .val (.int p5), .val (.int (4 : Int32)), .val (.ref b15), .val (.int p1), .unset, .unset, .unset, .unset, .unset]) rfl q) ?_
    show own_Go _ _ _ _ _ _ _ (T20.setTop (mkF m 79 #[.val (.int p0), .val (.int p1), .val (.int p2), .val (.int p3), .val (.int p4), .val (.int p5), .val (.int (4 : Int32)), .val (.ref b15), .val (.int p1), .unset, .unset, .unset, .unset, .unset] []))
    refine own_go (fun _ q => XS.iload X20.here hx rfl (hb hby at_79) rfl q) ?_
    show own_Go _ _ _ _ _ _ _ (T20.setTop (mkF m 81 #[.val (.int p0), .val (.int p1), .val (.int p2), .val (.int p3), .val (.int p4), .val (.int p5), .val (.int (4 : Int32)), .val (.ref b15), .val (.int p1), .unset, .unset, .unset, .unset, .unset] [(.int p1)]))
    refine own_go (fun _ q => XS.iloadN X20.here hx rfl (hb hby at_81) rfl q) ?_
    show own_Go _ _ _ _ _ _ _ (T20.setTop (mkF m 82 #[.val (.int p0), .val (.int p1), .val (.int p2), .val (.int p3), .val (.int p4), .val (.int p5), .val (.int (4 : Int32)), .val (.ref b15), .val (.int p1), .unset, .unset, .unset, .unset, .unset] [(.int p2), (.int p1)]))
    refine own_go (fun _ q => XS.iadd X20.here hx rfl (hb hby at_82) rfl q) ?_
    show own_Go _ _ _ _ _ _ _ (T20.setTop (mkF m 83 #[.val (.int p0), .val (.int p1), .val (.int p2), .val (.int p3), .val (.int p4), .val (.int p5), .val (.int (4 : Int32)), .val (.ref b15), .val (.int p1), .unset, .unset, .unset, .unset, .unset] [(.int (p1 + p2))]))
    refine own_go (fun _ q => XS.istore X20.here hx rfl (hb hby at_83) rfl (l' := #[.val (.int p0), .val (.int p1), .val (.int p2), .val (.int p3), .val (.int p4), .val (.int p5), .val (.int (4 : Int32)), .val (.ref b15), .val (.int p1), .val (.int (p1 + p2)), .unset, .unset, .unset, .unset]) rfl q) ?_
    show own_Go _ _ _ _ _ _ _ (T20.setTop (mkF m 85 #[.val (.int p0), .val (.int p1), .val (.int p2), .val (.int p3), .val (.int p4), .val (.int p5), .val (.int (4 : Int32)), .val (.ref b15), .val (.int p1), .val (.int (p1 + p2)), .unset, .unset, .unset, .unset] []))
    refine own_go (fun _ q => XS.iload X20.here hx rfl (hb hby at_85) rfl q) ?_
    show own_Go _ _ _ _ _ _ _ (T20.setTop (mkF m 87 #[.val (.int p0), .val (.int p1), .val (.int p2), .val (.int p3), .val (.int p4), .val (.int p5), .val (.int (4 : Int32)), .val (.ref b15), .val (.int p1), .val (.int (p1 + p2)), .unset, .unset, .unset, .unset] [(.int (p1 + p2))]))
    refine own_go (fun _ q => XS.iloadN X20.here hx rfl (hb hby at_87) rfl q) ?_
    show own_Go _ _ _ _ _ _ _ (T20.setTop (mkF m 88 #[.val (.int p0), .val (.int p1), .val (.int p2), .val (.int p3), .val (.int p4), .val (.int p5), .val (.int (4 : Int32)), .val (.ref b15), .val (.int p1), .val (.int (p1 + p2)), .unset, .unset, .unset, .unset] [(.int p3), (.int (p1 + p2))]))
    refine own_go (fun _ q => XS.iadd X20.here hx rfl (hb hby at_88) rfl q) ?_
    show own_Go _ _ _ _ _ _ _ (T20.setTop (mkF m 89 #[.val (.int p0), .val (.int p1), .val (.int p2), .val (.int p3), .val (.int p4), .val (.int p5), .val (.int (4 : Int32)), .val (.ref b15), .val (.int p1), .val (.int (p1 + p2)), .unset, .unset, .unset, .unset] [(.int ((p1 + p2) + p3))]))
    refine own_go (fun _ q => XS.istore X20.here hx rfl (hb hby at_89) rfl (l' := #[.val (.int p0), .val (.int p1), .val (.int p2), .val (.int p3), .val (.int p4), .val (.int p5), .val (.int (4 : Int32)), .val (.ref b15), .val (.int p1), .val (.int (p1 + p2)), .val (.int ((p1 + p2) + p3)), .unset, .unset, .unset]) rfl q) ?_
    show own_Go _ _ _ _ _ _ _ (T20.setTop (mkF m 91 #[.val (.int p0), .val (.int p1), .val (.int p2), .val (.int p3), .val (.int p4), .val (.int p5), .val (.int (4 : Int32)), .val (.ref b15), .val (.int p1), .val (.int (p1 + p2)), .val (.int ((p1 + p2) + p3)), .unset, .unset, .unset] []))
    refine own_go (fun _ q => XS.iload X20.here hx rfl (hb hby at_91) rfl q) ?_
    show own_Go _ _ _ _ _ _ _ (T20.setTop (mkF m 93 #[.val (.int p0), .val (.int p1), .val (.int p2), .val (.int p3), .val (.int p4), .val (.int p5), .val (.int (4 : Int32)), .val (.ref b15), .val (.int p1), .val (.int (p1 + p2)), .val (.int ((p1 + p2) + p3)), .unset, .unset, .unset] [(.int ((p1 + p2) + p3))]))
    refine own_go (fun _ q => XS.iload X20.here hx rfl (hb hby at_93) rfl q) ?_
    show own_Go _ _ _ _ _ _ _ (T20.setTop (mkF m 95 #[.val (.int p0), .val (.int p1), .val (.int p2), .val (.int p3), .val (.int p4), .val (.int p5), .val (.int (4 : Int32)), .val (.ref b15), .val (.int p1), .val (.int (p1 + p2)), .val (.int ((p1 + p2) + p3)), .unset, .unset, .unset] [(.int p4), (.int ((p1 + p2) + p3))]))
    refine own_go (fun _ q => XS.iadd X20.here hx rfl (hb hby at_95) rfl q) ?_
    show own_Go _ _ _ _ _ _ _ (T20.setTop (mkF m 96 #[.val (.int p0), .val (.int p1), .val (.int p2), .val (.int p3), .val (.int p4), .val (.int p5), .val (.int (4 : Int32)), .val (.ref b15), .val (.int p1), .val (.int (p1 + p2)), .val (.int ((p1 + p2) + p3)), .unset, .unset, .unset] [(.int (((p1 + p2) + p3) + p4))]))
    refine own_go (fun _ q => XS.istore X20.here hx rfl (hb hby at_96) rfl (l' := #[.val (.int p0), .val (.int p1), .val (.int p2), .val (.int p3), .val (.int p4), .val (.int p5), .val (.int (4 : Int32)), .val (.ref b15), .val (.int p1), .val (.int (p1 + p2)), .val (.int ((p1 + p2) + p3)), .val (.int (((p1 + p2) + p3) + p4)), .unset, .unset]) rfl q) ?_
    show own_Go _ _ _ _ _ _ _ (T20.setTop (mkF m 98 #[.val (.int p0), .val (.int p1), .val (.int p2), .val (.int p3), .val (.int p4), .val (.int p5), .val (.int (4 : Int32)), .val (.ref b15), .val (.int p1), .val (.int (p1 + p2)), .val (.int ((p1 + p2) + p3)), .val (.int (((p1 + p2) + p3) + p4)), .unset, .unset] []))
    refine own_go (fun _ q => XS.iload X20.here hx rfl (hb hby at_98) rfl q) ?_
    show own_Go _ _ _ _ _ _ _ (T20.setTop (mkF m 100 #[.val (.int p0), .val (.int p1), .val (.int p2), .val (.int p3), .val (.int p4), .val (.int p5), .val (.int (4 : Int32)), .val (.ref b15), .val (.int p1), .val (.int (p1 + p2)), .val (.int ((p1 + p2) + p3)), .val (.int (((p1 + p2) + p3) + p4)), .unset, .unset] [(.int (((p1 + p2) + p3) + p4))]))
    refine own_go (fun _ q => XS.iload X20.here hx rfl (hb hby at_100) rfl q) ?_
    show own_Go _ _ _ _ _ _ _ (T20.setTop (mkF m 102 #[.val (.int p0), .val (.int p1), .val (.int p2), .val (.int p3), .val (.int p4), .val (.int p5), .val (.int (4 : Int32)), .val (.ref b15), .val (.int p1), .val (.int (p1 + p2)), .val (.int ((p1 + p2) + p3)), .val (.int (((p1 + p2) + p3) + p4)), .unset, .unset] [(.int p5), (.int (((p1 + p2) + p3) + p4))]))
    refine own_go (fun _ q => XS.iadd X20.here hx rfl (hb hby at_102) rfl q) ?_
    show own_Go _ _ _ _ _ _ _ (T20.setTop (mkF m 103 #[.val (.int p0), .val (.int p1), .val (.int p2), .val (.int p3), .val (.int p4), .val (.int p5), .val (.int (4 : Int32)), .val (.ref b15), .val (.int p1), .val (.int (p1 + p2)), .val (.int ((p1 + p2) + p3)), .val (.int (((p1 + p2) + p3) + p4)), .unset, .unset] [(.int ((((p1 + p2) + p3) + p4) + p5))]))
    refine own_go (fun _ q => XS.istore X20.here hx rfl (hb hby at_103) rfl (l' := #[.val (.int p0), .val (.int p1), .val (.int p2), .val (.int p3), .val (.int p4), .val (.int p5), .val (.int (4 : Int32)), .val (.ref b15), .val (.int p1), .val (.int (p1 + p2)), .val (.int ((p1 + p2) + p3)), .val (.int (((p1 + p2) + p3) + p4)), .val (.int ((((p1 + p2) + p3) + p4) + p5)), .unset]) rfl q) ?_
    show own_Go _ _ _ _ _ _ _ (T20.setTop (mkF m 105 #[.val (.int p0), .val (.int p1), .val (.int p2), .val (.int p3), .val (.int p4), .val (.int p5), .val (.int (4 : Int32)), .val (.ref b15), .val (.int p1), .val (.int (p1 + p2)), .val (.int ((p1 + p2) + p3)), .val (.int (((p1 + p2) + p3) + p4)), .val (.int ((((p1 + p2) + p3) + p4) + p5)), .unset] []))
    refine own_go (fun _ q => XS.aload X20.here hx rfl (hb hby at_105) rfl rfl q) ?_
    show own_Go _ _ _ _ _ _ _ (T20.setTop (mkF m 107 #[.val (.int p0), .val (.int p1), .val (.int p2), .val (.int p3), .val (.int p4), .val (.int p5), .val (.int (4 : Int32)), .val (.ref b15), .val (.int p1), .val (.int (p1 + p2)), .val (.int ((p1 + p2) + p3)), .val (.int (((p1 + p2) + p3) + p4)), .val (.int ((((p1 + p2) + p3) + p4) + p5)), .unset] [(.ref b15)]))
    refine own_length (z := (4 : Int32)) X20 hx hZ rfl A20 rfl (hb hby at_107) rfl ?_
    show own_Go _ _ _ _ _ _ _ (T20.setTop (mkF m 108 #[.val (.int p0), .val (.int p1), .val (.int p2), .val (.int p3), .val (.int p4), .val (.int p5), .val (.int (4 : Int32)), .val (.ref b15), .val (.int p1), .val (.int (p1 + p2)), .val (.int ((p1 + p2) + p3)), .val (.int (((p1 + p2) + p3) + p4)), .val (.int ((((p1 + p2) + p3) + p4) + p5)), .unset] [(.int (4 : Int32))]))
    refine own_go (fun _ q => XS.iload X20.here hx rfl (hb hby at_108) rfl q) ?_
    show own_Go _ _ _ _ _ _ _ (T20.setTop (mkF m 110 #[.val (.int p0), .val (.int p1), .val (.int p2), .val (.int p3), .val (.int p4), .val (.int p5), .val (.int (4 : Int32)), .val (.ref b15), .val (.int p1), .val (.int (p1 + p2)), .val (.int ((p1 + p2) + p3)), .val (.int (((p1 + p2) + p3) + p4)), .val (.int ((((p1 + p2) + p3) + p4) + p5)), .unset] [(.int (4 : Int32)), (.int (4 : Int32))]))
    refine own_go (fun _ q => XS.icmpNo X20.here hx rfl (hb hby at_110) rfl (teq (by decide : (4 : Int32) = (4 : Int32))).2 q) ?_
    show own_Go _ _ _ _ _ _ _ (T20.setTop (mkF m 113 #[.val (.int p0), .val (.int p1), .val (.int p2), .val (.int p3), .val (.int p4), .val (.int p5), .val (.int (4 : Int32)), .val (.ref b15), .val (.int p1), .val (.int (p1 + p2)), .val (.int ((p1 + p2) + p3)), .val (.int (((p1 + p2) + p3) + p4)), .val (.int ((((p1 + p2) + p3) + p4) + p5)), .unset] []))
    refine own_go (fun _ q => XS.iconst X20.here hx rfl (hb hby at_113) q) ?_
    show own_Go _ _ _ _ _ _ _ (T20.setTop (mkF m 114 #[.val (.int p0), .val (.int p1), .val (.int p2), .val (.int p3), .val (.int p4), .val (.int p5), .val (.int (4 : Int32)), .val (.ref b15), .val (.int p1), .val (.int (p1 + p2)), .val (.int ((p1 + p2) + p3)), .val (.int (((p1 + p2) + p3) + p4)), .val (.int ((((p1 + p2) + p3) + p4) + p5)), .unset] [(.int (1 : Int32))]))
    refine own_go (fun _ q => XS.goto X20.here hx rfl (pc0 := 114) (pc' := 118) rfl (hb hby at_114) (by decide) (by decide) q) ?_
    show own_Go _ _ _ _ _ _ _ (T20.setTop (mkF m 118 #[.val (.int p0), .val (.int p1), .val (.int p2), .val (.int p3), .val (.int p4), .val (.int p5), .val (.int (4 : Int32)), .val (.ref b15), .val (.int p1), .val (.int (p1 + p2)), .val (.int ((p1 + p2) + p3)), .val (.int (((p1 + p2) + p3) + p4)), .val (.int ((((p1 + p2) + p3) + p4) + p5)), .unset] [(.int (1 : Int32))]))
    refine own_go (fun _ q => XS.istore X20.here hx rfl (hb hby at_118) rfl (l' := #[.val (.int p0), .val (.int p1), .val (.int p2), .val (.int p3), .val (.int p4), .val (.int p5), .val (.int (4 : Int32)), .val (.ref b15), .val (.int p1), .val (.int (p1 + p2)), .val (.int ((p1 + p2) + p3)), .val (.int (((p1 + p2) + p3) + p4)), .val (.int ((((p1 + p2) + p3) + p4) + p5)), .val (.int (1 : Int32))]) rfl q) ?_
    show own_Go _ _ _ _ _ _ _ (T20.setTop (mkF m 120 #[.val (.int p0), .val (.int p1), .val (.int p2), .val (.int p3), .val (.int p4), .val (.int p5), .val (.int (4 : Int32)), .val (.ref b15), .val (.int p1), .val (.int (p1 + p2)), .val (.int ((p1 + p2) + p3)), .val (.int (((p1 + p2) + p3) + p4)), .val (.int ((((p1 + p2) + p3) + p4) + p5)), .val (.int (1 : Int32))] []))
    refine own_go (fun _ q => XS.iload X20.here hx rfl (hb hby at_120) rfl q) ?_
    show own_Go _ _ _ _ _ _ _ (T20.setTop (mkF m 122 #[.val (.int p0), .val (.int p1), .val (.int p2), .val (.int p3), .val (.int p4), .val (.int p5), .val (.int (4 : Int32)), .val (.ref b15), .val (.int p1), .val (.int (p1 + p2)), .val (.int ((p1 + p2) + p3)), .val (.int (((p1 + p2) + p3) + p4)), .val (.int ((((p1 + p2) + p3) + p4) + p5)), .val (.int (1 : Int32))] [(.int (4 : Int32))]))
    refine own_go (fun _ q => XS.ifNo X20.here hx rfl (hb hby at_122) rfl ((if0 _ _).trans (tlt (by decide : (0 : Int32) < (4 : Int32))).2.2.2) q) ?_
    show own_Go _ _ _ _ _ _ _ (T20.setTop (mkF m 125 #[.val (.int p0), .val (.int p1), .val (.int p2), .val (.int p3), .val (.int p4), .val (.int p5), .val (.int (4 : Int32)), .val (.ref b15), .val (.int p1), .val (.int (p1 + p2)), .val (.int ((p1 + p2) + p3)), .val (.int (((p1 + p2) + p3) + p4)), .val (.int ((((p1 + p2) + p3) + p4) + p5)), .val (.int (1 : Int32))] []))
    refine own_go (fun _ q => XS.iload X20.here hx rfl (hb hby at_125) rfl q) ?_
    show own_Go _ _ _ _ _ _ _ (T20.setTop (mkF m 127 #[.val (.int p0), .val (.int p1), .val (.int p2), .val (.int p3), .val (.int p4), .val (.int p5), .val (.int (4 : Int32)), .val (.ref b15), .val (.int p1), .val (.int (p1 + p2)), .val (.int ((p1 + p2) + p3)), .val (.int (((p1 + p2) + p3) + p4)), .val (.int ((((p1 + p2) + p3) + p4) + p5)), .val (.int (1 : Int32))] [(.int (1 : Int32))]))
    refine own_go (fun _ q => XS.ifNo X20.here hx rfl (hb hby at_127) rfl ((if0 _ _).trans (feq (by decide : ¬ ((1 : Int32) = (0 : Int32)))).1) q) ?_
    show own_Go _ _ _ _ _ _ _ (T20.setTop (mkF m 130 #[.val (.int p0), .val (.int p1), .val (.int p2), .val (.int p3), .val (.int p4), .val (.int p5), .val (.int (4 : Int32)), .val (.ref b15), .val (.int p1), .val (.int (p1 + p2)), .val (.int ((p1 + p2) + p3)), .val (.int (((p1 + p2) + p3) + p4)), .val (.int ((((p1 + p2) + p3) + p4) + p5)), .val (.int (1 : Int32))] []))
    refine own_go (fun _ q => XS.aload X20.here hx rfl (hb hby at_130) rfl rfl q) ?_
    show own_Go _ _ _ _ _ _ _ (T20.setTop (mkF m 132 #[.val (.int p0), .val (.int p1), .val (.int p2), .val (.int p3), .val (.int p4), .val (.int p5), .val (.int (4 : Int32)), .val (.ref b15), .val (.int p1), .val (.int (p1 + p2)), .val (.int ((p1 + p2) + p3)), .val (.int (((p1 + p2) + p3) + p4)), .val (.int ((((p1 + p2) + p3) + p4) + p5)), .val (.int (1 : Int32))] [(.ref b15)]))
    refine own_go (fun _ q => XS.iconst X20.here hx rfl (hb hby at_132) q) ?_
    show own_Go _ _ _ _ _ _ _ (T20.setTop (mkF m 133 #[.val (.int p0), .val (.int p1), .val (.int p2), .val (.int p3), .val (.int p4), .val (.int p5), .val (.int (4 : Int32)), .val (.ref b15), .val (.int p1), .val (.int (p1 + p2)), .val (.int ((p1 + p2) + p3)), .val (.int (((p1 + p2) + p3) + p4)), .val (.int ((((p1 + p2) + p3) + p4) + p5)), .val (.int (1 : Int32))] [(.int (0 : Int32)), (.ref b15)]))
    refine own_iaload X20 hx hZ rfl (i := 0) A20 rfl (by decide) rfl (hb hby at_133) rfl ?_
    show own_Go _ _ _ _ _ _ _ (T20.setTop (mkF m 134 #[.val (.int p0), .val (.int p1), .val (.int p2), .val (.int p3), .val (.int p4), .val (.int p5), .val (.int (4 : Int32)), .val (.ref b15), .val (.int p1), .val (.int (p1 + p2)), .val (.int ((p1 + p2) + p3)), .val (.int (((p1 + p2) + p3) + p4)), .val (.int ((((p1 + p2) + p3) + p4) + p5)), .val (.int (1 : Int32))] [(.int p1)]))
    refine own_go (fun _ q => XS.iload X20.here hx rfl (hb hby at_134) rfl q) ?_
    show own_Go _ _ _ _ _ _ _ (T20.setTop (mkF m 136 #[.val (.int p0), .val (.int p1), .val (.int p2), .val (.int p3), .val (.int p4), .val (.int p5), .val (.int (4 : Int32)), .val (.ref b15), .val (.int p1), .val (.int (p1 + p2)), .val (.int ((p1 + p2) + p3)), .val (.int (((p1 + p2) + p3) + p4)), .val (.int ((((p1 + p2) + p3) + p4) + p5)), .val (.int (1 : Int32))] [(.int p1), (.int p1)]))
    refine own_go (fun _ q => XS.icmpNo X20.here hx rfl (hb hby at_136) rfl (teq rfl).2 q) ?_
    show own_Go _ _ _ _ _ _ _ (T20.setTop (mkF m 139 #[.val (.int p0), .val (.int p1), .val (.int p2), .val (.int p3), .val (.int p4), .val (.int p5), .val (.int (4 : Int32)), .val (.ref b15), .val (.int p1), .val (.int (p1 + p2)), .val (.int ((p1 + p2) + p3)), .val (.int (((p1 + p2) + p3) + p4)), .val (.int ((((p1 + p2) + p3) + p4) + p5)), .val (.int (1 : Int32))] []))
    refine own_go (fun _ q => XS.iconst X20.here hx rfl (hb hby at_139) q) ?_
    show own_Go _ _ _ _ _ _ _ (T20.setTop (mkF m 140 #[.val (.int p0), .val (.int p1), .val (.int p2), .val (.int p3), .val (.int p4), .val (.int p5), .val (.int (4 : Int32)), .val (.ref b15), .val (.int p1), .val (.int (p1 + p2)), .val (.int ((p1 + p2) + p3)), .val (.int (((p1 + p2) + p3) + p4)), .val (.int ((((p1 + p2) + p3) + p4) + p5)), .val (.int (1 : Int32))] [(.int (1 : Int32))]))
    refine own_go (fun _ q => XS.goto X20.here hx rfl (pc0 := 140) (pc' := 144) rfl (hb hby at_140) (by decide) (by decide) q) ?_
    show own_Go _ _ _ _ _ _ _ (T20.setTop (mkF m 144 #[.val (.int p0), .val (.int p1), .val (.int p2), .val (.int p3), .val (.int p4), .val (.int p5), .val (.int (4 : Int32)), .val (.ref b15), .val (.int p1), .val (.int (p1 + p2)), .val (.int ((p1 + p2) + p3)), .val (.int (((p1 + p2) + p3) + p4)), .val (.int ((((p1 + p2) + p3) + p4) + p5)), .val (.int (1 : Int32))] [(.int (1 : Int32))]))
    refine own_go (fun _ q => XS.istore X20.here hx rfl (hb hby at_144) rfl (l' := #[.val (.int p0), .val (.int p1), .val (.int p2), .val (.int p3), .val (.int p4), .val (.int p5), .val (.int (4 : Int32)), .val (.ref b15), .val (.int p1), .val (.int (p1 + p2)), .val (.int ((p1 + p2) + p3)), .val (.int (((p1 + p2) + p3) + p4)), .val (.int ((((p1 + p2) + p3) + p4) + p5)), .val (.int (1 : Int32))]) rfl q) ?_
    show own_Go _ _ _ _ _ _ _ (T20.setTop (mkF m 146 #[.val (.int p0), .val (.int p1), .val (.int p2), .val (.int p3), .val (.int p4), .val (.int p5), .val (.int (4 : Int32)), .val (.ref b15), .val (.int p1), .val (.int (p1 + p2)), .val (.int ((p1 + p2) + p3)), .val (.int (((p1 + p2) + p3) + p4)), .val (.int ((((p1 + p2) + p3) + p4) + p5)), .val (.int (1 : Int32))] []))
    refine own_go (fun _ q => XS.iload X20.here hx rfl (hb hby at_146) rfl q) ?_
    show own_Go _ _ _ _ _ _ _ (T20.setTop (mkF m 148 #[.val (.int p0), .val (.int p1), .val (.int p2), .val (.int p3), .val (.int p4), .val (.int p5), .val (.int (4 : Int32)), .val (.ref b15), .val (.int p1), .val (.int (p1 + p2)), .val (.int ((p1 + p2) + p3)), .val (.int (((p1 + p2) + p3) + p4)), .val (.int ((((p1 + p2) + p3) + p4) + p5)), .val (.int (1 : Int32))] [(.int (4 : Int32))]))
    refine own_go (fun _ q => XS.iconst X20.here hx rfl (hb hby at_148) q) ?_
    show own_Go _ _ _ _ _ _ _ (T20.setTop (mkF m 149 #[.val (.int p0), .val (.int p1), .val (.int p2), .val (.int p3), .val (.int p4), .val (.int p5), .val (.int (4 : Int32)), .val (.ref b15), .val (.int p1), .val (.int (p1 + p2)), .val (.int ((p1 + p2) + p3)), .val (.int (((p1 + p2) + p3) + p4)), .val (.int ((((p1 + p2) + p3) + p4) + p5)), .val (.int (1 : Int32))] [(.int (1 : Int32)), (.int (4 : Int32))]))
    refine own_go (fun _ q => XS.icmpNo X20.here hx rfl (hb hby at_149) rfl (tlt (by decide : (1 : Int32) < (4 : Int32))).2.2.2 q) ?_
    show own_Go _ _ _ _ _ _ _ (T20.setTop (mkF m 152 #[.val (.int p0), .val (.int p1), .val (.int p2), .val (.int p3), .val (.int p4), .val (.int p5), .val (.int (4 : Int32)), .val (.ref b15), .val (.int p1), .val (.int (p1 + p2)), .val (.int ((p1 + p2) + p3)), .val (.int (((p1 + p2) + p3) + p4)), .val (.int ((((p1 + p2) + p3) + p4) + p5)), .val (.int (1 : Int32))] []))
    refine own_go (fun _ q => XS.iload X20.here hx rfl (hb hby at_152) rfl q) ?_
    show own_Go _ _ _ _ _ _ _ (T20.setTop (mkF m 154 #[.val (.int p0), .val (.int p1), .val (.int p2), .val (.int p3), .val (.int p4), .val (.int p5), .val (.int (4 : Int32)), .val (.ref b15), .val (.int p1), .val (.int (p1 + p2)), .val (.int ((p1 + p2) + p3)), .val (.int (((p1 + p2) + p3) + p4)), .val (.int ((((p1 + p2) + p3) + p4) + p5)), .val (.int (1 : Int32))] [(.int (1 : Int32))]))
    refine own_go (fun _ q => XS.ifNo X20.here hx rfl (hb hby at_154) rfl ((if0 _ _).trans (feq (by decide : ¬ ((1 : Int32) = (0 : Int32)))).1) q) ?_
    show own_Go _ _ _ _ _ _ _ (T20.setTop (mkF m 157 #[.val (.int p0), .val (.int p1), .val (.int p2), .val (.int p3), .val (.int p4), .val (.int p5), .val (.int (4 : Int32)), .val (.ref b15), .val (.int p1), .val (.int (p1 + p2)), .val (.int ((p1 + p2) + p3)), .val (.int (((p1 + p2) + p3) + p4)), .val (.int ((((p1 + p2) + p3) + p4) + p5)), .val (.int (1 : Int32))] []))
    refine own_go (fun _ q => XS.aload X20.here hx rfl (hb hby at_157) rfl rfl q) ?_
    show own_Go _ _ _ _ _ _ _ (T20.setTop (mkF m 159 #[.val (.int p0), .val (.int p1), .val (.int p2), .val (.int p3), .val (.int p4), .val (.int p5), .val (.int (4 : Int32)), .val (.ref b15), .val (.int p1), .val (.int (p1 + p2)), .val (.int ((p1 + p2) + p3)), .val (.int (((p1 + p2) + p3) + p4)), .val (.int ((((p1 + p2) + p3) + p4) + p5)), .val (.int (1 : Int32))] [(.ref b15)]))
    refine own_go (fun _ q => XS.iconst X20.here hx rfl (hb hby at_159) q) ?_
    show own_Go _ _ _ _ _ _ _ (T20.setTop (mkF m 160 #[.val (.int p0), .val (.int p1), .val (.int p2), .val (.int p3), .val (.int p4), .val (.int p5), .val (.int (4 : Int32)), .val (.ref b15), .val (.int p1), .val (.int (p1 + p2)), .val (.int ((p1 + p2) + p3)), .val (.int (((p1 + p2) + p3) + p4)), .val (.int ((((p1 + p2) + p3) + p4) + p5)), .val (.int (1 : Int32))] [(.int (1 : Int32)), (.ref b15)]))
    refine own_iaload X20 hx hZ rfl (i := 1) A20 rfl (by decide) rfl (hb hby at_160) rfl ?_
    show own_Go _ _ _ _ _ _ _ (T20.setTop (mkF m 161 #[.val (.int p0), .val (.int p1), .val (.int p2), .val (.int p3), .val (.int p4), .val (.int p5), .val (.int (4 : Int32)), .val (.ref b15), .val (.int p1), .val (.int (p1 + p2)), .val (.int ((p1 + p2) + p3)), .val (.int (((p1 + p2) + p3) + p4)), .val (.int ((((p1 + p2) + p3) + p4) + p5)), .val (.int (1 : Int32))] [(.int (p1 + p2))]))
    refine own_go (fun _ q => XS.iload X20.here hx rfl (hb hby at_161) rfl q) ?_
    show own_Go _ _ _ _ _ _ _ (T20.setTop (mkF m 163 #[.val (.int p0), .val (.int p1), .val (.int p2), .val (.int p3), .val (.int p4), .val (.int p5), .val (.int (4 : Int32)), .val (.ref b15), .val (.int p1), .val (.int (p1 + p2)), .val (.int ((p1 + p2) + p3)), .val (.int (((p1 + p2) + p3) + p4)), .val (.int ((((p1 + p2) + p3) + p4) + p5)), .val (.int (1 : Int32))] [(.int (p1 + p2)), (.int (p1 + p2))]))
    refine own_go (fun _ q => XS.icmpNo X20.here hx rfl (hb hby at_163) rfl (teq rfl).2 q) ?_
    show own_Go _ _ _ _ _ _ _ (T20.setTop (mkF m 166 #[.val (.int p0), .val (.int p1), .val (.int p2), .val (.int p3), .val (.int p4), .val (.int p5), .val (.int (4 : Int32)), .val (.ref b15), .val (.int p1), .val (.int (p1 + p2)), .val (.int ((p1 + p2) + p3)), .val (.int (((p1 + p2) + p3) + p4)), .val (.int ((((p1 + p2) + p3) + p4) + p5)), .val (.int (1 : Int32))] []))
    refine own_go (fun _ q => XS.iconst X20.here hx rfl (hb hby at_166) q) ?_
    show own_Go _ _ _ _ _ _ _ (T20.setTop (mkF m 167 #[.val (.int p0), .val (.int p1), .val (.int p2), .val (.int p3), .val (.int p4), .val (.int p5), .val (.int (4 : Int32)), .val (.ref b15), .val (.int p1), .val (.int (p1 + p2)), .val (.int ((p1 + p2) + p3)), .val (.int (((p1 + p2) + p3) + p4)), .val (.int ((((p1 + p2) + p3) + p4) + p5)), .val (.int (1 : Int32))] [(.int (1 : Int32))]))
    refine own_go (fun _ q => XS.goto X20.here hx rfl (pc0 := 167) (pc' := 171) rfl (hb hby at_167) (by decide) (by decide) q) ?_
    show own_Go _ _ _ _ _ _ _ (T20.setTop (mkF m 171 #[.val (.int p0), .val (.int p1), .val (.int p2), .val (.int p3), .val (.int p4), .val (.int p5), .val (.int (4 : Int32)), .val (.ref b15), .val (.int p1), .val (.int (p1 + p2)), .val (.int ((p1 + p2) + p3)), .val (.int (((p1 + p2) + p3) + p4)), .val (.int ((((p1 + p2) + p3) + p4) + p5)), .val (.int (1 : Int32))] [(.int (1 : Int32))]))
    refine own_go (fun _ q => XS.istore X20.here hx rfl (hb hby at_171) rfl (l' := #[.val (.int p0), .val (.int p1), .val (.int p2), .val (.int p3), .val (.int p4), .val (.int p5), .val (.int (4 : Int32)), .val (.ref b15), .val (.int p1), .val (.int (p1 + p2)), .val (.int ((p1 + p2) + p3)), .val (.int (((p1 + p2) + p3) + p4)), .val (.int ((((p1 + p2) + p3) + p4) + p5)), .val (.int (1 : Int32))]) rfl q) ?_
    show own_Go _ _ _ _ _ _ _ (T20.setTop (mkF m 173 #[.val (.int p0), .val (.int p1), .val (.int p2), .val (.int p3), .val (.int p4), .val (.int p5), .val (.int (4 : Int32)), .val (.ref b15), .val (.int p1), .val (.int (p1 + p2)), .val (.int ((p1 + p2) + p3)), .val (.int (((p1 + p2) + p3) + p4)), .val (.int ((((p1 + p2) + p3) + p4) + p5)), .val (.int (1 : Int32))] []))
    refine own_go (fun _ q => XS.iload X20.here hx rfl (hb hby at_173) rfl q) ?_
    show own_Go _ _ _ _ _ _ _ (T20.setTop (mkF m 175 #[.val (.int p0), .val (.int p1), .val (.int p2), .val (.int p3), .val (.int p4), .val (.int p5), .val (.int (4 : Int32)), .val (.ref b15), .val (.int p1), .val (.int (p1 + p2)), .val (.int ((p1 + p2) + p3)), .val (.int (((p1 + p2) + p3) + p4)), .val (.int ((((p1 + p2) + p3) + p4) + p5)), .val (.int (1 : Int32))] [(.int (4 : Int32))]))
    refine own_go (fun _ q => XS.iconst X20.here hx rfl (hb hby at_175) q) ?_
    show own_Go _ _ _ _ _ _ _ (T20.setTop (mkF m 176 #[.val (.int p0), .val (.int p1), .val (.int p2), .val (.int p3), .val (.int p4), .val (.int p5), .val (.int (4 : Int32)), .val (.ref b15), .val (.int p1), .val (.int (p1 + p2)), .val (.int ((p1 + p2) + p3)), .val (.int (((p1 + p2) + p3) + p4)), .val (.int ((((p1 + p2) + p3) + p4) + p5)), .val (.int (1 : Int32))] [(.int (2 : Int32)), (.int (4 : Int32))]))
    refine own_go (fun _ q => XS.icmpNo X20.here hx rfl (hb hby at_176) rfl (tlt (by decide : (2 : Int32) < (4 : Int32))).2.2.2 q) ?_
    show own_Go _ _ _ _ _ _ _ (T20.setTop (mkF m 179 #[.val (.int p0), .val (.int p1), .val (.int p2), .val (.int p3), .val (.int p4), .val (.int p5), .val (.int (4 : Int32)), .val (.ref b15), .val (.int p1), .val (.int (p1 + p2)), .val (.int ((p1 + p2) + p3)), .val (.int (((p1 + p2) + p3) + p4)), .val (.int ((((p1 + p2) + p3) + p4) + p5)), .val (.int (1 : Int32))] []))
    refine own_go (fun _ q => XS.iload X20.here hx rfl (hb hby at_179) rfl q) ?_
    show own_Go _ _ _ _ _ _ _ (T20.setTop (mkF m 181 #[.val (.int p0), .val (.int p1), .val (.int p2), .val (.int p3), .val (.int p4), .val (.int p5), .val (.int (4 : Int32)), .val (.ref b15), .val (.int p1), .val (.int (p1 + p2)), .val (.int ((p1 + p2) + p3)), .val (.int (((p1 + p2) + p3) + p4)), .val (.int ((((p1 + p2) + p3) + p4) + p5)), .val (.int (1 : Int32))] [(.int (1 : Int32))]))
    refine own_go (fun _ q => XS.ifNo X20.here hx rfl (hb hby at_181) rfl ((if0 _ _).trans (feq (by decide : ¬ ((1 : Int32) = (0 : Int32)))).1) q) ?_
    show own_Go _ _ _ _ _ _ _ (T20.setTop (mkF m 184 #[.val (.int p0), .val (.int p1), .val (.int p2), .val (.int p3), .val (.int p4), .val (.int p5), .val (.int (4 : Int32)), .val (.ref b15), .val (.int p1), .val (.int (p1 + p2)), .val (.int ((p1 + p2) + p3)), .val (.int (((p1 + p2) + p3) + p4)), .val (.int ((((p1 + p2) + p3) + p4) + p5)), .val (.int (1 : Int32))] []))
    refine own_go (fun _ q => XS.aload X20.here hx rfl (hb hby at_184) rfl rfl q) ?_
    show own_Go _ _ _ _ _ _ _ (T20.setTop (mkF m 186 #[.val (.int p0), .val (.int p1), .val (.int p2), .val (.int p3), .val (.int p4), .val (.int p5), .val (.int (4 : Int32)), .val (.ref b15), .val (.int p1), .val (.int (p1 + p2)), .val (.int ((p1 + p2) + p3)), .val (.int (((p1 + p2) + p3) + p4)), .val (.int ((((p1 + p2) + p3) + p4) + p5)), .val (.int (1 : Int32))] [(.ref b15)]))
    refine own_go (fun _ q => XS.iconst X20.here hx rfl (hb hby at_186) q) ?_
    show own_Go _ _ _ _ _ _ _ (T20.setTop (mkF m 187 #[.val (.int p0), .val (.int p1), .val (.int p2), .val (.int p3), .val (.int p4), .val (.int p5), .val (.int (4 : Int32)), .val (.ref b15), .val (.int p1), .val (.int (p1 + p2)), .val (.int ((p1 + p2) + p3)), .val (.int (((p1 + p2) + p3) + p4)), .val (.int ((((p1 + p2) + p3) + p4) + p5)), .val (.int (1 : Int32))] [(.int (2 : Int32)), (.ref b15)]))
    refine own_iaload X20 hx hZ rfl (i := 2) A20 rfl (by decide) rfl (hb hby at_187) rfl ?_
    show own_Go _ _ _ _ _ _ _ (T20.setTop (mkF m 188 #[.val (.int p0), .val (.int p1), .val (.int p2), .val (.int p3), .val (.int p4), .val (.int p5), .val (.int (4 : Int32)), .val (.ref b15), .val (.int p1), .val (.int (p1 + p2)), .val (.int ((p1 + p2) + p3)), .val (.int (((p1 + p2) + p3) + p4)), .val (.int ((((p1 + p2) + p3) + p4) + p5)), .val (.int (1 : Int32))] [(.int ((p1 + p2) + p3))]))
    refine own_go (fun _ q => XS.iload X20.here hx rfl (hb hby at_188) rfl q) ?_
    show own_Go _ _ _ _ _ _ _ (T20.setTop (mkF m 190 #[.val (.int p0), .val (.int p1), .val (.int p2), .val (.int p3), .val (.int p4), .val (.int p5), .val (.int (4 : Int32)), .val (.ref b15), .val (.int p1), .val (.int (p1 + p2)), .val (.int ((p1 + p2) + p3)), .val (.int (((p1 + p2) + p3) + p4)), .val (.int ((((p1 + p2) + p3) + p4) + p5)), .val (.int (1 : Int32))] [(.int ((p1 + p2) + p3)), (.int ((p1 + p2) + p3))]))
    refine own_go (fun _ q => XS.icmpNo X20.here hx rfl (hb hby at_190) rfl (teq rfl).2 q) ?_
    show own_Go _ _ _ _ _ _ _ (T20.setTop (mkF m 193 #[.val (.int p0), .val (.int p1), .val (.int p2), .val (.int p3), .val (.int p4), .val (.int p5), .val (.int (4 : Int32)), .val (.ref b15), .val (.int p1), .val (.int (p1 + p2)), .val (.int ((p1 + p2) + p3)), .val (.int (((p1 + p2) + p3) + p4)), .val (.int ((((p1 + p2) + p3) + p4) + p5)), .val (.int (1 : Int32))] []))
    refine own_go (fun _ q => XS.iconst X20.here hx rfl (hb hby at_193) q) ?_
    show own_Go _ _ _ _ _ _ _ (T20.setTop (mkF m 194 #[.val (.int p0), .val (.int p1), .val (.int p2), .val (.int p3), .val (.int p4), .val (.int p5), .val (.int (4 : Int32)), .val (.ref b15), .val (.int p1), .val (.int (p1 + p2)), .val (.int ((p1 + p2) + p3)), .val (.int (((p1 + p2) + p3) + p4)), .val (.int ((((p1 + p2) + p3) + p4) + p5)), .val (.int (1 : Int32))] [(.int (1 : Int32))]))
    refine own_go (fun _ q => XS.goto X20.here hx rfl (pc0 := 194) (pc' := 198) rfl (hb hby at_194) (by decide) (by decide) q) ?_
    show own_Go _ _ _ _ _ _ _ (T20.setTop (mkF m 198 #[.val (.int p0), .val (.int p1), .val (.int p2), .val (.int p3), .val (.int p4), .val (.int p5), .val (.int (4 : Int32)), .val (.ref b15), .val (.int p1), .val (.int (p1 + p2)), .val (.int ((p1 + p2) + p3)), .val (.int (((p1 + p2) + p3) + p4)), .val (.int ((((p1 + p2) + p3) + p4) + p5)), .val (.int (1 : Int32))] [(.int (1 : Int32))]))
    refine own_go (fun _ q => XS.istore X20.here hx rfl (hb hby at_198) rfl (l' := #[.val (.int p0), .val (.int p1), .val (.int p2), .val (.int p3), .val (.int p4), .val (.int p5), .val (.int (4 : Int32)), .val (.ref b15), .val (.int p1), .val (.int (p1 + p2)), .val (.int ((p1 + p2) + p3)), .val (.int (((p1 + p2) + p3) + p4)), .val (.int ((((p1 + p2) + p3) + p4) + p5)), .val (.int (1 : Int32))]) rfl q) ?_
    show own_Go _ _ _ _ _ _ _ (T20.setTop (mkF m 200 #[.val (.int p0), .val (.int p1), .val (.int p2), .val (.int p3), .val (.int p4), .val (.int p5), .val (.int (4 : Int32)), .val (.ref b15), .val (.int p1), .val (.int (p1 + p2)), .val (.int ((p1 + p2) + p3)), .val (.int (((p1 + p2) + p3) + p4)), .val (.int ((((p1 + p2) + p3) + p4) + p5)), .val (.int (1 : Int32))] []))
    refine own_go (fun _ q => XS.iload X20.here hx rfl (hb hby at_200) rfl q) ?_
    show own_Go _ _ _ _ _ _ _ (T20.setTop (mkF m 202 #[.val (.int p0), .val (.int p1), .val (.int p2), .val (.int p3), .val (.int p4), .val (.int p5), .val (.int (4 : Int32)), .val (.ref b15), .val (.int p1), .val (.int (p1 + p2)), .val (.int ((p1 + p2) + p3)), .val (.int (((p1 + p2) + p3) + p4)), .val (.int ((((p1 + p2) + p3) + p4) + p5)), .val (.int (1 : Int32))] [(.int (4 : Int32))]))
    refine own_go (fun _ q => XS.iconst X20.here hx rfl (hb hby at_202) q) ?_
    show own_Go _ _ _ _ _ _ _ (T20.setTop (mkF m 203 #[.val (.int p0), .val (.int p1), .val (.int p2), .val (.int p3), .val (.int p4), .val (.int p5), .val (.int (4 : Int32)), .val (.ref b15), .val (.int p1), .val (.int (p1 + p2)), .val (.int ((p1 + p2) + p3)), .val (.int (((p1 + p2) + p3) + p4)), .val (.int ((((p1 + p2) + p3) + p4) + p5)), .val (.int (1 : Int32))] [(.int (3 : Int32)), (.int (4 : Int32))]))
    refine own_go (fun _ q => XS.icmpNo X20.here hx rfl (hb hby at_203) rfl (tlt (by decide : (3 : Int32) < (4 : Int32))).2.2.2 q) ?_
    show own_Go _ _ _ _ _ _ _ (T20.setTop (mkF m 206 #[.val (.int p0), .val (.int p1), .val (.int p2), .val (.int p3), .val (.int p4), .val (.int p5), .val (.int (4 : Int32)), .val (.ref b15), .val (.int p1), .val (.int (p1 + p2)), .val (.int ((p1 + p2) + p3)), .val (.int (((p1 + p2) + p3) + p4)), .val (.int ((((p1 + p2) + p3) + p4) + p5)), .val (.int (1 : Int32))] []))
    refine own_go (fun _ q => XS.iload X20.here hx rfl (hb hby at_206) rfl q) ?_
    show own_Go _ _ _ _ _ _ _ (T20.setTop (mkF m 208 #[.val (.int p0), .val (.int p1), .val (.int p2), .val (.int p3), .val (.int p4), .val (.int p5), .val (.int (4 : Int32)), .val (.ref b15), .val (.int p1), .val (.int (p1 + p2)), .val (.int ((p1 + p2) + p3)), .val (.int (((p1 + p2) + p3) + p4)), .val (.int ((((p1 + p2) + p3) + p4) + p5)), .val (.int (1 : Int32))] [(.int (1 : Int32))]))
    refine own_go (fun _ q => XS.ifNo X20.here hx rfl (hb hby at_208) rfl ((if0 _ _).trans (feq (by decide : ¬ ((1 : Int32) = (0 : Int32)))).1) q) ?_
    show own_Go _ _ _ _ _ _ _ (T20.setTop (mkF m 211 #[.val (.int p0), .val (.int p1), .val (.int p2), .val (.int p3), .val (.int p4), .val (.int p5), .val (.int (4 : Int32)), .val (.ref b15), .val (.int p1), .val (.int (p1 + p2)), .val (.int ((p1 + p2) + p3)), .val (.int (((p1 + p2) + p3) + p4)), .val (.int ((((p1 + p2) + p3) + p4) + p5)), .val (.int (1 : Int32))] []))
    refine own_go (fun _ q => XS.aload X20.here hx rfl (hb hby at_211) rfl rfl q) ?_
    show own_Go _ _ _ _ _ _ _ (T20.setTop (mkF m 213 #[.val (.int p0), .val (.int p1), .val (.int p2), .val (.int p3), .val (.int p4), .val (.int p5), .val (.int (4 : Int32)), .val (.ref b15), .val (.int p1), .val (.int (p1 + p2)), .val (.int ((p1 + p2) + p3)), .val (.int (((p1 + p2) + p3) + p4)), .val (.int ((((p1 + p2) + p3) + p4) + p5)), .val (.int (1 : Int32))] [(.ref b15)]))
    refine own_go (fun _ q => XS.iconst X20.here hx rfl (hb hby at_213) q) ?_
    show own_Go _ _ _ _ _ _ _ (T20.setTop (mkF m 214 #[.val (.int p0), .val (.int p1), .val (.int p2), .val (.int p3), .val (.int p4), .val (.int p5), .val (.int (4 : Int32)), .val (.ref b15), .val (.int p1), .val (.int (p1 + p2)), .val (.int ((p1 + p2) + p3)), .val (.int (((p1 + p2) + p3) + p4)), .val (.int ((((p1 + p2) + p3) + p4) + p5)), .val (.int (1 : Int32))] [(.int (3 : Int32)), (.ref b15)]))
    refine own_iaload X20 hx hZ rfl (i := 3) A20 rfl (by decide) rfl (hb hby at_214) rfl ?_
    show own_Go _ _ _ _ _ _ _ (T20.setTop (mkF m 215 #[.val (.int p0), .val (.int p1), .val (.int p2), .val (.int p3), .val (.int p4), .val (.int p5), .val (.int (4 : Int32)), .val (.ref b15), .val (.int p1), .val (.int (p1 + p2)), .val (.int ((p1 + p2) + p3)), .val (.int (((p1 + p2) + p3) + p4)), .val (.int ((((p1 + p2) + p3) + p4) + p5)), .val (.int (1 : Int32))] [(.int (((p1 + p2) + p3) + p4))]))
    refine own_go (fun _ q => XS.iload X20.here hx rfl (hb hby at_215) rfl q) ?_
    show own_Go _ _ _ _ _ _ _ (T20.setTop (mkF m 217 #[.val (.int p0), .val (.int p1), .val (.int p2), .val (.int p3), .val (.int p4), .val (.int p5), .val (.int (4 : Int32)), .val (.ref b15), .val (.int p1), .val (.int (p1 + p2)), .val (.int ((p1 + p2) + p3)), .val (.int (((p1 + p2) + p3) + p4)), .val (.int ((((p1 + p2) + p3) + p4) + p5)), .val (.int (1 : Int32))] [(.int (((p1 + p2) + p3) + p4)), (.int (((p1 + p2) + p3) + p4))]))
    refine own_go (fun _ q => XS.icmpNo X20.here hx rfl (hb hby at_217) rfl (teq rfl).2 q) ?_
    show own_Go _ _ _ _ _ _ _ (T20.setTop (mkF m 220 #[.val (.int p0), .val (.int p1), .val (.int p2), .val (.int p3), .val (.int p4), .val (.int p5), .val (.int (4 : Int32)), .val (.ref b15), .val (.int p1), .val (.int (p1 + p2)), .val (.int ((p1 + p2) + p3)), .val (.int (((p1 + p2) + p3) + p4)), .val (.int ((((p1 + p2) + p3) + p4) + p5)), .val (.int (1 : Int32))] []))
    refine own_go (fun _ q => XS.iconst X20.here hx rfl (hb hby at_220) q) ?_
    show own_Go _ _ _ _ _ _ _ (T20.setTop (mkF m 221 #[.val (.int p0), .val (.int p1), .val (.int p2), .val (.int p3), .val (.int p4), .val (.int p5), .val (.int (4 : Int32)), .val (.ref b15), .val (.int p1), .val (.int (p1 + p2)), .val (.int ((p1 + p2) + p3)), .val (.int (((p1 + p2) + p3) + p4)), .val (.int ((((p1 + p2) + p3) + p4) + p5)), .val (.int (1 : Int32))] [(.int (1 : Int32))]))
    refine own_go (fun _ q => XS.goto X20.here hx rfl (pc0 := 221) (pc' := 225) rfl (hb hby at_221) (by decide) (by decide) q) ?_
    show own_Go _ _ _ _ _ _ _ (T20.setTop (mkF m 225 #[.val (.int p0), .val (.int p1), .val (.int p2), .val (.int p3), .val (.int p4), .val (.int p5), .val (.int (4 : Int32)), .val (.ref b15), .val (.int p1), .val (.int (p1 + p2)), .val (.int ((p1 + p2) + p3)), .val (.int (((p1 + p2) + p3) + p4)), .val (.int ((((p1 + p2) + p3) + p4) + p5)), .val (.int (1 : Int32))] [(.int (1 : Int32))]))
    refine own_go (fun _ q => XS.istore X20.here hx rfl (hb hby at_225) rfl (l' := #[.val (.int p0), .val (.int p1), .val (.int p2), .val (.int p3), .val (.int p4), .val (.int p5), .val (.int (4 : Int32)), .val (.ref b15), .val (.int p1), .val (.int (p1 + p2)), .val (.int ((p1 + p2) + p3)), .val (.int (((p1 + p2) + p3) + p4)), .val (.int ((((p1 + p2) + p3) + p4) + p5)), .val (.int (1 : Int32))]) rfl q) ?_
    show own_Go _ _ _ _ _ _ _ (T20.setTop (mkF m 227 #[.val (.int p0), .val (.int p1), .val (.int p2), .val (.int p3), .val (.int p4), .val (.int p5), .val (.int (4 : Int32)), .val (.ref b15), .val (.int p1), .val (.int (p1 + p2)), .val (.int ((p1 + p2) + p3)), .val (.int (((p1 + p2) + p3) + p4)), .val (.int ((((p1 + p2) + p3) + p4) + p5)), .val (.int (1 : Int32))] []))
    refine own_go (fun _ q => XS.iload X20.here hx rfl (hb hby at_227) rfl q) ?_
    show own_Go _ _ _ _ _ _ _ (T20.setTop (mkF m 229 #[.val (.int p0), .val (.int p1), .val (.int p2), .val (.int p3), .val (.int p4), .val (.int p5), .val (.int (4 : Int32)), .val (.ref b15), .val (.int p1), .val (.int (p1 + p2)), .val (.int ((p1 + p2) + p3)), .val (.int (((p1 + p2) + p3) + p4)), .val (.int ((((p1 + p2) + p3) + p4) + p5)), .val (.int (1 : Int32))] [(.int (4 : Int32))]))
    refine own_go (fun _ q => XS.iconst X20.here hx rfl (hb hby at_229) q) ?_
    show own_Go _ _ _ _ _ _ _ (T20.setTop (mkF m 230 #[.val (.int p0), .val (.int p1), .val (.int p2), .val (.int p3), .val (.int p4), .val (.int p5), .val (.int (4 : Int32)), .val (.ref b15), .val (.int p1), .val (.int (p1 + p2)), .val (.int ((p1 + p2) + p3)), .val (.int (((p1 + p2) + p3) + p4)), .val (.int ((((p1 + p2) + p3) + p4) + p5)), .val (.int (1 : Int32))] [(.int (4 : Int32)), (.int (4 : Int32))]))
    refine own_go (fun _ q => XS.icmpYes X20.here hx rfl (pc0 := 230) (pc' := 254) rfl (hb hby at_230) rfl (flt (by decide : ¬ ((4 : Int32) < (4 : Int32)))).2.2.2 (by decide) (by decide) q) ?_
    show own_Go _ _ _ _ _ _ _ (T20.setTop (mkF m 254 #[.val (.int p0), .val (.int p1), .val (.int p2), .val (.int p3), .val (.int p4), .val (.int p5), .val (.int (4 : Int32)), .val (.ref b15), .val (.int p1), .val (.int (p1 + p2)), .val (.int ((p1 + p2) + p3)), .val (.int (((p1 + p2) + p3) + p4)), .val (.int ((((p1 + p2) + p3) + p4) + p5)), .val (.int (1 : Int32))] []))
    refine own_go (fun _ q => XS.iload X20.here hx rfl (hb hby at_254) rfl q) ?_
    show own_Go _ _ _ _ _ _ _ (T20.setTop (mkF m 256 #[.val (.int p0), .val (.int p1), .val (.int p2), .val (.int p3), .val (.int p4), .val (.int p5), .val (.int (4 : Int32)), .val (.ref b15), .val (.int p1), .val (.int (p1 + p2)), .val (.int ((p1 + p2) + p3)), .val (.int (((p1 + p2) + p3) + p4)), .val (.int ((((p1 + p2) + p3) + p4) + p5)), .val (.int (1 : Int32))] [(.int (1 : Int32))]))
    exact own_retZ X20 hx hlk hret (hb hby at_256) (by decide) (by decide) (by decide) ⟨rfl, N20⟩
  · rw [q]
    show own_Go _ _ _ _ _ _ _ (s₁.setTop (mkF m 11 #[.val (.int p0), .val (.int p1), .val (.int p2), .val (.int p3), .val (.int p4), .val (.int p5), .val (.int (5 : Int32)), .unset, .unset, .unset, .unset, .unset, .unset, .unset] [(.int (5 : Int32))]))
    obtain ⟨T21, h21, k21, X21, e21, E21, Aw21, st21⟩ := newP X0 hx hZ (hw _ (List.mem_of_getElem? (i := 1) rfl)) e0 (g := (mkF m 11 #[.val (.int p0), .val (.int p1), .val (.int p2), .val (.int p3), .val (.int p4), .val (.int p5), .val (.int (5 : Int32)), .unset, .unset, .unset, .unset, .unset, .unset, .unset] [(.int (5 : Int32))])) rfl (hb hby at_11) rfl (by decide) (cap := 5) (by decide) (by decide) (by decide) (by decide)
    obtain ⟨b21, g21⟩ : ∃ z, z = h0.size := ⟨_, rfl⟩
    rw [← g21] at Aw21 st21
    have A21 := own_Ar.new (nn := 5) Aw21 (by decide) rfl
    have G21 : n0 ≤ b21 := by have := Z0; omega
    have Z21 : n0 ≤ h21.size := Nat.le_trans Z0 E21.1
    refine own_go st21 ?_
    show own_Go _ _ _ _ _ _ _ (T21.setTop (mkF m 13 #[.val (.int p0), .val (.int p1), .val (.int p2), .val (.int p3), .val (.int p4), .val (.int p5), .val (.int (5 : Int32)), .unset, .unset, .unset, .unset, .unset, .unset, .unset] [(.ref b21)]))
    have G21 : n0 ≤ b21 := Nat.le_trans Z0 (Nat.le_of_eq g21.symm)
    refine own_go (fun _ q => XS.astore X21.here hx rfl (hb hby at_13) rfl rfl (l' := #[.val (.int p0), .val (.int p1), .val (.int p2), .val (.int p3), .val (.int p4), .val (.int p5), .val (.int (5 : Int32)), .val (.ref b21), .unset, .unset, .unset, .unset, .unset, .unset]) rfl q) ?_
    show own_Go _ _ _ _ _ _ _ (T21.setTop (mkF m 15 #[.val (.int p0), .val (.int p1), .val (.int p2), .val (.int p3), .val (.int p4), .val (.int p5), .val (.int (5 : Int32)), .val (.ref b21), .unset, .unset, .unset, .unset, .unset, .unset] []))
    refine own_go (fun _ q => XS.iload X21.here hx rfl (hb hby at_15) rfl q) ?_
    show own_Go _ _ _ _ _ _ _ (T21.setTop (mkF m 17 #[.val (.int p0), .val (.int p1), .val (.int p2), .val (.int p3), .val (.int p4), .val (.int p5), .val (.int (5 : Int32)), .val (.ref b21), .unset, .unset, .unset, .unset, .unset, .unset] [(.int (5 : Int32))]))
    refine own_go (fun _ q => XS.ifNo X21.here hx rfl (hb hby at_17) rfl ((if0 _ _).trans (tlt (by decide : (0 : Int32) < (5 : Int32))).2.2.2) q) ?_
    show own_Go _ _ _ _ _ _ _ (T21.setTop (mkF m 20 #[.val (.int p0), .val (.int p1), .val (.int p2), .val (.int p3), .val (.int p4), .val (.int p5), .val (.int (5 : Int32)), .val (.ref b21), .unset, .unset, .unset, .unset, .unset, .unset] []))
    refine own_go (fun _ q => XS.aload X21.here hx rfl (hb hby at_20) rfl rfl q) ?_
    show own_Go _ _ _ _ _ _ _ (T21.setTop (mkF m 22 #[.val (.int p0), .val (.int p1), .val (.int p2), .val (.int p3), .val (.int p4), .val (.int p5), .val (.int (5 : Int32)), .val (.ref b21), .unset, .unset, .unset, .unset, .unset, .unset] [(.ref b21)]))
    refine own_go (fun _ q => XS.iconst X21.here hx rfl (hb hby at_22) q) ?_
    show own_Go _ _ _ _ _ _ _ (T21.setTop (mkF m 23 #[.val (.int p0), .val (.int p1), .val (.int p2), .val (.int p3), .val (.int p4), .val (.int p5), .val (.int (5 : Int32)), .val (.ref b21), .unset, .unset, .unset, .unset, .unset, .unset] [(.int (0 : Int32)), (.ref b21)]))
    refine own_go (fun _ q => XS.iloadN X21.here hx rfl (hb hby at_23) rfl q) ?_
    show own_Go _ _ _ _ _ _ _ (T21.setTop (mkF m 24 #[.val (.int p0), .val (.int p1), .val (.int p2), .val (.int p3), .val (.int p4), .val (.int p5), .val (.int (5 : Int32)), .val (.ref b21), .unset, .unset, .unset, .unset, .unset, .unset] [(.int p1), (.int (0 : Int32)), (.ref b21)]))
    refine own_iastore X21 hx hZ e21 (i := 0) A21 rfl (by decide) (hb hby at_24) rfl ?_
    intro T22 h22 X22 e22 W22 A22
    have N22 := Fr.snoc X22 N0 G21
    have Z22 : n0 ≤ h22.size := by rw [W22.size]; exact Z21
    show own_Go _ _ _ _ _ _ _ (T22.setTop (mkF m 25 #[.val (.int p0), .val (.int p1), .val (.int p2), .val (.int p3), .val (.int p4), .val (.int p5), .val (.int (5 : Int32)), .val (.ref b21), .unset, .unset, .unset, .unset, .unset, .unset] []))
    refine own_go (fun _ q => XS.iload X22.here hx rfl (hb hby at_25) rfl q) ?_
    show own_Go _ _ _ _ _ _ _ (T22.setTop (mkF m 27 #[.val (.int p0), .val (.int p1), .val (.int p2), .val (.int p3), .val (.int p4), .val (.int p5), .val (.int (5 : Int32)), .val (.ref b21), .unset, .unset, .unset, .unset, .unset, .unset] [(.int (5 : Int32))]))
    refine own_go (fun _ q => XS.iconst X22.here hx rfl (hb hby at_27) q) ?_
    show own_Go _ _ _ _ _ _ _ (T22.setTop (mkF m 28 #[.val (.int p0), .val (.int p1), .val (.int p2), .val (.int p3), .val (.int p4), .val (.int p5), .val (.int (5 : Int32)), .val (.ref b21), .unset, .unset, .unset, .unset, .unset, .unset] [(.int (1 : Int32)), (.int (5 : Int32))]))
    refine own_go (fun _ q => XS.icmpNo X22.here hx rfl (hb hby at_28) rfl (tlt (by decide : (1 : Int32) < (5 : Int32))).2.2.2 q) ?_
    show own_Go _ _ _ _ _ _ _ (T22.setTop (mkF m 31 #[.val (.int p0), .val (.int p1), .val (.int p2), .val (.int p3), .val (.int p4), .val (.int p5), .val (.int (5 : Int32)), .val (.ref b21), .unset, .unset, .unset, .unset, .unset, .unset] []))
    refine own_go (fun _ q => XS.aload X22.here hx rfl (hb hby at_31) rfl rfl q) ?_
    show own_Go _ _ _ _ _ _ _ (T22.setTop (mkF m 33 #[.val (.int p0), .val (.int p1), .val (.int p2), .val (.int p3), .val (.int p4), .val (.int p5), .val (.int (5 : Int32)), .val (.ref b21), .unset, .unset, .unset, .unset, .unset, .unset] [(.ref b21)]))
    refine own_go (fun _ q => XS.iconst X22.here hx rfl (hb hby at_33) q) ?_
    show own_Go _ _ _ _ _ _ _ (T22.setTop (mkF m 34 #[.val (.int p0), .val (.int p1), .val (.int p2), .val (.int p3), .val (.int p4), .val (.int p5), .val (.int (5 : Int32)), .val (.ref b21), .unset, .unset, .unset, .unset, .unset, .unset] [(.int (1 : Int32)), (.ref b21)]))
    refine own_go (fun _ q => XS.iloadN X22.here hx rfl (hb hby at_34) rfl q) ?_
    show own_Go _ _ _ _ _ _ _ (T22.setTop (mkF m 35 #[.val (.int p0), .val (.int p1), .val (.int p2), .val (.int p3), .val (.int p4), .val (.int p5), .val (.int (5 : Int32)), .val (.ref b21), .unset, .unset, .unset, .unset, .unset, .unset] [(.int p2), (.int (1 : Int32)), (.ref b21)]))
    refine own_iastore X22 hx hZ e22 (i := 1) A22 rfl (by decide) (hb hby at_35) rfl ?_
    intro T23 h23 X23 e23 W23 A23
    have N23 := Fr.snoc X23 N22 G21
    have Z23 : n0 ≤ h23.size := by rw [W23.size]; exact Z22
    show own_Go _ _ _ _ _ _ _ (T23.setTop (mkF m 36 #[.val (.int p0), .val (.int p1), .val (.int p2), .val (.int p3), .val (.int p4), .val (.int p5), .val (.int (5 : Int32)), .val (.ref b21), .unset, .unset, .unset, .unset, .unset, .unset] []))
    refine own_go (fun _ q => XS.iload X23.here hx rfl (hb hby at_36) rfl q) ?_
    show own_Go _ _ _ _ _ _ _ (T23.setTop (mkF m 38 #[.val (.int p0), .val (.int p1), .val (.int p2), .val (.int p3), .val (.int p4), .val (.int p5), .val (.int (5 : Int32)), .val (.ref b21), .unset, .unset, .unset, .unset, .unset, .unset] [(.int (5 : Int32))]))
    refine own_go (fun _ q => XS.iconst X23.here hx rfl (hb hby at_38) q) ?_
    show own_Go _ _ _ _ _ _ _ (T23.setTop (mkF m 39 #[.val (.int p0), .val (.int p1), .val (.int p2), .val (.int p3), .val (.int p4), .val (.int p5), .val (.int (5 : Int32)), .val (.ref b21), .unset, .unset, .unset, .unset, .unset, .unset] [(.int (2 : Int32)), (.int (5 : Int32))]))
    refine own_go (fun _ q => XS.icmpNo X23.here hx rfl (hb hby at_39) rfl (tlt (by decide : (2 : Int32) < (5 : Int32))).2.2.2 q) ?_
    show own_Go _ _ _ _ _ _ _ (T23.setTop (mkF m 42 #[.val (.int p0), .val (.int p1), .val (.int p2), .val (.int p3), .val (.int p4), .val (.int p5), .val (.int (5 : Int32)), .val (.ref b21), .unset, .unset, .unset, .unset, .unset, .unset] []))
    refine own_go (fun _ q => XS.aload X23.here hx rfl (hb hby at_42) rfl rfl q) ?_
    show own_Go _ _ _ _ _ _ _ (T23.setTop (mkF m 44 #[.val (.int p0), .val (.int p1), .val (.int p2), .val (.int p3), .val (.int p4), .val (.int p5), .val (.int (5 : Int32)), .val (.ref b21), .unset, .unset, .unset, .unset, .unset, .unset] [(.ref b21)]))
    refine own_go (fun _ q => XS.iconst X23.here hx rfl (hb hby at_44) q) ?_
    show own_Go _ _ _ _ _ _ _ (T23.setTop (mkF m 45 #[.val (.int p0), .val (.int p1), .val (.int p2), .val (.int p3), .val (.int p4), .val (.int p5), .val (.int (5 : Int32)), .val (.ref b21), .unset, .unset, .unset, .unset, .unset, .unset] [(.int (2 : Int32)), (.ref b21)]))
    refine own_go (fun _ q => XS.iloadN X23.here hx rfl (hb hby at_45) rfl q) ?_
    show own_Go _ _ _ _ _ _ _ (T23.setTop (mkF m 46 #[.val (.int p0), .val (.int p1), .val (.int p2), .val (.int p3), .val (.int p4), .val (.int p5), .val (.int (5 : Int32)), .val (.ref b21), .unset, .unset, .unset, .unset, .unset, .unset] [(.int p3), (.int (2 : Int32)), (.ref b21)]))
    refine own_iastore X23 hx hZ e23 (i := 2) A23 rfl (by decide) (hb hby at_46) rfl ?_
    intro T24 h24 X24 e24 W24 A24
    have N24 := Fr.snoc X24 N23 G21
    have Z24 : n0 ≤ h24.size := by rw [W24.size]; exact Z23
    show own_Go _ _ _ _ _ _ _ (T24.setTop (mkF m 47 #[.val (.int p0), .val (.int p1), .val (.int p2), .val (.int p3), .val (.int p4), .val (.int p5), .val (.int (5 : Int32)), .val (.ref b21), .unset, .unset, .unset, .unset, .unset, .unset] []))
    refine own_go (fun _ q => XS.iload X24.here hx rfl (hb hby at_47) rfl q) ?_
    show own_Go _ _ _ _ _ _ _ (T24.setTop (mkF m 49 #[.val (.int p0), .val (.int p1), .val (.int p2), .val (.int p3), .val (.int p4), .val (.int p5), .val (.int (5 : Int32)), .val (.ref b21), .unset, .unset, .unset, .unset, .unset, .unset] [(.int (5 : Int32))]))
    refine own_go (fun _ q => XS.iconst X24.here hx rfl (hb hby at_49) q) ?_
    show own_Go _ _ _ _ _ _ _ (T24.setTop (mkF m 50 #[.val (.int p0), .val (.int p1), .val (.int p2), .val (.int p3), .val (.int p4), .val (.int p5), .val (.int (5 : Int32)), .val (.ref b21), .unset, .unset, .unset, .unset, .unset, .unset] [(.int (3 : Int32)), (.int (5 : Int32))]))
    refine own_go (fun _ q => XS.icmpNo X24.here hx rfl (hb hby at_50) rfl (tlt (by decide : (3 : Int32) < (5 : Int32))).2.2.2 q) ?_
    show own_Go _ _ _ _ _ _ _ (T24.setTop (mkF m 53 #[.val (.int p0), .val (.int p1), .val (.int p2), .val (.int p3), .val (.int p4), .val (.int p5), .val (.int (5 : Int32)), .val (.ref b21), .unset, .unset, .unset, .unset, .unset, .unset] []))
    refine own_go (fun _ q => XS.aload X24.here hx rfl (hb hby at_53) rfl rfl q) ?_
    show own_Go _ _ _ _ _ _ _ (T24.setTop (mkF m 55 #[.val (.int p0), .val (.int p1), .val (.int p2), .val (.int p3), .val (.int p4), .val (.int p5), .val (.int (5 : Int32)), .val (.ref b21), .unset, .unset, .unset, .unset, .unset, .unset] [(.ref b21)]))
    refine own_go (fun _ q => XS.iconst X24.here hx rfl (hb hby at_55) q) ?_
    show own_Go _ _ _ _ _ _ _ (T24.setTop (mkF m 56 #[.val (.int p0), .val (.int p1), .val (.int p2), .val (.int p3), .val (.int p4), .val (.int p5), .val (.int (5 : Int32)), .val (.ref b21), .unset, .unset, .unset, .unset, .unset, .unset] [(.int (3 : Int32)), (.ref b21)]))
    refine own_go (fun _ q => XS.iload X24.here hx rfl (hb hby at_56) rfl q) ?_
    show own_Go _ _ _ _ _ _ _ (T24.setTop (mkF m 58 #[.val (.int p0), .val (.int p1), .val (.int p2), .val (.int p3), .val (.int p4), .val (.int p5), .val (.int (5 : Int32)), .val (.ref b21), .unset, .unset, .unset, .unset, .unset, .unset] [(.int p4), (.int (3 : Int32)), (.ref b21)]))
    refine own_iastore X24 hx hZ e24 (i := 3) A24 rfl (by decide) (hb hby at_58) rfl ?_
    intro T25 h25 X25 e25 W25 A25
    have N25 := Fr.snoc X25 N24 G21
    have Z25 : n0 ≤ h25.size := by rw [W25.size]; exact Z24
    show own_Go _ _ _ _ _ _ _ (T25.setTop (mkF m 59 #[.val (.int p0), .val (.int p1), .val (.int p2), .val (.int p3), .val (.int p4), .val (.int p5), .val (.int (5 : Int32)), .val (.ref b21), .unset, .unset, .unset, .unset, .unset, .unset] []))
    refine own_go (fun _ q => XS.iload X25.here hx rfl (hb hby at_59) rfl q) ?_
    show own_Go _ _ _ _ _ _ _ (T25.setTop (mkF m 61 #[.val (.int p0), .val (.int p1), .val (.int p2), .val (.int p3), .val (.int p4), .val (.int p5), .val (.int (5 : Int32)), .val (.ref b21), .unset, .unset, .unset, .unset, .unset, .unset] [(.int (5 : Int32))]))
    refine own_go (fun _ q => XS.iconst X25.here hx rfl (hb hby at_61) q) ?_
    show own_Go _ _ _ _ _ _ _ (T25.setTop (mkF m 62 #[.val (.int p0), .val (.int p1), .val (.int p2), .val (.int p3), .val (.int p4), .val (.int p5), .val (.int (5 : Int32)), .val (.ref b21), .unset, .unset, .unset, .unset, .unset, .unset] [(.int (4 : Int32)), (.int (5 : Int32))]))
    refine own_go (fun _ q => XS.icmpNo X25.here hx rfl (hb hby at_62) rfl (tlt (by decide : (4 : Int32) < (5 : Int32))).2.2.2 q) ?_
    show own_Go _ _ _ _ _ _ _ (T25.setTop (mkF m 65 #[.val (.int p0), .val (.int p1), .val (.int p2), .val (.int p3), .val (.int p4), .val (.int p5), .val (.int (5 : Int32)), .val (.ref b21), .unset, .unset, .unset, .unset, .unset, .unset] []))
    refine own_go (fun _ q => XS.aload X25.here hx rfl (hb hby at_65) rfl rfl q) ?_
    show own_Go _ _ _ _ _ _ _ (T25.setTop (mkF m 67 #[.val (.int p0), .val (.int p1), .val (.int p2), .val (.int p3), .val (.int p4), .val (.int p5), .val (.int (5 : Int32)), .val (.ref b21), .unset, .unset, .unset, .unset, .unset, .unset] [(.ref b21)]))
    refine own_go (fun _ q => XS.iconst X25.here hx rfl (hb hby at_67) q) ?_
    show own_Go _ _ _ _ _ _ _ (T25.setTop (mkF m 68 #[.val (.int p0), .val (.int p1), .val (.int p2), .val (.int p3), .val (.int p4), .val (.int p5), .val (.int (5 : Int32)), .val (.ref b21), .unset, .unset, .unset, .unset, .unset, .unset] [(.int (4 : Int32)), (.ref b21)]))
    refine own_go (fun _ q => XS.iload X25.here hx rfl (hb hby at_68) rfl q) ?_
    show own_Go _ _ _ _ _ _ _ (T25.setTop (mkF m 70 #[.val (.int p0), .val (.int p1), .val (.int p2), .val (.int p3), .val (.int p4), .val (.int p5), .val (.int (5 : Int32)), .val (.ref b21), .unset, .unset, .unset, .unset, .unset, .unset] [(.int p5), (.int (4 : Int32)), (.ref b21)]))
    refine own_iastore X25 hx hZ e25 (i := 4) A25 rfl (by decide) (hb hby at_70) rfl ?_
    intro T26 h26 X26 e26 W26 A26
    have N26 := Fr.snoc X26 N25 G21
    have Z26 : n0 ≤ h26.size := by rw [W26.size]; exact Z25
    show own_Go _ _ _ _ _ _ _ (T26.setTop (mkF m 71 #[.val (.int p0), .val (.int p1), .val (.int p2), .val (.int p3), .val (.int p4), .val (.int p5), .val (.int (5 : Int32)), .val (.ref b21), .unset, .unset, .unset, .unset, .unset, .unset] []))
    refine own_go (fun _ q => XS.aload X26.here hx rfl (hb hby at_71) rfl rfl q) ?_
    show own_Go _ _ _ _ _ _ _ (T26.setTop (mkF m 73 #[.val (.int p0), .val (.int p1), .val (.int p2), .val (.int p3), .val (.int p4), .val (.int p5), .val (.int (5 : Int32)), .val (.ref b21), .unset, .unset, .unset, .unset, .unset, .unset] [(.ref b21)]))
    have A0 : own_Ar Z h26 b21 .int 5 (fun j => .int (own_f p1 p2 p3 p4 p5 j)) := A26.eqv (fun j hj => by
        have : j = 0 ∨ j = 1 ∨ j = 2 ∨ j = 3 ∨ j = 4 := by omega
        rcases this with rfl | rfl | rfl | rfl | rfl <;> rfl)
    have Z1 : n0 ≤ h26.size := by have := A0.lt; omega
    refine own_static X26 hx hZ hown (hw _ (List.mem_of_getElem? (i := 2) rfl)) (hw _ (List.mem_of_getElem? (i := 3) rfl)) (hw _ (List.mem_of_getElem? (i := 4) rfl)) (hw _ (List.mem_of_getElem? (i := 5) rfl)) (by decide) e26 (argsL := [(.ref b21)]) (rest := []) (rm1 l Z a0 hw [] b21 (own_f p1 p2 p3 p4 p5) 5 h26 n0 Z1 A0 G21 (by decide) (5 : Int32) rfl) 0 (by decide) (by decide) (by decide) (by decide) (by rw [hml]; rfl) pd_0 rfl rfl (Nat.le_of_eq rfl) (hb hby at_73) rfl ?_
    intro v27 T27 L27 X27 hQ27
    obtain ⟨rfl, N27q, A27⟩ := hQ27
    have N27 := Fr.app N26 N27q
    show own_Go _ _ _ _ _ _ _ (T27.setTop (mkF m 76 #[.val (.int p0), .val (.int p1), .val (.int p2), .val (.int p3), .val (.int p4), .val (.int p5), .val (.int (5 : Int32)), .val (.ref b21), .unset, .unset, .unset, .unset, .unset, .unset] []))
    refine own_go (fun _ q => XS.iloadN X27.here hx rfl (hb hby at_76) rfl q) ?_
    show own_Go _ _ _ _ _ _ _ (T27.setTop (mkF m 77 #[.val (.int p0), .val (.int p1), .val (.int p2), .val (.int p3), .val (.int p4), .val (.int p5), .val (.int (5 : Int32)), .val (.ref b21), .unset, .unset, .unset, .unset, .unset, .unset] [(.int p1)]))
    refine own_go (fun _ q => XS.istore X27.here hx rfl (hb hby at_77) rfl (l' := #[.val (.int p0), .val (.int p1), .val (.int p2), .val (.int p3), .val (.int p4), .val (.int p5), .val (.int (5 : Int32)), .val (.ref b21), .val (.int p1), .unset, .unset, .unset, .unset, .unset]) rfl q) ?_
    show own_Go _ _ _ _ _ _ _ (T27.setTop (mkF m 79 #[.val (.int p0), .val (.int p1), .val (.int p2), .val (.int p3), .val (.int p4), .val (.int p5), .val (.int (5 : Int32)), .val (.ref b21), .val (.int p1), .unset, .unset, .unset, .unset, .unset] []))
    refine own_go (fun _ q => XS.iload X27.here hx rfl (hb hby at_79) rfl q) ?_
    show own_Go _ _ _ _ _ _ _ (T27.setTop (mkF m 81 #[.val (.int p0), .val (.int p1), .val (.int p2), .val (.int p3), .val (.int p4), .val (.int p5), .val (.int (5 : Int32)), .val (.ref b21), .val (.int p1), .unset, .unset, .unset, .unset, .unset] [(.int p1)]))
    refine own_go (fun _ q => XS.iloadN X27.here hx rfl (hb hby at_81) rfl q) ?_
    show own_Go _ _ _ _ _ _ _ (T27.setTop (mkF m 82 #[.val (.int p0), .val (.int p1), .val (.int p2), .val (.int p3), .val (.int p4), .val (.int p5), .val (.int (5 : Int32)), .val (.ref b21), .val (.int p1), .unset, .unset, .unset, .unset, .unset] [(.int p2), (.int p1)]))
    refine own_go (fun _ q => XS.iadd X27.here hx rfl (hb hby at_82) rfl q) ?_
    show own_Go _ _ _ _ _ _ _ (T27.setTop (mkF m 83 #[.val (.int p0), .val (.int p1), .val (.int p2), .val (.int p3), .val (.int p4), .val (.int p5), .val (.int (5 : Int32)), .val (.ref b21), .val (.int p1), .unset, .unset, .unset, .unset, .unset] [(.int (p1 + p2))]))
    refine own_go (fun _ q => XS.istore X27.here hx rfl (hb hby at_83) rfl (l' := #[.val (.int p0), .val (.int p1), .val (.int p2), .val (.int p3), .val (.int p4), .val (.int p5), .val (.int (5 : Int32)), .val (.ref b21), .val (.int p1), .val (.int (p1 + p2)), .unset, .unset, .unset, .unset]) rfl q) ?_
    show own_Go _ _ _ _ _ _ _ (T27.setTop (mkF m 85 #[.val (.int p0), .val (.int p1), .val (.int p2), .val (.int p3), .val (.int p4), .val (.int p5), .val (.int (5 : Int32)), .val (.ref b21), .val (.int p1), .val (.int (p1 + p2)), .unset, .unset, .unset, .unset] []))
    refine own_go (fun _ q => XS.iload X27.here hx rfl (hb hby at_85) rfl q) ?_
    show own_Go _ _ _ _ _ _ _ (T27.setTop (mkF m 87 #[.val (.int p0), .val (.int p1), .val (.int p2), .val (.int p3), .val (.int p4), .val (.int p5), .val (.int (5 : Int32)), .val (.ref b21), .val (.int p1), .val (.int (p1 + p2)), .unset, .unset, .unset, .unset] [(.int (p1 + p2))]))
    refine own_go (fun _ q => XS.iloadN X27.here hx rfl (hb hby at_87) rfl q) ?_
    show own_Go _ _ _ _ _ _ _ (T27.setTop (mkF m 88 #[.val (.int p0), .val (.int p1), .val (.int p2), .val (.int p3), .val (.int p4), .val (.int p5), .val (.int (5 : Int32)), .val (.ref b21), .val (.int p1), .val (.int (p1 + p2)), .unset, .unset, .unset, .unset] [(.int p3), (.int (p1 + p2))]))
    refine own_go (fun _ q => XS.iadd X27.here hx rfl (hb hby at_88) rfl q) ?_
    show own_Go _ _ _ _ _ _ _ (T27.setTop (mkF m 89 #[.val (.int p0), .val (.int p1), .val (.int p2), .val (.int p3), .val (.int p4), .val (.int p5), .val (.int (5 : Int32)), .val (.ref b21), .val (.int p1), .val (.int (p1 + p2)), .unset, .unset, .unset, .unset] [(.int ((p1 + p2) + p3))]))
    refine own_go (fun _ q => XS.istore X27.here hx rfl (hb hby at_89) rfl (l' := #[.val (.int p0), .val (.int p1), .val (.int p2), .val (.int p3), .val (.int p4), .val (.int p5), .val (.int (5 : Int32)), .val (.ref b21), .val (.int p1), .val (.int (p1 + p2)), .val (.int ((p1 + p2) + p3)), .unset, .unset, .unset]) rfl q) ?_
    show own_Go _ _ _ _ _ _ _ (T27.setTop (mkF m 91 #[.val (.int p0), .val (.int p1), .val (.int p2), .val (.int p3), .val (.int p4), .val (.int p5), .val (.int (5 : Int32)), .val (.ref b21), .val (.int p1), .val (.int (p1 + p2)), .val (.int ((p1 + p2) + p3)), .unset, .unset, .unset] []))
    refine own_go (fun _ q => XS.iload X27.here hx rfl (hb hby at_91) rfl q) ?_
    show own_Go _ _ _ _ _ _ _ (T27.setTop (mkF m 93 #[.val (.int p0), .val (.int p1), .val (.int p2), .val (.int p3), .val (.int p4), .val (.int p5), .val (.int (5 : Int32)), .val (.ref b21), .val (.int p1), .val (.int (p1 + p2)), .val (.int ((p1 + p2) + p3)), .unset, .unset, .unset] [(.int ((p1 + p2) + p3))]))
    refine own_go (fun _ q => XS.iload X27.here hx rfl (hb hby at_93) rfl q) ?_
    show own_Go _ _ _ _ _ _ _ (T27.setTop (mkF m 95 #[.val (.int p0), .val (.int p1), .val (.int p2), .val (.int p3), .val (.int p4), .val (.int p5), .val (.int (5 : Int32)), .val (.ref b21), .val (.int p1), .val (.int (p1 + p2)), .val (.int ((p1 + p2) + p3)), .unset, .unset, .unset] [(.int p4), (.int ((p1 + p2) + p3))]))
    refine own_go (fun _ q => XS.iadd X27.here hx rfl (hb hby at_95) rfl q) ?_
    show own_Go _ _ _ _ _ _ _ (T27.setTop (mkF m 96 #[.val (.int p0), .val (.int p1), .val (.int p2), .val (.int p3), .val (.int p4), .val (.int p5), .val (.int (5 : Int32)), .val (.ref b21), .val (.int p1), .val (.int (p1 + p2)), .val (.int ((p1 + p2) + p3)), .unset, .unset, .unset] [(.int (((p1 + p2) + p3) + p4))]))
    refine own_go (fun _ q => XS.istore X27.here hx rfl (hb hby at_96) rfl (l' := #[.val (.int p0), .val (.int p1), .val (.int p2), .val (.int p3), .val (.int p4), .val (.int p5), .val (.int (5 : Int32)), .val (.ref b21), .val (.int p1), .val (.int (p1 + p2)), .val (.int ((p1 + p2) + p3)), .val (.int (((p1 + p2) + p3) + p4)), .unset, .unset]) rfl q) ?_
    show own_Go _ _ _ _ _ _ _ (T27.setTop (mkF m 98 #[.val (.int p0), .val (.int p1), .val (.int p2), .val (.int p3), .val (.int p4), .val (.int p5), .val (.int (5 : Int32)), .val (.ref b21), .val (.int p1), .val (.int (p1 + p2)), .val (.int ((p1 + p2) + p3)), .val (.int (((p1 + p2) + p3) + p4)), .unset, .unset] []))
    refine own_go (fun _ q => XS.iload X27.here hx rfl (hb hby at_98) rfl q) ?_
    show own_Go _ _ _ _ _ _ _ (T27.setTop (mkF m 100 #[.val (.int p0), .val (.int p1), .val (.int p2), .val (.int p3), .val (.int p4), .val (.int p5), .val (.int (5 : Int32)), .val (.ref b21), .val (.int p1), .val (.int (p1 + p2)), .val (.int ((p1 + p2) + p3)), .val (.int (((p1 + p2) + p3) + p4)), .unset, .unset] [(.int (((p1 + p2) + p3) + p4))]))
    refine own_go (fun _ q => XS.iload X27.here hx rfl (hb hby at_100) rfl q) ?_
    show own_Go _ _ _ _ _ _ _ (T27.setTop (mkF m 102 #[.val (.int p0), .val (.int p1), .val (.int p2), .val (.int p3), .val (.int p4), .val (.int p5), .val (.int (5 : Int32)), .val (.ref b21), .val (.int p1), .val (.int (p1 + p2)), .val (.int ((p1 + p2) + p3)), .val (.int (((p1 + p2) + p3) + p4)), .unset, .unset] [(.int p5), (.int (((p1 + p2) + p3) + p4))]))
    refine own_go (fun _ q => XS.iadd X27.here hx rfl (hb hby at_102) rfl q) ?_
    show own_Go _ _ _ _ _ _ _ (T27.setTop (mkF m 103 #[.val (.int p0), .val (.int p1), .val (.int p2), .val (.int p3), .val (.int p4), .val (.int p5), .val (.int (5 : Int32)), .val (.ref b21), .val (.int p1), .val (.int (p1 + p2)), .val (.int ((p1 + p2) + p3)), .val (.int (((p1 + p2) + p3) + p4)), .unset, .unset] [(.int ((((p1 + p2) + p3) + p4) + p5))]))
    refine own_go (fun _ q => XS.istore X27.here hx rfl (hb hby at_103) rfl (l' := #[.val (.int p0), .val (.int p1), .val (.int p2), .val (.int p3), .val (.int p4), .val (.int p5), .val (.int (5 : Int32)), .val (.ref b21), .val (.int p1), .val (.int (p1 + p2)), .val (.int ((p1 + p2) + p3)), .val (.int (((p1 + p2) + p3) + p4)), .val (.int ((((p1 + p2) + p3) + p4) + p5)), .unset]) rfl q) ?_
    show own_Go _ _ _ _ _ _ _ (T27.setTop (mkF m 105 #[.val (.int p0), .val (.int p1), .val (.int p2), .val (.int p3), .val (.int p4), .val (.int p5), .val (.int (5 : Int32)), .val (.ref b21), .val (.int p1), .val (.int (p1 + p2)), .val (.int ((p1 + p2) + p3)), .val (.int (((p1 + p2) + p3) + p4)), .val (.int ((((p1 + p2) + p3) + p4) + p5)), .unset] []))
    refine own_go (fun _ q => XS.aload X27.here hx rfl (hb hby at_105) rfl rfl q) ?_
    show own_Go _ _ _ _ _ _ _ (T27.setTop (mkF m 107 #[.val (.int p0), .val (.int p1), .val (.int p2), .val (.int p3), .val (.int p4), .val (.int p5), .val (.int (5 : Int32)), .val (.ref b21), .val (.int p1), .val (.int (p1 + p2)), .val (.int ((p1 + p2) + p3)), .val (.int (((p1 + p2) + p3) + p4)), .val (.int ((((p1 + p2) + p3) + p4) + p5)), .unset] [(.ref b21)]))
    refine own_length (z := (5 : Int32)) X27 hx hZ rfl A27 rfl (hb hby at_107) rfl ?_
    show own_Go _ _ _ _ _ _ _ (T27.setTop (mkF m 108 #[.val (.int p0), .val (.int p1), .val (.int p2), .val (.int p3), .val (.int p4), .val (.int p5), .val (.int (5 : Int32)), .val (.ref b21), .val (.int p1), .val (.int (p1 + p2)), .val (.int ((p1 + p2) + p3)), .val (.int (((p1 + p2) + p3) + p4)), .val (.int ((((p1 + p2) + p3) + p4) + p5)), .unset] [(.int (5 : Int32))]))
    refine own_go (fun _ q => XS.iload X27.here hx rfl (hb hby at_108) rfl q) ?_
    show own_Go _ _ _ _ _ _ _ (T27.setTop (mkF m 110 #[.val (.int p0), .val (.int p1), .val (.int p2), .val (.int p3), .val (.int p4), .val (.int p5), .val (.int (5 : Int32)), .val (.ref b21), .val (.int p1), .val (.int (p1 + p2)), .val (.int ((p1 + p2) + p3)), .val (.int (((p1 + p2) + p3) + p4)), .val (.int ((((p1 + p2) + p3) + p4) + p5)), .unset] [(.int (5 : Int32)), (.int (5 : Int32))]))
    refine own_go (fun _ q => XS.icmpNo X27.here hx rfl (hb hby at_110) rfl (teq (by decide : (5 : Int32) = (5 : Int32))).2 q) ?_
    show own_Go _ _ _ _ _ _ _ (T27.setTop (mkF m 113 #[.val (.int p0), .val (.int p1), .val (.int p2), .val (.int p3), .val (.int p4), .val (.int p5), .val (.int (5 : Int32)), .val (.ref b21), .val (.int p1), .val (.int (p1 + p2)), .val (.int ((p1 + p2) + p3)), .val (.int (((p1 + p2) + p3) + p4)), .val (.int ((((p1 + p2) + p3) + p4) + p5)), .unset] []))
    refine own_go (fun _ q => XS.iconst X27.here hx rfl (hb hby at_113) q) ?_
    show own_Go _ _ _ _ _ _ _ (T27.setTop (mkF m 114 #[.val (.int p0), .val (.int p1), .val (.int p2), .val (.int p3), .val (.int p4), .val (.int p5), .val (.int (5 : Int32)), .val (.ref b21), .val (.int p1), .val (.int (p1 + p2)), .val (.int ((p1 + p2) + p3)), .val (.int (((p1 + p2) + p3) + p4)), .val (.int ((((p1 + p2) + p3) + p4) + p5)), .unset] [(.int (1 : Int32))]))
    refine own_go (fun _ q => XS.goto X27.here hx rfl (pc0 := 114) (pc' := 118) rfl (hb hby at_114) (by decide) (by decide) q) ?_
    show own_Go _ _ _ _ _ _ _ (T27.setTop (mkF m 118 #[.val (.int p0), .val (.int p1), .val (.int p2), .val (.int p3), .val (.int p4), .val (.int p5), .val (.int (5 : Int32)), .val (.ref b21), .val (.int p1), .val (.int (p1 + p2)), .val (.int ((p1 + p2) + p3)), .val (.int (((p1 + p2) + p3) + p4)), .val (.int ((((p1 + p2) + p3) + p4) + p5)), .unset] [(.int (1 : Int32))]))
    refine own_go (fun _ q => XS.istore X27.here hx rfl (hb hby at_118) rfl (l' := #[.val (.int p0), .val (.int p1), .val (.int p2), .val (.int p3), .val (.int p4), .val (.int p5), .val (.int (5 : Int32)), .val (.ref b21), .val (.int p1), .val (.int (p1 + p2)), .val (.int ((p1 + p2) + p3)), .val (.int (((p1 + p2) + p3) + p4)), .val (.int ((((p1 + p2) + p3) + p4) + p5)), .val (.int (1 : Int32))]) rfl q) ?_
    show own_Go _ _ _ _ _ _ _ (T27.setTop (mkF m 120 #[.val (.int p0), .val (.int p1), .val (.int p2), .val (.int p3), .val (.int p4), .val (.int p5), .val (.int (5 : Int32)), .val (.ref b21), .val (.int p1), .val (.int (p1 + p2)), .val (.int ((p1 + p2) + p3)), .val (.int (((p1 + p2) + p3) + p4)), .val (.int ((((p1 + p2) + p3) + p4) + p5)), .val (.int (1 : Int32))] []))
    refine own_go (fun _ q => XS.iload X27.here hx rfl (hb hby at_120) rfl q) ?_
    show own_Go _ _ _ _ _ _ _ (T27.setTop (mkF m 122 #[.val (.int p0), .val (.int p1), .val (.int p2), .val (.int p3), .val (.int p4), .val (.int p5), .val (.int (5 : Int32)), .val (.ref b21), .val (.int p1), .val (.int (p1 + p2)), .val (.int ((p1 + p2) + p3)), .val (.int (((p1 + p2) + p3) + p4)), .val (.int ((((p1 + p2) + p3) + p4) + p5)), .val (.int (1 : Int32))] [(.int (5 : Int32))]))
    refine own_go (fun _ q => XS.ifNo X27.here hx rfl (hb hby at_122) rfl ((if0 _ _).trans (tlt (by decide : (0 : Int32) < (5 : Int32))).2.2.2) q) ?_
    show own_Go _ _ _ _ _ _ _ (T27.setTop (mkF m 125 #[.val (.int p0), .val (.int p1), .val (.int p2), .val (.int p3), .val (.int p4), .val (.int p5), .val (.int (5 : Int32)), .val (.ref b21), .val (.int p1), .val (.int (p1 + p2)), .val (.int ((p1 + p2) + p3)), .val (.int (((p1 + p2) + p3) + p4)), .val (.int ((((p1 + p2) + p3) + p4) + p5)), .val (.int (1 : Int32))] []))
    refine own_go (fun _ q => XS.iload X27.here hx rfl (hb hby at_125) rfl q) ?_
    show own_Go _ _ _ _ _ _ _ (T27.setTop (mkF m 127 #[.val (.int p0), .val (.int p1), .val (.int p2), .val (.int p3), .val (.int p4), .val (.int p5), .val (.int (5 : Int32)), .val (.ref b21), .val (.int p1), .val (.int (p1 + p2)), .val (.int ((p1 + p2) + p3)), .val (.int (((p1 + p2) + p3) + p4)), .val (.int ((((p1 + p2) + p3) + p4) + p5)), .val (.int (1 : Int32))] [(.int (1 : Int32))]))
    refine own_go (fun _ q => XS.ifNo X27.here hx rfl (hb hby at_127) rfl ((if0 _ _).trans (feq (by decide : ¬ ((1 : Int32) = (0 : Int32)))).1) q) ?_
    show own_Go _ _ _ _ _ _ _ (T27.setTop (mkF m 130 #[.val (.int p0), .val (.int p1), .val (.int p2), .val (.int p3), .val (.int p4), .val (.int p5), .val (.int (5 : Int32)), .val (.ref b21), .val (.int p1), .val (.int (p1 + p2)), .val (.int ((p1 + p2) + p3)), .val (.int (((p1 + p2) + p3) + p4)), .val (.int ((((p1 + p2) + p3) + p4) + p5)), .val (.int (1 : Int32))] []))
    refine own_go (fun _ q => XS.aload X27.here hx rfl (hb hby at_130) rfl rfl q) ?_
    show own_Go _ _ _ _ _ _ _ (T27.setTop (mkF m 132 #[.val (.int p0), .val (.int p1), .val (.int p2), .val (.int p3), .val (.int p4), .val (.int p5), .val (.int (5 : Int32)), .val (.ref b21), .val (.int p1), .val (.int (p1 + p2)), .val (.int ((p1 + p2) + p3)), .val (.int (((p1 + p2) + p3) + p4)), .val (.int ((((p1 + p2) + p3) + p4) + p5)), .val (.int (1 : Int32))] [(.ref b21)]))
    refine own_go (fun _ q => XS.iconst X27.here hx rfl (hb hby at_132) q) ?_
    show own_Go _ _ _ _ _ _ _ (T27.setTop (mkF m 133 #[.val (.int p0), .val (.int p1), .val (.int p2), .val (.int p3), .val (.int p4), .val (.int p5), .val (.int (5 : Int32)), .val (.ref b21), .val (.int p1), .val (.int (p1 + p2)), .val (.int ((p1 + p2) + p3)), .val (.int (((p1 + p2) + p3) + p4)), .val (.int ((((p1 + p2) + p3) + p4) + p5)), .val (.int (1 : Int32))] [(.int (0 : Int32)), (.ref b21)]))
    refine own_iaload X27 hx hZ rfl (i := 0) A27 rfl (by decide) rfl (hb hby at_133) rfl ?_
    show own_Go _ _ _ _ _ _ _ (T27.setTop (mkF m 134 #[.val (.int p0), .val (.int p1), .val (.int p2), .val (.int p3), .val (.int p4), .val (.int p5), .val (.int (5 : Int32)), .val (.ref b21), .val (.int p1), .val (.int (p1 + p2)), .val (.int ((p1 + p2) + p3)), .val (.int (((p1 + p2) + p3) + p4)), .val (.int ((((p1 + p2) + p3) + p4) + p5)), .val (.int (1 : Int32))] [(.int p1)]))
    refine own_go (fun _ q => XS.iload X27.here hx rfl (hb hby at_134) rfl q) ?_
    show own_Go _ _ _ _ _ _ _ (T27.setTop (mkF m 136 #[.val (.int p0), .val (.int p1), .val (.int p2), .val (.int p3), .val (.int p4), .val (.int p5), .val (.int (5 : Int32)), .val (.ref b21), .val (.int p1), .val (.int (p1 + p2)), .val (.int ((p1 + p2) + p3)), .val (.int (((p1 + p2) + p3) + p4)), .val (.int ((((p1 + p2) + p3) + p4) + p5)), .val (.int (1 : Int32))] [(.int p1), (.int p1)]))
    refine own_go (fun _ q => XS.icmpNo X27.here hx rfl (hb hby at_136) rfl (teq rfl).2 q) ?_
    show own_Go _ _ _ _ _ _ _ (T27.setTop (mkF m 139 #[.val (.int p0), .val (.int p1), .val (.int p2), .val (.int p3), .val (.int p4), .val (.int p5), .val (.int (5 : Int32)), .val (.ref b21), .val (.int p1), .val (.int (p1 + p2)), .val (.int ((p1 + p2) + p3)), .val (.int (((p1 + p2) + p3) + p4)), .val (.int ((((p1 + p2) + p3) + p4) + p5)), .val (.int (1 : Int32))] []))
    refine own_go (fun _ q => XS.iconst X27.here hx rfl (hb hby at_139) q) ?_
    show own_Go _ _ _ _ _ _ _ (T27.setTop (mkF m 140 #[.val (.int p0), .val (.int p1), .val (.int p2), .val (.int p3), .val (.int p4), .val (.int p5), .val (.int (5 : Int32)), .val (.ref b21), .val (.int p1), .val (.int (p1 + p2)), .val (.int ((p1 + p2) + p3)), .val (.int (((p1 + p2) + p3) + p4)), .val (.int ((((p1 + p2) + p3) + p4) + p5)), .val (.int (1 : Int32))] [(.int (1 : Int32))]))
    refine own_go (fun _ q => XS.goto X27.here hx rfl (pc0 := 140) (pc' := 144) rfl (hb hby at_140) (by decide) (by decide) q) ?_
    show own_Go _ _ _ _ _ _ _ (T27.setTop (mkF m 144 #[.val (.int p0), .val (.int p1), .val (.int p2), .val (.int p3), .val (.int p4), .val (.int p5), .val (.int (5 : Int32)), .val (.ref b21), .val (.int p1), .val (.int (p1 + p2)), .val (.int ((p1 + p2) + p3)), .val (.int (((p1 + p2) + p3) + p4)), .val (.int ((((p1 + p2) + p3) + p4) + p5)), .val (.int (1 : Int32))] [(.int (1 : Int32))]))
    refine own_go (fun _ q => XS.istore X27.here hx rfl (hb hby at_144) rfl (l' := #[.val (.int p0), .val (.int p1), .val (.int p2), .val (.int p3), .val (.int p4), .val (.int p5), .val (.int (5 : Int32)), .val (.ref b21), .val (.int p1), .val (.int (p1 + p2)), .val (.int ((p1 + p2) + p3)), .val (.int (((p1 + p2) + p3) + p4)), .val (.int ((((p1 + p2) + p3) + p4) + p5)), .val (.int (1 : Int32))]) rfl q) ?_
    show own_Go _ _ _ _ _ _ _ (T27.setTop (mkF m 146 #[.val (.int p0), .val (.int p1), .val (.int p2), .val (.int p3), .val (.int p4), .val (.int p5), .val (.int (5 : Int32)), .val (.ref b21), .val (.int p1), .val (.int (p1 + p2)), .val (.int ((p1 + p2) + p3)), .val (.int (((p1 + p2) + p3) + p4)), .val (.int ((((p1 + p2) + p3) + p4) + p5)), .val (.int (1 : Int32))] []))
    refine own_go (fun _ q => XS.iload X27.here hx rfl (hb hby at_146) rfl q) ?_
    show own_Go _ _ _ _ _ _ _ (T27.setTop (mkF m 148 #[.val (.int p0), .val (.int p1), .val (.int p2), .val (.int p3), .val (.int p4), .val (.int p5), .val (.int (5 : Int32)), .val (.ref b21), .val (.int p1), .val (.int (p1 + p2)), .val (.int ((p1 + p2) + p3)), .val (.int (((p1 + p2) + p3) + p4)), .val (.int ((((p1 + p2) + p3) + p4) + p5)), .val (.int (1 : Int32))] [(.int (5 : Int32))]))
    refine own_go (fun _ q => XS.iconst X27.here hx rfl (hb hby at_148) q) ?_
    show own_Go _ _ _ _ _ _ _ (T27.setTop (mkF m 149 #[.val (.int p0), .val (.int p1), .val (.int p2), .val (.int p3), .val (.int p4), .val (.int p5), .val (.int (5 : Int32)), .val (.ref b21), .val (.int p1), .val (.int (p1 + p2)), .val (.int ((p1 + p2) + p3)), .val (.int (((p1 + p2) + p3) + p4)), .val (.int ((((p1 + p2) + p3) + p4) + p5)), .val (.int (1 : Int32))] [(.int (1 : Int32)), (.int (5 : Int32))]))
    refine own_go (fun _ q => XS.icmpNo X27.here hx rfl (hb hby at_149) rfl (tlt (by decide : (1 : Int32) < (5 : Int32))).2.2.2 q) ?_
    show own_Go _ _ _ _ _ _ _ (T27.setTop (mkF m 152 #[.val (.int p0), .val (.int p1), .val (.int p2), .val (.int p3), .val (.int p4), .val (.int p5), .val (.int (5 : Int32)), .val (.ref b21), .val (.int p1), .val (.int (p1 + p2)), .val (.int ((p1 + p2) + p3)), .val (.int (((p1 + p2) + p3) + p4)), .val (.int ((((p1 + p2) + p3) + p4) + p5)), .val (.int (1 : Int32))] []))
    refine own_go (fun _ q => XS.iload X27.here hx rfl (hb hby at_152) rfl q) ?_
    show own_Go _ _ _ _ _ _ _ (T27.setTop (mkF m 154 #[.val (.int p0), .val (.int p1), .val (.int p2), .val (.int p3), .val (.int p4), .val (.int p5), .val (.int (5 : Int32)), .val (.ref b21), .val (.int p1), .val (.int (p1 + p2)), .val (.int ((p1 + p2) + p3)), .val (.int (((p1 + p2) + p3) + p4)), .val (.int ((((p1 + p2) + p3) + p4) + p5)), .val (.int (1 : Int32))] [(.int (1 : Int32))]))
    refine own_go (fun _ q => XS.ifNo X27.here hx rfl (hb hby at_154) rfl ((if0 _ _).trans (feq (by decide : ¬ ((1 : Int32) = (0 : Int32)))).1) q) ?_
    show own_Go _ _ _ _ _ _ _ (T27.setTop (mkF m 157 #[.val (.int p0), .val (.int p1), .val (.int p2), .val (.int p3), .val (.int p4), .val (.int p5), .val (.int (5 : Int32)), .val (.ref b21), .val (.int p1), .val (.int (p1 + p2)), .val (.int ((p1 + p2) + p3)), .val (.int (((p1 + p2) + p3) + p4)), .val (.int ((((p1 + p2) + p3) + p4) + p5)), .val (.int (1 : Int32))] []))
    refine own_go (fun _ q => XS.aload X27.here hx rfl (hb hby at_157) rfl rfl q) ?_
    show own_Go _ _ _ _ _ _ _ (T27.setTop (mkF m 159 #[.val (.int p0), .val (.int p1), .val (.int p2), .val (.int p3), .val (.int p4), .val (.int p5), .val (.int (5 : Int32)), .val (.ref b21), .val (.int p1), .val (.int (p1 + p2)), .val (.int ((p1 + p2) + p3)), .val (.int (((p1 + p2) + p3) + p4)), .val (.int ((((p1 + p2) + p3) + p4) + p5)), .val (.int (1 : Int32))] [(.ref b21)]))
    refine own_go (fun _ q => XS.iconst X27.here hx rfl (hb hby at_159) q) ?_
    show own_Go _ _ _ _ _ _ _ (T27.setTop (mkF m 160 #[.val (.int p0), .val (.int p1), .val (.int p2), .val (.int p3), .val (.int p4), .val (.int p5), .val (.int (5 : Int32)), .val (.ref b21), .val (.int p1), .val (.int (p1 + p2)), .val (.int ((p1 + p2) + p3)), .val (.int (((p1 + p2) + p3) + p4)), .val (.int ((((p1 + p2) + p3) + p4) + p5)), .val (.int (1 : Int32))] [(.int (1 : Int32)), (.ref b21)]))
    refine own_iaload X27 hx hZ rfl (i := 1) A27 rfl (by decide) rfl (hb hby at_160) rfl ?_
    show own_Go _ _ _ _ _ _ _ (T27.setTop (mkF m 161 #[.val (.int p0), .val (.int p1), .val (.int p2), .val (.int p3), .val (.int p4), .val (.int p5), .val (.int (5 : Int32)), .val (.ref b21), .val (.int p1), .val (.int (p1 + p2)), .val (.int ((p1 + p2) + p3)), .val (.int (((p1 + p2) + p3) + p4)), .val (.int ((((p1 + p2) + p3) + p4) + p5)), .val (.int (1 : Int32))] [(.int (p1 + p2))]))
    refine own_go (fun _ q => XS.iload X27.here hx rfl (hb hby at_161) rfl q) ?_
    show own_Go _ _ _ _ _ _ _ (T27.setTop (mkF m 163 #[.val (.int p0), .val (.int p1), .val (.int p2), .val (.int p3), .val (.int p4), .val (.int p5), .val (.int (5 : Int32)), .val (.ref b21), .val (.int p1), .val (.int (p1 + p2)), .val (.int ((p1 + p2) + p3)), .val (.int (((p1 + p2) + p3) + p4)), .val (.int ((((p1 + p2) + p3) + p4) + p5)), .val (.int (1 : Int32))] [(.int (p1 + p2)), (.int (p1 + p2))]))
    refine own_go (fun _ q => XS.icmpNo X27.here hx rfl (hb hby at_163) rfl (teq rfl).2 q) ?_
    show own_Go _ _ _ _ _ _ _ (T27.setTop (mkF m 166 #[.val (.int p0), .val (.int p1), .val (.int p2), .val (.int p3), .val (.int p4), .val (.int p5), .val (.int (5 : Int32)), .val (.ref b21), .val (.int p1), .val (.int (p1 + p2)), .val (.int ((p1 + p2) + p3)), .val (.int (((p1 + p2) + p3) + p4)), .val (.int ((((p1 + p2) + p3) + p4) + p5)), .val (.int (1 : Int32))] []))
    refine own_go (fun _ q => XS.iconst X27.here hx rfl (hb hby at_166) q) ?_
    show own_Go _ _ _ _ _ _ _ (T27.setTop (mkF m 167 #[.val (.int p0), .val (.int p1), .val (.int p2), .val (.int p3), .val (.int p4), .val (.int p5), .val (.int (5 : Int32)), .val (.ref b21), .val (.int p1), .val (.int (p1 + p2)), .val (.int ((p1 + p2) + p3)), .val (.int (((p1 + p2) + p3) + p4)), .val (.int ((((p1 + p2) + p3) + p4) + p5)), .val (.int (1 : Int32))] [(.int (1 : Int32))]))
    refine own_go (fun _ q => XS.goto X27.here hx rfl (pc0 := 167) (pc' := 171) rfl (hb hby at_167) (by decide) (by decide) q) ?_
    show own_Go _ _ _ _ _ _ _ (T27.setTop (mkF m 171 #[.val (.int p0), .val (.int p1), .val (.int p2), .val (.int p3), .val (.int p4), .val (.int p5), .val (.int (5 : Int32)), .val (.ref b21), .val (.int p1), .val (.int (p1 + p2)), .val (.int ((p1 + p2) + p3)), .val (.int (((p1 + p2) + p3) + p4)), .val (.int ((((p1 + p2) + p3) + p4) + p5)), .val (.int (1 : Int32))] [(.int (1 : Int32))]))
    refine own_go (fun _ q => XS.istore X27.here hx rfl (hb hby at_171) rfl (l' := #[.val (.int p0), .val (.int p1), .val (.int p2), .val (.int p3), .val (.int p4), .val (.int p5), .val (.int (5 : Int32)), .val (.ref b21), .val (.int p1), .val (.int (p1 + p2)), .val (.int ((p1 + p2) + p3)), .val (.int (((p1 + p2) + p3) + p4)), .val (.int ((((p1 + p2) + p3) + p4) + p5)), .val (.int (1 : Int32))]) rfl q) ?_
    show own_Go _ _ _ _ _ _ _ (T27.setTop (mkF m 173 #[.val (.int p0), .val (.int p1), .val (.int p2), .val (.int p3), .val (.int p4), .val (.int p5), .val (.int (5 : Int32)), .val (.ref b21), .val (.int p1), .val (.int (p1 + p2)), .val (.int ((p1 + p2) + p3)), .val (.int (((p1 + p2) + p3) + p4)), .val (.int ((((p1 + p2) + p3) + p4) + p5)), .val (.int (1 : Int32))] []))
    refine own_go (fun _ q => XS.iload X27.here hx rfl (hb hby at_173) rfl q) ?_
    show own_Go _ _ _ _ _ _ _ (T27.setTop (mkF m 175 #[.val (.int p0), .val (.int p1), .val (.int p2), .val (.int p3), .val (.int p4), .val (.int p5), .val (.int (5 : Int32)), .val (.ref b21), .val (.int p1), .val (.int (p1 + p2)), .val (.int ((p1 + p2) + p3)), .val (.int (((p1 + p2) + p3) + p4)), .val (.int ((((p1 + p2) + p3) + p4) + p5)), .val (.int (1 : Int32))] [(.int (5 : Int32))]))
    refine own_go (fun _ q => XS.iconst X27.here hx rfl (hb hby at_175) q) ?_
    show own_Go _ _ _ _ _ _ _ (T27.setTop (mkF m 176 #[.val (.int p0), .val (.int p1), .val (.int p2), .val (.int p3), .val (.int p4), .val (.int p5), .val (.int (5 : Int32)), .val (.ref b21), .val (.int p1), .val (.int (p1 + p2)), .val (.int ((p1 + p2) + p3)), .val (.int (((p1 + p2) + p3) + p4)), .val (.int ((((p1 + p2) + p3) + p4) + p5)), .val (.int (1 : Int32))] [(.int (2 : Int32)), (.int (5 : Int32))]))
    refine own_go (fun _ q => XS.icmpNo X27.here hx rfl (hb hby at_176) rfl (tlt (by decide : (2 : Int32) < (5 : Int32))).2.2.2 q) ?_
    show own_Go _ _ _ _ _ _ _ (T27.setTop (mkF m 179 #[.val (.int p0), .val (.int p1), .val (.int p2), .val (.int p3), .val (.int p4), .val (.int p5), .val (.int (5 : Int32)), .val (.ref b21), .val (.int p1), .val (.int (p1 + p2)), .val (.int ((p1 + p2) + p3)), .val (.int (((p1 + p2) + p3) + p4)), .val (.int ((((p1 + p2) + p3) + p4) + p5)), .val (.int (1 : Int32))] []))
    refine own_go (fun _ q => XS.iload X27.here hx rfl (hb hby at_179) rfl q) ?_
    show own_Go _ _ _ _ _ _ _ (T27.setTop (mkF m 181 #[.val (.int p0), .val (.int p1), .val (.int p2), .val (.int p3), .val (.int p4), .val (.int p5), .val (.int (5 : Int32)), .val (.ref b21), .val (.int p1), .val (.int (p1 + p2)), .val (.int ((p1 + p2) + p3)), .val (.int (((p1 + p2) + p3) + p4)), .val (.int ((((p1 + p2) + p3) + p4) + p5)), .val (.int (1 : Int32))] [(.int (1 : Int32))]))
    refine own_go (fun _ q => XS.ifNo X27.here hx rfl (hb hby at_181) rfl ((if0 _ _).trans (feq (by decide : ¬ ((1 : Int32) = (0 : Int32)))).1) q) ?_
    show own_Go _ _ _ _ _ _ _ (T27.setTop (mkF m 184 #[.val (.int p0), .val (.int p1), .val (.int p2), .val (.int p3), .val (.int p4), .val (.int p5), .val (.int (5 : Int32)), .val (.ref b21), .val (.int p1), .val (.int (p1 + p2)), .val (.int ((p1 + p2) + p3)), .val (.int (((p1 + p2) + p3) + p4)), .val (.int ((((p1 + p2) + p3) + p4) + p5)), .val (.int (1 : Int32))] []))
    refine own_go (fun _ q => XS.aload X27.here hx rfl (hb hby at_184) rfl rfl q) ?_
    show own_Go _ _ _ _ _ _ _ (T27.setTop (mkF m 186 #[.val (.int p0), .val (.int p1), .val (.int p2), .val (.int p3), .val (.int p4), .val (.int p5), .val (.int (5 : Int32)), .val (.ref b21), .val (.int p1), .val (.int (p1 + p2)), .val (.int ((p1 + p2) + p3)), .val (.int (((p1 + p2) + p3) + p4)), .val (.int ((((p1 + p2) + p3) + p4) + p5)), .val (.int (1 : Int32))] [(.ref b21)]))
    refine own_go (fun _ q => XS.iconst X27.here hx rfl (hb hby at_186) q) ?_
    show own_Go _ _ _ _ _ _ _ (T27.setTop (mkF m 187 #[.val (.int p0), .val (.int p1), .val (.int p2), .val (.int p3), .val (.int p4), .val (.int p5), .val (.int (5 : Int32)), .val (.ref b21), .val (.int p1), .val (.int (p1 + p2)), .val (.int ((p1 + p2) + p3)), .val (.int (((p1 + p2) + p3) + p4)), .val (.int ((((p1 + p2) + p3) + p4) + p5)), .val (.int (1 : Int32))] [(.int (2 : Int32)), (.ref b21)]))
    refine own_iaload X27 hx hZ rfl (i := 2) A27 rfl (by decide) rfl (hb hby at_187) rfl ?_
    show own_Go _ _ _ _ _ _ _ (T27.setTop (mkF m 188 #[.val (.int p0), .val (.int p1), .val (.int p2), .val (.int p3), .val (.int p4), .val (.int p5), .val (.int (5 : Int32)), .val (.ref b21), .val (.int p1), .val (.int (p1 + p2)), .val (.int ((p1 + p2) + p3)), .val (.int (((p1 + p2) + p3) + p4)), .val (.int ((((p1 + p2) + p3) + p4) + p5)), .val (.int (1 : Int32))] [(.int ((p1 + p2) + p3))]))
    refine own_go (fun _ q => XS.iload X27.here hx rfl (hb hby at_188) rfl q) ?_
    show own_Go _ _ _ _ _ _ _ (T27.setTop (mkF m 190 #[.val (.int p0), .val (.int p1), .val (.int p2), .val (.int p3), .val (.int p4), .val (.int p5), .val (.int (5 : Int32)), .val (.ref b21), .val (.int p1), .val (.int (p1 + p2)), .val (.int ((p1 + p2) + p3)), .val (.int (((p1 + p2) + p3) + p4)), .val (.int ((((p1 + p2) + p3) + p4) + p5)), .val (.int (1 : Int32))] [(.int ((p1 + p2) + p3)), (.int ((p1 + p2) + p3))]))
    refine own_go (fun _ q => XS.icmpNo X27.here hx rfl (hb hby at_190) rfl (teq rfl).2 q) ?_
    show own_Go _ _ _ _ _ _ _ (T27.setTop (mkF m 193 #[.val (.int p0), .val (.int p1), .val (.int p2), .val (.int p3), .val (.int p4), .val (.int p5), .val (.int (5 : Int32)), .val (.ref b21), .val (.int p1), .val (.int (p1 + p2)), .val (.int ((p1 + p2) + p3)), .val (.int (((p1 + p2) + p3) + p4)), .val (.int ((((p1 + p2) + p3) + p4) + p5)), .val (.int (1 : Int32))] []))
    refine own_go (fun _ q => XS.iconst X27.here hx rfl (hb hby at_193) q) ?_
    show own_Go _ _ _ _ _ _ _ (T27.setTop (mkF m 194 #[.val (.int p0), .val (.int p1), .val (.int p2), .val (.int p3), .val (.int p4), .val (.int p5), .val (.int (5 : Int32)), .val (.ref b21), .val (.int p1), .val (.int (p1 + p2)), .val (.int ((p1 + p2) + p3)), .val (.int (((p1 + p2) + p3) + p4)), .val (.int ((((p1 + p2) + p3) + p4) + p5)), .val (.int (1 : Int32))] [(.int (1 : Int32))]))
    refine own_go (fun _ q => XS.goto X27.here hx rfl (pc0 := 194) (pc' := 198) rfl (hb hby at_194) (by decide) (by decide) q) ?_
    show own_Go _ _ _ _ _ _ _ (T27.setTop (mkF m 198 #[.val (.int p0), .val (.int p1), .val (.int p2), .val (.int p3), .val (.int p4), .val (.int p5), .val (.int (5 : Int32)), .val (.ref b21), .val (.int p1), .val (.int (p1 + p2)), .val (.int ((p1 + p2) + p3)), .val (.int (((p1 + p2) + p3) + p4)), .val (.int ((((p1 + p2) + p3) + p4) + p5)), .val (.int (1 : Int32))] [(.int (1 : Int32))]))
    refine own_go (fun _ q => XS.istore X27.here hx rfl (hb hby at_198) rfl (l' := #[.val (.int p0), .val (.int p1), .val (.int p2), .val (.int p3), .val (.int p4), .val (.int p5), .val (.int (5 : Int32)), .val (.ref b21), .val (.int p1), .val (.int (p1 + p2)), .val (.int ((p1 + p2) + p3)), .val (.int (((p1 + p2) + p3) + p4)), .val (.int ((((p1 + p2) + p3) + p4) + p5)), .val (.int (1 : Int32))]) rfl q) ?_
    show own_Go _ _ _ _ _ _ _ (T27.setTop (mkF m 200 #[.val (.int p0), .val (.int p1), .val (.int p2), .val (.int p3), .val (.int p4), .val (.int p5), .val (.int (5 : Int32)), .val (.ref b21), .val (.int p1), .val (.int (p1 + p2)), .val (.int ((p1 + p2) + p3)), .val (.int (((p1 + p2) + p3) + p4)), .val (.int ((((p1 + p2) + p3) + p4) + p5)), .val (.int (1 : Int32))] []))
    refine own_go (fun _ q => XS.iload X27.here hx rfl (hb hby at_200) rfl q) ?_
    show own_Go _ _ _ _ _ _ _ (T27.setTop (mkF m 202 #[.val (.int p0), .val (.int p1), .val (.int p2), .val (.int p3), .val (.int p4), .val (.int p5), .val (.int (5 : Int32)), .val (.ref b21), .val (.int p1), .val (.int (p1 + p2)), .val (.int ((p1 + p2) + p3)), .val (.int (((p1 + p2) + p3) + p4)), .val (.int ((((p1 + p2) + p3) + p4) + p5)), .val (.int (1 : Int32))] [(.int (5 : Int32))]))
    refine own_go (fun _ q => XS.iconst X27.here hx rfl (hb hby at_202) q) ?_
    show own_Go _ _ _ _ _ _ _ (T27.setTop (mkF m 203 #[.val (.int p0), .val (.int p1), .val (.int p2), .val (.int p3), .val (.int p4), .val (.int p5), .val (.int (5 : Int32)), .val (.ref b21), .val (.int p1), .val (.int (p1 + p2)), .val (.int ((p1 + p2) + p3)), .val (.int (((p1 + p2) + p3) + p4)), .val (.int ((((p1 + p2) + p3) + p4) + p5)), .val (.int (1 : Int32))] [(.int (3 : Int32)), (.int (5 : Int32))]))
    refine own_go (fun _ q => XS.icmpNo X27.here hx rfl (hb hby at_203) rfl (tlt (by decide : (3 : Int32) < (5 : Int32))).2.2.2 q) ?_
    show own_Go _ _ _ _ _ _ _ (T27.setTop (mkF m 206 #[.val (.int p0), .val (.int p1), .val (.int p2), .val (.int p3), .val (.int p4), .val (.int p5), .val (.int (5 : Int32)), .val (.ref b21), .val (.int p1), .val (.int (p1 + p2)), .val (.int ((p1 + p2) + p3)), .val (.int (((p1 + p2) + p3) + p4)), .val (.int ((((p1 + p2) + p3) + p4) + p5)), .val (.int (1 : Int32))] []))
    refine own_go (fun _ q => XS.iload X27.here hx rfl (hb hby at_206) rfl q) ?_
    show own_Go _ _ _ _ _ _ _ (T27.setTop (mkF m 208 #[.val (.int p0), .val (.int p1), .val (.int p2), .val (.int p3), .val (.int p4), .val (.int p5), .val (.int (5 : Int32)), .val (.ref b21), .val (.int p1), .val (.int (p1 + p2)), .val (.int ((p1 + p2) + p3)), .val (.int (((p1 + p2) + p3) + p4)), .val (.int ((((p1 + p2) + p3) + p4) + p5)), .val (.int (1 : Int32))] [(.int (1 : Int32))]))
    refine own_go (fun _ q => XS.ifNo X27.here hx rfl (hb hby at_208) rfl ((if0 _ _).trans (feq (by decide : ¬ ((1 : Int32) = (0 : Int32)))).1) q) ?_
    show own_Go _ _ _ _ _ _ _ (T27.setTop (mkF m 211 #[.val (.int p0), .val (.int p1), .val (.int p2), .val (.int p3), .val (.int p4), .val (.int p5), .val (.int (5 : Int32)), .val (.ref b21), .val (.int p1), .val (.int (p1 + p2)), .val (.int ((p1 + p2) + p3)), .val (.int (((p1 + p2) + p3) + p4)), .val (.int ((((p1 + p2) + p3) + p4) + p5)), .val (.int (1 : Int32))] []))
    refine own_go (fun _ q => XS.aload X27.here hx rfl (hb hby at_211) rfl rfl q) ?_
    show own_Go _ _ _ _ _ _ _ (T27.setTop (mkF m 213 #[.val (.int p0), .val (.int p1), .val (.int p2), .val (.int p3), .val (.int p4), .val (.int p5), .val (.int (5 : Int32)), .val (.ref b21), .val (.int p1), .val (.int (p1 + p2)), .val (.int ((p1 + p2) + p3)), .val (.int (((p1 + p2) + p3) + p4)), .val (.int ((((p1 + p2) + p3) + p4) + p5)), .val (.int (1 : Int32))] [(.ref b21)]))
    refine own_go (fun _ q => XS.iconst X27.here hx rfl (hb hby at_213) q) ?_
    show own_Go _ _ _ _ _ _ _ (T27.setTop (mkF m 214 #[.val (.int p0), .val (.int p1), .val (.int p2), .val (.int p3), .val (.int p4), .val (.int p5), .val (.int (5 : Int32)), .val (.ref b21), .val (.int p1), .val (.int (p1 + p2)), .val (.int ((p1 + p2) + p3)), .val (.int (((p1 + p2) + p3) + p4)), .val (.int ((((p1 + p2) + p3) + p4) + p5)), .val (.int (1 : Int32))] [(.int (3 : Int32)), (.ref b21)]))
    refine own_iaload X27 hx hZ rfl (i := 3) A27 rfl (by decide) rfl (hb hby at_214) rfl ?_
    show own_Go _ _ _ _ _ _ _ (T27.setTop (mkF m 215 #[.val (.int p0), .val (.int p1), .val (.int p2), .val (.int p3), .val (.int p4), .val (.int p5), .val (.int (5 : Int32)), .val (.ref b21), .val (.int p1), .val (.int (p1 + p2)), .val (.int ((p1 + p2) + p3)), .val (.int (((p1 + p2) + p3) + p4)), .val (.int ((((p1 + p2) + p3) + p4) + p5)), .val (.int (1 : Int32))] [(.int (((p1 + p2) + p3) + p4))]))
    refine own_go (fun _ q => XS.iload X27.here hx rfl (hb hby at_215) rfl q) ?_
    show own_Go _ _ _ _ _ _ _ (T27.setTop (mkF m 217 #[.val (.int p0), .val (.int p1), .val (.int p2), .val (.int p3), .val (.int p4), .val (.int p5), .val (.int (5 : Int32)), .val (.ref b21), .val (.int p1), .val (.int (p1 + p2)), .val (.int ((p1 + p2) + p3)), .val (.int (((p1 + p2) + p3) + p4)), .val (.int ((((p1 + p2) + p3) + p4) + p5)), .val (.int (1 : Int32))] [(.int (((p1 + p2) + p3) + p4)), (.int (((p1 + p2) + p3) + p4))]))
    refine own_go (fun _ q => XS.icmpNo X27.here hx rfl (hb hby at_217) rfl (teq rfl).2 q) ?_
    show own_Go _ _ _ _ _ _ _ (T27.setTop (mkF m 220 #[.val (.int p0), .val (.int p1), .val (.int p2), .val (.int p3), .val (.int p4), .val (.int p5), .val (.int (5 : Int32)), .val (.ref b21), .val (.int p1), .val (.int (p1 + p2)), .val (.int ((p1 + p2) + p3)), .val (.int (((p1 + p2) + p3) + p4)), .val (.int ((((p1 + p2) + p3) + p4) + p5)), .val (.int (1 : Int32))] []))
    refine own_go (fun _ q => XS.iconst X27.here hx rfl (hb hby at_220) q) ?_
    show own_Go _ _ _ _ _ _ _ (T27.setTop (mkF m 221 #[.val (.int p0), .val (.int p1), .val (.int p2), .val (.int p3), .val (.int p4), .val (.int p5), .val (.int (5 : Int32)), .val (.ref b21), .val (.int p1), .val (.int (p1 + p2)), .val (.int ((p1 + p2) + p3)), .val (.int (((p1 + p2) + p3) + p4)), .val (.int ((((p1 + p2) + p3) + p4) + p5)), .val (.int (1 : Int32))] [(.int (1 : Int32))]))
    refine own_go (fun _ q => XS.goto X27.here hx rfl (pc0 := 221) (pc' := 225) rfl (hb hby at_221) (by decide) (by decide) q) ?_
    show own_Go _ _ _ _ _ _ _ (T27.setTop (mkF m 225 #[.val (.int p0), .val (.int p1), .val (.int p2), .val (.int p3), .val (.int p4), .val (.int p5), .val (.int (5 : Int32)), .val (.ref b21), .val (.int p1), .val (.int (p1 + p2)), .val (.int ((p1 + p2) + p3)), .val (.int (((p1 + p2) + p3) + p4)), .val (.int ((((p1 + p2) + p3) + p4) + p5)), .val (.int (1 : Int32))] [(.int (1 : Int32))]))
    refine own_go (fun _ q => XS.istore X27.here hx rfl (hb hby at_225) rfl (l' := #[.val (.int p0), .val (.int p1), .val (.int p2), .val (.int p3), .val (.int p4), .val (.int p5), .val (.int (5 : Int32)), .val (.ref b21), .val (.int p1), .val (.int (p1 + p2)), .val (.int ((p1 + p2) + p3)), .val (.int (((p1 + p2) + p3) + p4)), .val (.int ((((p1 + p2) + p3) + p4) + p5)), .val (.int (1 : Int32))]) rfl q) ?_
    show own_Go _ _ _ _ _ _ _ (T27.setTop (mkF m 227 #[.val (.int p0), .val (.int p1), .val (.int p2), .val (.int p3), .val (.int p4), .val (.int p5), .val (.int (5 : Int32)), .val (.ref b21), .val (.int p1), .val (.int (p1 + p2)), .val (.int ((p1 + p2) + p3)), .val (.int (((p1 + p2) + p3) + p4)), .val (.int ((((p1 + p2) + p3) + p4) + p5)), .val (.int (1 : Int32))] []))
    refine own_go (fun _ q => XS.iload X27.here hx rfl (hb hby at_227) rfl q) ?_
    show own_Go _ _ _ _ _ _ _ (T27.setTop (mkF m 229 #[.val (.int p0), .val (.int p1), .val (.int p2), .val (.int p3), .val (.int p4), .val (.int p5), .val (.int (5 : Int32)), .val (.ref b21), .val (.int p1), .val (.int (p1 + p2)), .val (.int ((p1 + p2) + p3)), .val (.int (((p1 + p2) + p3) + p4)), .val (.int ((((p1 + p2) + p3) + p4) + p5)), .val (.int (1 : Int32))] [(.int (5 : Int32))]))
    refine own_go (fun _ q => XS.iconst X27.here hx rfl (hb hby at_229) q) ?_
    show own_Go _ _ _ _ _ _ _ (T27.setTop (mkF m 230 #[.val (.int p0), .val (.int p1), .val (.int p2), .val (.int p3), .val (.int p4), .val (.int p5), .val (.int (5 : Int32)), .val (.ref b21), .val (.int p1), .val (.int (p1 + p2)), .val (.int ((p1 + p2) + p3)), .val (.int (((p1 + p2) + p3) + p4)), .val (.int ((((p1 + p2) + p3) + p4) + p5)), .val (.int (1 : Int32))] [(.int (4 : Int32)), (.int (5 : Int32))]))
    refine own_go (fun _ q => XS.icmpNo X27.here hx rfl (hb hby at_230) rfl (tlt (by decide : (4 : Int32) < (5 : Int32))).2.2.2 q) ?_
    show own_Go _ _ _ _ _ _ _ (T27.setTop (mkF m 233 #[.val (.int p0), .val (.int p1), .val (.int p2), .val (.int p3), .val (.int p4), .val (.int p5), .val (.int (5 : Int32)), .val (.ref b21), .val (.int p1), .val (.int (p1 + p2)), .val (.int ((p1 + p2) + p3)), .val (.int (((p1 + p2) + p3) + p4)), .val (.int ((((p1 + p2) + p3) + p4) + p5)), .val (.int (1 : Int32))] []))
    refine own_go (fun _ q => XS.iload X27.here hx rfl (hb hby at_233) rfl q) ?_
    show own_Go _ _ _ _ _ _ _ (T27.setTop (mkF m 235 #[.val (.int p0), .val (.int p1), .val (.int p2), .val (.int p3), .val (.int p4), .val (.int p5), .val (.int (5 : Int32)), .val (.ref b21), .val (.int p1), .val (.int (p1 + p2)), .val (.int ((p1 + p2) + p3)), .val (.int (((p1 + p2) + p3) + p4)), .val (.int ((((p1 + p2) + p3) + p4) + p5)), .val (.int (1 : Int32))] [(.int (1 : Int32))]))
    refine own_go (fun _ q => XS.ifNo X27.here hx rfl (hb hby at_235) rfl ((if0 _ _).trans (feq (by decide : ¬ ((1 : Int32) = (0 : Int32)))).1) q) ?_
    show own_Go _ _ _ _ _ _ _ (T27.setTop (mkF m 238 #[.val (.int p0), .val (.int p1), .val (.int p2), .val (.int p3), .val (.int p4), .val (.int p5), .val (.int (5 : Int32)), .val (.ref b21), .val (.int p1), .val (.int (p1 + p2)), .val (.int ((p1 + p2) + p3)), .val (.int (((p1 + p2) + p3) + p4)), .val (.int ((((p1 + p2) + p3) + p4) + p5)), .val (.int (1 : Int32))] []))
    refine own_go (fun _ q => XS.aload X27.here hx rfl (hb hby at_238) rfl rfl q) ?_
    show own_Go _ _ _ _ _ _ _ (T27.setTop (mkF m 240 #[.val (.int p0), .val (.int p1), .val (.int p2), .val (.int p3), .val (.int p4), .val (.int p5), .val (.int (5 : Int32)), .val (.ref b21), .val (.int p1), .val (.int (p1 + p2)), .val (.int ((p1 + p2) + p3)), .val (.int (((p1 + p2) + p3) + p4)), .val (.int ((((p1 + p2) + p3) + p4) + p5)), .val (.int (1 : Int32))] [(.ref b21)]))
    refine own_go (fun _ q => XS.iconst X27.here hx rfl (hb hby at_240) q) ?_
    show own_Go _ _ _ _ _ _ _ (T27.setTop (mkF m 241 #[.val (.int p0), .val (.int p1), .val (.int p2), .val (.int p3), .val (.int p4), .val (.int p5), .val (.int (5 : Int32)), .val (.ref b21), .val (.int p1), .val (.int (p1 + p2)), .val (.int ((p1 + p2) + p3)), .val (.int (((p1 + p2) + p3) + p4)), .val (.int ((((p1 + p2) + p3) + p4) + p5)), .val (.int (1 : Int32))] [(.int (4 : Int32)), (.ref b21)]))
    refine own_iaload X27 hx hZ rfl (i := 4) A27 rfl (by decide) rfl (hb hby at_241) rfl ?_
    show own_Go _ _ _ _ _ _ _ (T27.setTop (mkF m 242 #[.val (.int p0), .val (.int p1), .val (.int p2), .val (.int p3), .val (.int p4), .val (.int p5), .val (.int (5 : Int32)), .val (.ref b21), .val (.int p1), .val (.int (p1 + p2)), .val (.int ((p1 + p2) + p3)), .val (.int (((p1 + p2) + p3) + p4)), .val (.int ((((p1 + p2) + p3) + p4) + p5)), .val (.int (1 : Int32))] [(.int ((((p1 + p2) + p3) + p4) + p5))]))
    refine own_go (fun _ q => XS.iload X27.here hx rfl (hb hby at_242) rfl q) ?_
    show own_Go _ _ _ _ _ _ _ (T27.setTop (mkF m 244 #[.val (.int p0), .val (.int p1), .val (.int p2), .val (.int p3), .val (.int p4), .val (.int p5), .val (.int (5 : Int32)), .val (.ref b21), .val (.int p1), .val (.int (p1 + p2)), .val (.int ((p1 + p2) + p3)), .val (.int (((p1 + p2) + p3) + p4)), .val (.int ((((p1 + p2) + p3) + p4) + p5)), .val (.int (1 : Int32))] [(.int ((((p1 + p2) + p3) + p4) + p5)), (.int ((((p1 + p2) + p3) + p4) + p5))]))
    refine own_go (fun _ q => XS.icmpNo X27.here hx rfl (hb hby at_244) rfl (teq rfl).2 q) ?_
    show own_Go _ _ _ _ _ _ _ (T27.setTop (mkF m 247 #[.val (.int p0), .val (.int p1), .val (.int p2), .val (.int p3), .val (.int p4), .val (.int p5), .val (.int (5 : Int32)), .val (.ref b21), .val (.int p1), .val (.int (p1 + p2)), .val (.int ((p1 + p2) + p3)), .val (.int (((p1 + p2) + p3) + p4)), .val (.int ((((p1 + p2) + p3) + p4) + p5)), .val (.int (1 : Int32))] []))
    refine own_go (fun _ q => XS.iconst X27.here hx rfl (hb hby at_247) q) ?_
    show own_Go _ _ _ _ _ _ _ (T27.setTop (mkF m 248 #[.val (.int p0), .val (.int p1), .val (.int p2), .val (.int p3), .val (.int p4), .val (.int p5), .val (.int (5 : Int32)), .val (.ref b21), .val (.int p1), .val (.int (p1 + p2)), .val (.int ((p1 + p2) + p3)), .val (.int (((p1 + p2) + p3) + p4)), .val (.int ((((p1 + p2) + p3) + p4) + p5)), .val (.int (1 : Int32))] [(.int (1 : Int32))]))
    refine own_go (fun _ q => XS.goto X27.here hx rfl (pc0 := 248) (pc' := 252) rfl (hb hby at_248) (by decide) (by decide) q) ?_
    show own_Go _ _ _ _ _ _ _ (T27.setTop (mkF m 252 #[.val (.int p0), .val (.int p1), .val (.int p2), .val (.int p3), .val (.int p4), .val (.int p5), .val (.int (5 : Int32)), .val (.ref b21), .val (.int p1), .val (.int (p1 + p2)), .val (.int ((p1 + p2) + p3)), .val (.int (((p1 + p2) + p3) + p4)), .val (.int ((((p1 + p2) + p3) + p4) + p5)), .val (.int (1 : Int32))] [(.int (1 : Int32))]))
    refine own_go (fun _ q => XS.istore X27.here hx rfl (hb hby at_252) rfl (l' := #[.val (.int p0), .val (.int p1), .val (.int p2), .val (.int p3), .val (.int p4), .val (.int p5), .val (.int (5 : Int32)), .val (.ref b21), .val (.int p1), .val (.int (p1 + p2)), .val (.int ((p1 + p2) + p3)), .val (.int (((p1 + p2) + p3) + p4)), .val (.int ((((p1 + p2) + p3) + p4) + p5)), .val (.int (1 : Int32))]) rfl q) ?_
    show own_Go _ _ _ _ _ _ _ (T27.setTop (mkF m 254 #[.val (.int p0), .val (.int p1), .val (.int p2), .val (.int p3), .val (.int p4), .val (.int p5), .val (.int (5 : Int32)), .val (.ref b21), .val (.int p1), .val (.int (p1 + p2)), .val (.int ((p1 + p2) + p3)), .val (.int (((p1 + p2) + p3) + p4)), .val (.int ((((p1 + p2) + p3) + p4) + p5)), .val (.int (1 : Int32))] []))
    refine own_go (fun _ q => XS.iload X27.here hx rfl (hb hby at_254) rfl q) ?_
    show own_Go _ _ _ _ _ _ _ (T27.setTop (mkF m 256 #[.val (.int p0), .val (.int p1), .val (.int p2), .val (.int p3), .val (.int p4), .val (.int p5), .val (.int (5 : Int32)), .val (.ref b21), .val (.int p1), .val (.int (p1 + p2)), .val (.int ((p1 + p2) + p3)), .val (.int (((p1 + p2) + p3) + p4)), .val (.int ((((p1 + p2) + p3) + p4) + p5)), .val (.int (1 : Int32))] [(.int (1 : Int32))]))
    exact own_retZ X27 hx hlk hret (hb hby at_256) (by decide) (by decide) (by decide) ⟨rfl, N27⟩
set_option maxRecDepth 65536 in
set_option maxHeartbeats 40000000 in
theorem comes_1 {Post : Tables → Env → Array Value → State → Outcome → State → Prop} (hpost : ∀ tb e args s v u, (limb_1_1.after args s (.returned v) u = true ∧ limb_1_2.after args s (.returned v) u = true ∧ True) → FrameEnd s (.returned v) u (Jvm.fieldLocs frame_1_writes args s ++ Jvm.arrayLocs frame_1_arrays args s ++ Jvm.staticLocs frame_1_statics s) 16 128 → Post tb e args s (.returned v) u) :
    ArmFor flags0 classFile x code maxLocals ret World_1 tables_1 room_1 Calls_1 rest_1 Pre_1 Post := by
  intro l hfl _ _ p e ha hc hk s m args below hf hA hF happ hP
  obtain ⟨hcalls, hrest, hpre⟩ := hP
  obtain ⟨-, -, -, hnamed, -, -, -, hat⟩ := (Spec.applies_iff hf).mp happ
  obtain ⟨hg, hn⟩ := and_e (Cond.before_iff.mp (show (Jvm.Cond.and given_1 narrow_1).before args s = true from hpre))
  obtain ⟨ga1, gb1⟩ := and_e hg
  obtain ⟨ga2, gb2⟩ := and_e gb1
  obtain ⟨ga3, gb3⟩ := and_e gb2
  obtain ⟨ga4, gb4⟩ := and_e gb3
  obtain ⟨ga5, gb5⟩ := and_e gb4
  obtain ⟨ga6, gb6⟩ := and_e gb5
  obtain ⟨w0, w1, w2, w3, w4, w5, rfl⟩ : ∃ w0 w1 w2 w3 w4 w5 : Value, args = #[w0, w1, w2, w3, w4, w5] := by
    have hs : args.size = 6 := by simpa [Cond.value, given_1] using ga1
    obtain ⟨L⟩ := args
    match L, hs with
    | [w0, w1, w2, w3, w4, w5], _ => exact ⟨w0, w1, w2, w3, w4, w5, rfl⟩
  have hw := fun d (hd : d ∈ tables_1) => atoms_spec (ws := Jvm.Cond.code x code maxLocals ret :: tables_1) hat d (List.mem_cons_of_mem _ hd)
  obtain ⟨i0, ei0⟩ := is_v ga2
  obtain rfl : w0 = (.int i0) := Option.some.inj ei0
  obtain ⟨i1, ei1⟩ := is_v ga3
  obtain rfl : w1 = (.int i1) := Option.some.inj ei1
  obtain ⟨i2, ei2⟩ := is_v ga4
  obtain rfl : w2 = (.int i2) := Option.some.inj ei2
  obtain ⟨i3, ei3⟩ := is_v ga5
  obtain rfl : w3 = (.int i3) := Option.some.inj ei3
  obtain ⟨i4, ei4⟩ := is_v ga6
  obtain rfl : w4 = (.int i4) := Option.some.inj ei4
  obtain ⟨i5, ei5⟩ := is_v gb6
  obtain rfl : w5 = (.int i5) := Option.some.inj ei5
  obtain ⟨n, o, h1, h2, h3, _, L, rfl, ⟨rfl, N⟩, hq⟩ := rm0 l s _ hw tables_1 i0 i1 i2 i3 i4 i5 s.heap s.heap.size (Nat.le_refl _)  p e ha hc hk s m _ below hf ((Spec.applies_iff_loose hf).mp happ).1 ⟨rfl, State.Warmed39.refl s, rfl⟩ trivial
  refine ⟨n, _, h1, h2, h3, hpost _ _ _ _ _ _ ⟨Cond.after_iff.mpr rfl, Cond.after_iff.mpr (eq_i res_at (Term.int_eval (1)) rfl), trivial⟩ ⟨hq.1, hq.2.1, (hq.2.2.sift fun y hy => Or.inr (N y hy)).mono (by decide) (by decide)⟩⟩
theorem main_1_1 : Claimed_1_1 := comes_1 fun _ _ _ _ _ _ h hF => ⟨h.1, hF⟩
theorem main_1_2 : Claimed_1_2 := comes_1 fun _ _ _ _ _ _ h hF => ⟨h.2.1, hF⟩
end Jvm.Pilot.@@N@@
namespace Jvm.Pilot.@@N@@
open Jvm Jvm.ClassFile Sem Op Lib Jvm.Free Jvm.Stand Jvm.Pilot.@@N@@.Jvm.D
/-! MADE BY PROGRAM (witnessworld.py) out of the Statement's table words and the real class files: 9 classes; the members and pool entries that the words name. The judged class is class 1, her method 1. -/
namespace start1
open Jvm.ClassFile
def u (s : String) : CpInfo := .utf8 (stringToUtf16 s)
/-- a pool by its gaps: so many unusable entries, then the entry; so many at the end -/
def gap : Nat → List CpInfo → List CpInfo
  | 0, r => r
  | n + 1, r => .unusable :: gap n r
def poolList (es : List (Nat × CpInfo)) (last : Nat) : List CpInfo := es.foldr (fun e r => gap e.1 (e.2 :: r)) (gap last [])
def pool (es : List (Nat × CpInfo)) (last : Nat) : Array CpInfo := ⟨poolList es last⟩
def fileOf (pool : Array CpInfo) (this : Nat) (attrs : Array Attribute := #[]) (ms : Array MethodInfo := #[]) (fl : Nat := 33) (sup : Nat := 0) (ifs : Array Nat := #[]) (fds : Array FieldInfo := #[]) : ClassFile where
  minorVersion := 0
  majorVersion := 65
  constantPool := pool
  accessFlags := fl
  thisClass := this
  superClass := sup
  interfaces := ifs
  fields := fds
  methods := ms
  attributes := attrs
def plain (name : String) (sup : Option ClassId) : Class where
  name := name
  kind := .ordinary
  loader := none
  accessFlags := 33
  super := sup
  interfaces := #[]
  cf := none
  fields := #[]
  methods := #[]
  instanceTypes := #[]
  staticTypes := #[]
  resolved := #[]
  callSites := []
  init := .initialized
  statics := none
  mirror := none

def pool0 : Array CpInfo := pool [(5, u "<init>"), (0, u "()V"), (1, .class_ 10), (1, u "java/lang/Object")] 113

def k0m0 : Method := { name := "<init>", desc := "()V", sig := { parameters := [], returnType := none }, accessFlags := 1, code := none }
/-- java/lang/Object -/
def k0 : Class := { plain "java/lang/Object" none with
  accessFlags := 33
  interfaces := #[]
  cf := some (fileOf pool0 8 #[] #[{ accessFlags := 1, nameIndex := 5, descriptorIndex := 6, attributes := #[] }] 33 0 #[] #[])
  fields := #[]
  methods := #[k0m0]
  instanceTypes := #[]
  staticTypes := #[]
  resolved := Array.replicate 124 none
  statics := none }

def pool1 : Array CpInfo := pool [(2, .class_ 4), (1, u "java/lang/Object"), (0, u "<init>"), (0, u "()V"), (0, .integer 2147483647), (0, .methodref 9 10), (0, .class_ 11), (0, .nameAndType 12 13), (0, u "com/example/interleave/interleave/core/Adjacency"), (0, u "accumulate"), (0, u "([I)V"), (0, .class_ 15), (0, u "com/example/interleave/interleave/core/AdjacencyAccumulatePinLaw"), (2, u "law"), (0, u "(IIIIII)Z")] 5

def k1m0 : Method := { name := "<init>", desc := "()V", sig := { parameters := [], returnType := none }, accessFlags := 1, code := none }
def k1c1 : Code := { maxStack := 3, maxLocals := 14, code := code, exceptionTable := #[], attributes := #[] }
def k1m1 : Method := { name := "law", desc := "(IIIIII)Z", sig := { parameters := [.int, .int, .int, .int, .int, .int], returnType := some .boolean }, accessFlags := 9, code := some k1c1 }
/-- com/example/interleave/interleave/core/AdjacencyAccumulatePinLaw -/
def k1 : Class := { plain "com/example/interleave/interleave/core/AdjacencyAccumulatePinLaw" (some 0) with
  accessFlags := 49
  interfaces := #[]
  cf := some (fileOf pool1 14 #[] #[{ accessFlags := 1, nameIndex := 5, descriptorIndex := 6, attributes := #[] }, { accessFlags := 9, nameIndex := 18, descriptorIndex := 19, attributes := #[] }] 49 2 #[] #[])
  fields := #[]
  methods := #[k1m0, k1m1]
  instanceTypes := #[]
  staticTypes := #[]
  resolved := Array.replicate 25 none
  statics := none }

def pool2 : Array CpInfo := pool [(2, .class_ 4), (1, u "java/lang/Object"), (3, .class_ 10), (1, u "com/example/interleave/interleave/core/Adjacency"), (0, u "start"), (0, u "[I"), (2, u "target"), (17, u "accumulate"), (0, u "([I)V")] 69

def k2c0 : Code := { maxStack := 6, maxLocals := 2, code := prog_6_method_6_code, exceptionTable := #[], attributes := #[] }
def k2m0 : Method := { name := "accumulate", desc := "([I)V", sig := { parameters := [(.array .int)], returnType := none }, accessFlags := 8, code := some k2c0 }
/-- com/example/interleave/interleave/core/Adjacency -/
def k2 : Class := { plain "com/example/interleave/interleave/core/Adjacency" (some 0) with
  accessFlags := 48
  interfaces := #[]
  cf := some (fileOf pool2 8 #[] #[{ accessFlags := 8, nameIndex := 33, descriptorIndex := 34, attributes := #[] }] 48 2 #[] #[{ accessFlags := 18, nameIndex := 11, descriptorIndex := 12, attributes := #[] }, { accessFlags := 18, nameIndex := 15, descriptorIndex := 12, attributes := #[] }])
  fields := #[{ name := "start", type := (.array .int), accessFlags := 18, slot := 0, constantValue := 0 }, { name := "target", type := (.array .int), accessFlags := 18, slot := 1, constantValue := 0 }]
  methods := #[k2m0]
  instanceTypes := #[(.array .int), (.array .int)]
  staticTypes := #[]
  resolved := Array.replicate 104 none
  statics := none }

def pool3 : Array CpInfo := pool [(1, u "java/lang/Cloneable"), (0, .class_ 1), (0, u "java/lang/Object"), (0, .class_ 3)] 3

/-- java/lang/Cloneable -/
def k3 : Class := { plain "java/lang/Cloneable" (some 0) with
  accessFlags := 1537
  interfaces := #[]
  cf := some (fileOf pool3 2 #[] #[] 1537 4 #[] #[])
  fields := #[]
  methods := #[]
  instanceTypes := #[]
  staticTypes := #[]
  resolved := Array.replicate 8 none
  statics := none }

def pool4 : Array CpInfo := pool [(1, u "java/io/Serializable"), (0, .class_ 1), (0, u "java/lang/Object"), (0, .class_ 3)] 3

/-- java/io/Serializable -/
def k4 : Class := { plain "java/io/Serializable" (some 0) with
  accessFlags := 1537
  interfaces := #[]
  cf := some (fileOf pool4 2 #[] #[] 1537 4 #[] #[])
  fields := #[]
  methods := #[]
  instanceTypes := #[]
  staticTypes := #[]
  resolved := Array.replicate 8 none
  statics := none }

/-- the primitive byte -/
def k5 : Class := { plain "byte" none with kind := .primitive 'B', accessFlags := 0x411 }
/-- [B -/
def k6 : Class := { plain "[B" (some 0) with kind := .array 5 .byte, interfaces := #[3, 4], accessFlags := 1041 }

/-- the primitive int -/
def k7 : Class := { plain "int" none with kind := .primitive 'I', accessFlags := 0x411 }
/-- [I -/
def k8 : Class := { plain "[I" (some 0) with kind := .array 7 .int, interfaces := #[3, 4], accessFlags := 1041 }

def heap : Heap := #[]
def classes : Array Class := #[k0, k1, k2, k3, k4, k5, k6, k7, k8]
def interned : List (Array UInt16 × Addr) := []
def slotsUsed : Nat := 0
def theMethod : MethodId := ⟨1, 1⟩
def args0 : Array Value := #[.int 3, .int 4, .int 5, .int 6, .int 7, .int 8]
def aboutOver (below : List Frame) : State where
  vm := { classes := classes, interned := interned.toArray }
  heap := heap
  slotsUsed := slotsUsed
  threads := #[{ frames := .invoking theMethod args0 :: below }]
def below0 : List Frame := [.native { method := ⟨0, 0⟩, args := #[] }]
def about1 : State := aboutOver below0
def p0 : Program := .bare "" "" ""
def e0 : Env := launch0.env 0 0 0
theorem w_frames : about1.frames = Frame.invoking theMethod args0 :: below0 := rfl
set_option maxRecDepth 65536 in
theorem w_args : argsFit about1.vm theMethod args0 = true := by decide +kernel
set_option maxRecDepth 65536 in
theorem w_heap : heapFits about1 = true := by decide +kernel
set_option maxRecDepth 65536 in
theorem w_runnable : about1.curStatus? = some .runnable := by decide +kernel
set_option maxRecDepth 65536 in
theorem w_alone : about1.alone = true := by decide +kernel
set_option maxRecDepth 65536 in
theorem w_named : about1.methodNamed? x = some theMethod := by decide +kernel
set_option maxRecDepth 65536 in
theorem w_hears : about1.hears theMethod below0 = true := by decide +kernel
set_option maxRecDepth 65536 in
theorem w_ripe : about1.ripe theMethod args0 below0 = true := by decide +kernel
theorem w_running : about1.status = .running := rfl
set_option maxRecDepth 65536 in
theorem w_room : about1.hasRoom e0.platform room_1 = true :=
  launch0.hasRoom_least _ room_1 (by decide +kernel) (by decide +kernel) (by decide +kernel) (by decide +kernel) (by decide +kernel) (by decide +kernel)
theorem allAtoms_all (ts : List Jvm.Cond) (a : Array Jvm.Value) (st : Jvm.State) : (allAtoms ts).before a st = ts.all (fun c => c.before a st) := by
  induction ts with
  | nil => rfl
  | cons c t ih =>
    show (Jvm.Cond.and c (allAtoms t)).before a st = _
    rw [Jvm.Cond.before_and, ih, List.all_cons]
def words1 : List Jvm.Cond := Jvm.Cond.code x code maxLocals ret :: tables_1
/-- a 'code' word, met by the world's own term for the bytes: nothing is compared byte by byte -/
theorem code_word {y : MethodName} {bytes : ByteArray} {mx : Nat} {rt : Option FieldType} {a : Array Value} {s : State} {m : MethodId} {meth : Method} {c : Code} (h1 : s.methodNamed? y = some m) (h2 : s.vm.method? m = some meth) (h3 : meth.code = some c) (h4 : c.code = bytes)
    (h5 : (c.maxLocals == mx && c.exceptionTable.isEmpty && decide (c.maxStack ≤ mostOperands) && decide (meth.sig.returnType = rt) && !meth.locks && decide (parseMethodDescriptor y.desc = some meth.sig)) = true) : (Jvm.Cond.code y bytes mx rt).before a s = true := by
  simp only [Bool.and_eq_true, beq_iff_eq, Bool.not_eq_true', decide_eq_true_eq] at h5
  obtain ⟨⟨⟨⟨⟨g1, g2⟩, g3⟩, g4⟩, g5⟩, g6⟩ := h5
  simp [Cond.before, Cond.holds, Cond.value, h1, h2, h3, h4, g1, g2, g3, g4, g5, g6]
def isCode : Jvm.Cond → Bool
  | .code _ _ _ _ => true
  | _ => false
theorem all_split {L : List Jvm.Cond} {P : Jvm.Cond → Bool} (h1 : L.all (fun c => isCode c || P c) = true) (h2 : ∀ c ∈ L.filter isCode, P c = true) : L.all P = true := by
  refine List.all_eq_true.mpr fun c hc => ?_
  have h := List.all_eq_true.mp h1 c hc
  rcases Bool.eq_false_or_eq_true (isCode c) with hi | hi
  · exact h2 c (List.mem_filter.mpr ⟨hc, hi⟩)
  · simpa [hi] using h
set_option maxRecDepth 65536 in
theorem w_c0 : (Jvm.Cond.code x code maxLocals ret).before args0 about1 = true := code_word (m := ⟨1, 1⟩) (meth := k1m1) (c := k1c1) (by decide +kernel) rfl rfl rfl (by decide +kernel)
set_option maxRecDepth 65536 in
theorem w_c1 : (Jvm.Cond.code ({ cls := "com/example/interleave/interleave/core/Adjacency", name := "accumulate", desc := "([I)V" } : Jvm.MethodName) prog_6_method_6_code (2 : Nat) (Option.none : Option Jvm.ClassFile.FieldType)).before args0 about1 = true := code_word (m := ⟨2, 0⟩) (meth := k2m0) (c := k2c0) (by decide +kernel) rfl rfl rfl (by decide +kernel)
def codes1 : List Jvm.Cond := [Jvm.Cond.code x code maxLocals ret, Jvm.Cond.code ({ cls := "com/example/interleave/interleave/core/Adjacency", name := "accumulate", desc := "([I)V" } : Jvm.MethodName) prog_6_method_6_code (2 : Nat) (Option.none : Option Jvm.ClassFile.FieldType)]
set_option maxRecDepth 65536 in
theorem codes_eq : words1.filter isCode = codes1 := rfl
theorem w_codes : ∀ c ∈ words1.filter isCode, c.before args0 about1 = true := by
  rw [codes_eq]
  intro c hc
  simp only [codes1, List.mem_cons, List.not_mem_nil, or_false] at hc
  rcases hc with rfl | rfl
  · exact w_c0
  · exact w_c1
set_option maxRecDepth 65536 in
theorem w_t1 : words1.all (fun c => isCode c || c.before args0 about1) = true := by decide +kernel
theorem w_tables : (allAtoms (Jvm.Cond.code x code maxLocals ret :: tables_1)).before args0 about1 = true := by
  rw [allAtoms_all]
  show words1.all (fun c => c.before args0 about1) = true
  refine all_split ?_ w_codes
  rw [w_t1]
set_option maxRecDepth 65536 in
theorem w_case : (Jvm.Cond.and given_1 narrow_1).before args0 about1 = true := by decide +kernel
theorem w_applies : (headSpec (Jvm.Cond.code x code maxLocals ret :: tables_1) room_1).applies x e0.platform about1 = true :=
  (Spec.applies_iff w_frames).mpr ⟨w_running, w_runnable, w_alone, w_named, w_hears, w_ripe, w_room, w_tables⟩
theorem atStart : AtStart classFile x code maxLocals ret World_1 tables_1 room_1 Calls_1 rest_1 Pre_1 launch0 p0 e0 about1 theMethod args0 below0 :=
  ⟨lists_1, trivial, launch0.admits_env _ _ _, launch0.least_env, fairChoices_fair.cas, fairChoices_fair.clock, w_frames, w_args, w_heap, w_applies, trivial, trivial, w_case⟩
end start1
theorem witness_1 : WitnessClaimed_1 := ⟨start1.p0, start1.e0, start1.about1, start1.theMethod, start1.args0, start1.below0, start1.atStart⟩
end Jvm.Pilot.@@N@@
