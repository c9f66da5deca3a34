import JvmDerived
import JvmDerived.Pilot.@@N@@Statement
import JvmDerived.Pilot.@@N@@Code
set_option linter.unusedVariables false
set_option linter.unusedSimpArgs false
namespace Jvm.Pilot.@@N@@
open Jvm Jvm.ClassFile Sem Op Lib Jvm.Free Jvm.Stand Jvm.LawKit Jvm.RoadKit Bundle Jvm.Pilot.@@N@@.Jvm.D
section OwnKit
variable {p : Program} {l : Launch} {e : Env} {R : Room} {s : State} {m : MethodId} {args : Array Value} {below : List Frame} {meth : Method} {c : Code} {T : State} {locs : List Loc} {cells slots : Nat} {Z : State} {a0 : Array Value} {h h' : Heap}
/-- the run from t comes to the method's end, where Q holds -/
def own_Go (p : Program) (e : Env) (below : List Frame) (s : State) (Q : Option Value → Heap → List Loc → Prop) (k n : Nat) (t : State) : Prop :=
  ∃ s₂ o, Steps p.tables e below t s₂ ∧ s₂.status = .running ∧ Ended s₂ below o ∧ ∃ v L, o = .returned v ∧ Q v s₂.heap L ∧ FrameEnd s o s₂ L k n
theorem own_go {Q : Option Value → Heap → List Loc → Prop} {k n : Nat} {t t' : State} (st : ∀ u, Steps p.tables e below t' u → Steps p.tables e below t u) (G : own_Go p e below s Q k n t') : own_Go p e below s Q k n t := by
  obtain ⟨s2, o, h1, r⟩ := G
  exact ⟨s2, o, st _ h1, r⟩
theorem own_ret {Q : Option Value → Heap → List Loc → Prop} {k n : Nat} (X : Stand p l e R s m args below meth c T locs cells slots) (hx : p.tables.exec = Jvm.exec) (hlk : meth.locks = false) {pc : Nat} {Ls : Array Slot} {w : Value} {t : FieldType} {i : Instr} {rest : List Value} (hret : meth.sig.returnType = some t) (hn : narrow t w = w)
    (hi : (i = .ireturn ∧ (t = .int ∨ t = .boolean ∨ t = .byte ∨ t = .char ∨ t = .short) ∧ ∃ z, w = .int z) ∨ (i = .lreturn ∧ t = .long ∧ ∃ z, w = .long z) ∨ (i = .dreturn ∧ t = .double ∧ ∃ z, w = .double z) ∨ (i = .freturn ∧ t = .float ∧ ∃ z, w = .float z) ∨ (i = .areturn ∧ t.isReference = true ∧ w.isRef = true))
    (hd : decode c.code pc = .ok (i, 1)) (hk : cells ≤ k) (hs : slots ≤ n) (hq : Q (some w) T.heap locs) : own_Go p e below s Q k n (T.setTop (mkF m pc Ls (w :: rest))) := by
  obtain ⟨fs, hr, hrun, hended, hW, hsame⟩ := X.leave (v := some w) (fun q => by rw [hret] at q; cases q) hlk
  exact ⟨_, _, retOut X hx hret hn hi hd hr, hrun, hended, _, _, rfl, hq, ⟨_, rfl⟩, hW, hsame.mono hk hs⟩
theorem own_retI {Q : Option Value → Heap → List Loc → Prop} {k n : Nat} (X : Stand p l e R s m args below meth c T locs cells slots) (hx : p.tables.exec = Jvm.exec) (hlk : meth.locks = false) {pc : Nat} {Ls : Array Slot} {z : Int32} {rest : List Value} (hret : meth.sig.returnType = some .int)
    (hd : decode c.code pc = .ok (.ireturn, 1)) (hk : cells ≤ k) (hs : slots ≤ n) (hq : Q (some (.int z)) T.heap locs) : own_Go p e below s Q k n (T.setTop (mkF m pc Ls (.int z :: rest))) :=
  own_ret X hx hlk hret rfl (Or.inl ⟨rfl, Or.inl rfl, z, rfl⟩) hd hk hs hq
theorem own_retZ {Q : Option Value → Heap → List Loc → Prop} {k n : Nat} (X : Stand p l e R s m args below meth c T locs cells slots) (hx : p.tables.exec = Jvm.exec) (hlk : meth.locks = false) {pc : Nat} {Ls : Array Slot} {z : Int32} {rest : List Value} (hret : meth.sig.returnType = some .boolean)
    (hd : decode c.code pc = .ok (.ireturn, 1)) (hz : z = 0 ∨ z = 1) (hk : cells ≤ k) (hs : slots ≤ n) (hq : Q (some (.int z)) T.heap locs) : own_Go p e below s Q k n (T.setTop (mkF m pc Ls (.int z :: rest))) :=
  own_ret X hx hlk hret (by rcases hz with rfl | rfl <;> rfl) (Or.inl ⟨rfl, Or.inr (Or.inl rfl), z, rfl⟩) hd hk hs hq
theorem own_retJ {Q : Option Value → Heap → List Loc → Prop} {k n : Nat} (X : Stand p l e R s m args below meth c T locs cells slots) (hx : p.tables.exec = Jvm.exec) (hlk : meth.locks = false) {pc : Nat} {Ls : Array Slot} {z : Int64} {rest : List Value} (hret : meth.sig.returnType = some .long)
    (hd : decode c.code pc = .ok (.lreturn, 1)) (hk : cells ≤ k) (hs : slots ≤ n) (hq : Q (some (.long z)) T.heap locs) : own_Go p e below s Q k n (T.setTop (mkF m pc Ls (.long z :: rest))) :=
  own_ret X hx hlk hret rfl (Or.inr (Or.inl ⟨rfl, rfl, z, rfl⟩)) hd hk hs hq
theorem own_retR {Q : Option Value → Heap → List Loc → Prop} {k n : Nat} (X : Stand p l e R s m args below meth c T locs cells slots) (hx : p.tables.exec = Jvm.exec) (hlk : meth.locks = false) {pc : Nat} {Ls : Array Slot} {w : Value} {t : FieldType} {rest : List Value} (hret : meth.sig.returnType = some t) (ht : t.isReference = true) (hw : w.isRef = true) (hnr : narrow t w = w)
    (hd : decode c.code pc = .ok (.areturn, 1)) (hk : cells ≤ k) (hs : slots ≤ n) (hq : Q (some w) T.heap locs) : own_Go p e below s Q k n (T.setTop (mkF m pc Ls (w :: rest))) :=
  own_ret X hx hlk hret hnr (Or.inr (Or.inr (Or.inr (Or.inr ⟨rfl, ht, hw⟩)))) hd hk hs hq
theorem own_retV {Q : Option Value → Heap → List Loc → Prop} {k n : Nat} (X : Stand p l e R s m args below meth c T locs cells slots) (hx : p.tables.exec = Jvm.exec) (hlk : meth.locks = false) {pc : Nat} {Ls : Array Slot} (hret : meth.sig.returnType = none)
    (hd : decode c.code pc = .ok (.return_, 1)) (hk : cells ≤ k) (hs : slots ≤ n) (hq : Q none T.heap locs) : own_Go p e below s Q k n (T.setTop (mkF m pc Ls [])) := by
  obtain ⟨fs, hr, hrun, hended, hW, hsame⟩ := X.leave (v := none) (fun _ => rfl) hlk
  exact ⟨_, _, X.returnOut hx hret hd hr, hrun, hended, _, _, rfl, hq, ⟨_, rfl⟩, hW, hsame.mono hk hs⟩
/-- a body's contract: handed as', at a heap h0, it ends as Q says -/
abbrev own_Met (l : Launch) (Z : State) (y : MethodName) (bytes : ByteArray) (maxL : Nat) (ret : Option FieldType) (rm : Room) (ws : List Jvm.Cond) (as' : Array Value) (h0 : Heap) (Q : Option Value → Heap → List Loc → Prop) : Prop :=
  MetFree l y (head1 (Jvm.Cond.code y bytes maxL ret :: ws) rm) (fun a U => a = as' ∧ Z.Warmed39 U.vm ∧ U.heap = h0) (fun _ _ _ _ _ => True) (fun _ U o U' => ∃ v L, o = .returned v ∧ Q v U'.heap L ∧ FrameEnd U o U' L rm.cells rm.slots)
theorem own_enter {y : MethodName} {bytes : ByteArray} {maxL : Nat} {ret : Option FieldType} {rm : Room} {ws : List Jvm.Cond} {as' : Array Value} {h0 : Heap} {Q : Option Value → Heap → List Loc → Prop} (hpl : plainFor y = true)
    (body : ∀ (p : Program) (e : Env) (s : State) (m : MethodId) (below : List Frame) (meth : Method) (c : Code) (s₁ : State), p.tables.exec = Jvm.exec → c.code = bytes → c.maxLocals = maxL → s.vm.findClass y.cls = some m.cls → meth.name = y.name → meth.locks = false → meth.sig.returnType = ret → Z.Warmed39 s.vm →
      Stand p l e rm s m as' below meth c s₁ [] 0 0 → s₁.heap = h0 → own_Go p e below s Q rm.cells rm.slots (s₁.setTop (entryFrame m as' maxL))) : own_Met l Z y bytes maxL ret rm ws as' h0 Q := by
  refine MetFree.of_bodySF hpl hisR ?_
  intro p e s m args below meth c s₁ Bd hml0 hP hK
  obtain ⟨rfl, hZ, hh⟩ := hP
  exact body p e s m below meth c s₁ Bd.exec Bd.bytes hml0 (findClass_of_methodNamed Bd.named) (name_of_methodNamed Bd.named Bd.method).1 Bd.notSynchronized Bd.returns hZ (Stand.of_body Bd) (by rw [← hh, Bd.state]; rfl)
/-- a static call by the callee's contract -/
theorem own_static {Q Q' : Option Value → Heap → List Loc → Prop} {k n : Nat} (X : Stand p l e R s m args below meth c T locs cells slots) (hx : p.tables.exec = Jvm.exec) (hZ : Z.Warmed39 s.vm) {own : String} {index : Nat} {y : MethodName} {bytes : ByteArray} {maxL : Nat} {ret : Option FieldType} {rm : Room}
    (hown : s.vm.findClass own = some m.cls) (w1 : (Cond.methodLink own index y).before a0 Z = true) (w2 : (Cond.static y).before a0 Z = true) (w3 : (Cond.initialized y.cls).before a0 Z = true) (w4 : (Cond.code y bytes maxL ret).before a0 Z = true)
    (hy : y.cls ≠ "java/lang/invoke/MethodHandle" ∧ y.cls ≠ "java/lang/invoke/VarHandle") (eT : T.heap = h) {argsL rest : List Value} (hM : own_Met l Z y bytes maxL ret rm [] argsL.toArray h Q) (W : Nat) (hf : rm.frames + 1 ≤ R.frames) (hl : W + (maxL + 11) + rm.locals ≤ R.locals) (hc : cells + rm.cells ≤ R.cells) (hsl : slots + rm.slots ≤ R.slots)
    {pc pc' : Nat} {Ls : Array Slot} {st : List Value} (hsize : Ls.size = c.maxLocals) {ps : List FieldType} {rt : Option FieldType} (hdesc : parseMethodDescriptor y.desc = some ⟨ps, rt⟩) (hlen : argsL.length = ps.length) (hst : st = argsL.reverse ++ rest) (hW : (rest.map fun v => v.category).sum ≤ W) (hd : decode c.code pc = .ok (.invokestatic index, 3)) (hpc : pc + 3 = pc')
    (go : ∀ (v : Option Value) (T' : State) (L : List Loc), Stand p l e R s m args below meth c T' (locs ++ L) (cells + rm.cells) (slots + rm.slots) → Q v T'.heap L → own_Go p e below s Q' k n (T'.setTop (mkF m pc' Ls (v.toList ++ rest)))) : own_Go p e below s Q' k n (T.setTop (mkF m pc Ls st)) := by
  subst hpc
  obtain ⟨v, _, ⟨T', L', k', n'⟩, -, X', ⟨L, hQ, hl', hk', hn'⟩, stp⟩ := Jvm.LawKit.callS X hx hown (mvT hZ w1) (mvT hZ w2) (mvT hZ w3) (mvT hZ w4) hy (backOf (W := W) hM hZ w4 w3 hf hl) (g := mkF m pc Ls st) rfl hsize (argsL := argsL) (rest := rest) (lenOf hdesc hlen) hst (by show 2 * 0 + _ ≤ _; omega) hd (fun _ _ => ⟨rfl, eT, hc, hsl⟩)
  dsimp only [Pt.U, Pt.locs, Pt.cells, Pt.slots] at X' hl' hk' hn' stp hQ
  subst hl' hk' hn'
  exact own_go stp (go v T' L X' hQ)
/-- a constructor by its contract -/
theorem own_init {Q Q' : Option Value → Heap → List Loc → Prop} {k n : Nat} (X : Stand p l e R s m args below meth c T locs cells slots) (hx : p.tables.exec = Jvm.exec) (hZ : Z.Warmed39 s.vm) {own : String} {index : Nat} {y : MethodName} {bytes : ByteArray} {maxL : Nat} {rm : Room} (hyi : y.name = "<init>")
    (hown : s.vm.findClass own = some m.cls) (w1 : (Cond.methodLink own index y).before a0 Z = true) (w2 : (Cond.instanceMethod y).before a0 Z = true) (w3 : (Cond.initialized y.cls).before a0 Z = true) (w4 : (Cond.code y bytes maxL none).before a0 Z = true)
    (hy : y.cls ≠ "java/lang/invoke/MethodHandle" ∧ y.cls ≠ "java/lang/invoke/VarHandle") (eT : T.heap = h) {a : Addr} {argsL rest : List Value} (hM : own_Met l Z y bytes maxL none rm [] (.ref a :: argsL).toArray h Q) (W : Nat) (hf : rm.frames + 1 ≤ R.frames) (hl : W + (maxL + 11) + rm.locals ≤ R.locals) (hc : cells + rm.cells ≤ R.cells) (hsl : slots + rm.slots ≤ R.slots)
    {pc pc' : Nat} {Ls : Array Slot} {st : List Value} (hsize : Ls.size = c.maxLocals) {ps : List FieldType} {rt : Option FieldType} (hdesc : parseMethodDescriptor y.desc = some ⟨ps, rt⟩) (hlen : argsL.length = ps.length) (hst : st = argsL.reverse ++ .ref a :: rest) (hW : (rest.map fun v => v.category).sum ≤ W) (hd : decode c.code pc = .ok (.invokespecial index, 3)) (hpc : pc + 3 = pc')
    (go : ∀ (v : Option Value) (T' : State) (L : List Loc), Stand p l e R s m args below meth c T' (locs ++ L) (cells + rm.cells) (slots + rm.slots) → Q v T'.heap L → own_Go p e below s Q' k n (T'.setTop (mkF m pc' Ls (v.toList ++ rest)))) : own_Go p e below s Q' k n (T.setTop (mkF m pc Ls st)) := by
  subst hpc
  obtain ⟨v, _, ⟨T', L', k', n'⟩, -, X', ⟨L, hQ, hl', hk', hn'⟩, stp⟩ := X.specialBack hx hyi hown (mvT hZ w1) (mvT hZ w2) (mvT hZ w4) hy (backOf (W := W) hM hZ w4 w3 hf hl) (g := mkF m pc Ls st) rfl hsize (Steps.refl _) (a := a) (argsL := argsL) (rest := rest) (lenOf hdesc hlen) hst (by show 2 * 0 + _ ≤ _; omega) hd (fun _ _ => ⟨rfl, eT, hc, hsl⟩)
  dsimp only [Pt.U, Pt.locs, Pt.cells, Pt.slots] at X' hl' hk' hn' stp hQ
  subst hl' hk' hn'
  exact own_go (fun _ q => stp.trans q) (go v T' L X' hQ)
/-- an instance method by its contract: the receiver is exactly of the class C, which selects z -/
theorem own_virtual {Q Q' : Option Value → Heap → List Loc → Prop} {k n : Nat} (X : Stand p l e R s m args below meth c T locs cells slots) (hx : p.tables.exec = Jvm.exec) (hZ : Z.Warmed39 s.vm) {own C : String} {index : Nat} {y : MethodName} {bytes : ByteArray} {maxL : Nat} {ret : Option FieldType} {rm : Room}
    (hown : s.vm.findClass own = some m.cls) (w1 : (Cond.methodLink own index y).before a0 Z = true) (w2 : (Cond.declares y).before a0 Z = true) (w3 : (Cond.selects C y y).before a0 Z = true) (w5 : (Cond.instanceMethod y).before a0 Z = true) (w6 : (Cond.initialized y.cls).before a0 Z = true) (w4 : (Cond.code y bytes maxL ret).before a0 Z = true)
    (hy : y.cls ≠ "java/lang/invoke/MethodHandle" ∧ y.cls ≠ "java/lang/invoke/VarHandle") (eT : T.heap = h) {a : Addr} (E : Exa Z h a C) {argsL rest : List Value} (hM : own_Met l Z y bytes maxL ret rm [] (.ref a :: argsL).toArray h Q) (W : Nat) (hf : rm.frames + 1 ≤ R.frames) (hl : W + (maxL + 11) + rm.locals ≤ R.locals) (hc : cells + rm.cells ≤ R.cells) (hsl : slots + rm.slots ≤ R.slots)
    {pc pc' : Nat} {Ls : Array Slot} {st : List Value} (hsize : Ls.size = c.maxLocals) {ps : List FieldType} {rt : Option FieldType} (hdesc : parseMethodDescriptor y.desc = some ⟨ps, rt⟩) (hlen : argsL.length = ps.length) (hst : st = argsL.reverse ++ .ref a :: rest) (hW : (rest.map fun v => v.category).sum ≤ W) (hd : decode c.code pc = .ok (.invokevirtual index, 3)) (hpc : pc + 3 = pc')
    (go : ∀ (v : Option Value) (T' : State) (L : List Loc), Stand p l e R s m args below meth c T' (locs ++ L) (cells + rm.cells) (slots + rm.slots) → Q v T'.heap L → own_Go p e below s Q' k n (T'.setTop (mkF m pc' Ls (v.toList ++ rest)))) : own_Go p e below s Q' k n (T.setTop (mkF m pc Ls st)) := by
  subst hpc
  obtain ⟨cq, kq, qa, qb, qc⟩ := isOf hZ eT E
  obtain ⟨v, _, ⟨T', L', k', n'⟩, -, X', ⟨L, hQ, hl', hk', hn'⟩, stp⟩ := X.virtualBack hx (z := y) hown (mvT hZ w1) (mvT hZ w2) (notFace_of_selects (args := #[]) (mvT hZ w3)) (mvT hZ w3) (mvT hZ w5) hy (backOf (W := W) hM hZ w4 w6 hf hl) qa qc (g := mkF m pc Ls st) rfl hsize (Steps.refl _) (argsL := argsL) (rest := rest) (lenOf hdesc hlen) hst (by show 2 * 0 + _ ≤ _; omega) hd (fun _ _ => ⟨rfl, eT, hc, hsl⟩)
  dsimp only [Pt.U, Pt.locs, Pt.cells, Pt.slots] at X' hl' hk' hn' stp hQ
  subst hl' hk' hn'
  exact own_go (fun _ q => stp.trans q) (go v T' L X' hQ)
/-- an array of n places that hold F 0, F 1 .. -/
def own_Ar (Z : State) (h : Heap) (a : Addr) (ty : FieldType) (n : Nat) (F : Nat → Value) : Prop := n < 2 ^ 31 ∧ ∃ c : Cell, Arr Z h a c ty ∧ c.slots.size = n ∧ ∀ j, j < n → c.slots[j]? = some (F j)
section ArFacts
variable {a b : Addr} {ty : FieldType} {F G : Nat → Value} {nn : Nat} {sl : Nat} {v : Value} {ws : List Addr}
theorem own_Ar.lt (A : own_Ar Z h a ty nn F) : a < h.size := by obtain ⟨-, c, A, -⟩ := A; exact A.lt
theorem own_Ar.ext (A : own_Ar Z h a ty nn F) (E : Ext h h') : own_Ar Z h' a ty nn F := by obtain ⟨q, c, A, r⟩ := A; exact ⟨q, c, A.ext E, r⟩
theorem own_Ar.other (A : own_Ar Z h a ty nn F) (W : Wr h h' b sl v) (q : a ≠ b) : own_Ar Z h' a ty nn F := by obtain ⟨q0, c, A, r⟩ := A; exact ⟨q0, c, A.other W q, r⟩
theorem own_Ar.keep (A : own_Ar Z h a ty nn F) (K : Keep h h' ws) (q : a ∉ ws) : own_Ar Z h' a ty nn F := by obtain ⟨q0, c, A, r⟩ := A; exact ⟨q0, c, ⟨K.2.1 a c A.1 q, A.2⟩, r⟩
theorem own_Ar.eqv (A : own_Ar Z h a ty nn F) (q : ∀ j, j < nn → F j = G j) : own_Ar Z h a ty nn G := by obtain ⟨q0, c, A, r, r2⟩ := A; exact ⟨q0, c, A, r, fun j hj => by rw [r2 j hj, q j hj]⟩
theorem own_Ar.set (A : own_Ar Z h a ty nn F) (W : Wr h h' a sl v) : own_Ar Z h' a ty nn (fun j => if j = sl then v else F j) := by
  obtain ⟨q0, c, A, r, r2⟩ := A
  refine ⟨q0, _, A.same W, by rw [sz_set]; exact r, fun j hj => ?_⟩
  by_cases q : j = sl
  · subst q
    simp [Cell.setSlot, r, hj]
  · have q' : sl ≠ j := fun x => q x.symm
    simp only [if_neg q]
    rw [← r2 j hj]
    simp [Cell.setSlot, Array.getElem?_setIfInBounds, q']
theorem own_Ar.new {k : ClassId} {z : Int32} (A : Arr Z h a (newA k ty z) ty) (q : ¬ z < 0) (hz : z.toNatClampNeg = nn) : own_Ar Z h a ty nn (fun _ => defaultValue ty) := by
  subst hz
  refine ⟨(back32 q).2, _, A, sz_new _ _ _, fun j hj => ?_⟩
  simp [newA, hj]
end ArFacts
theorem own_inb {c : Cell} {n i : Nat} {z : Int32} (hs : c.slots.size = n) (hz : z.toInt = (i : Int)) (hi : i < n) : ¬ (z < 0 ∨ c.slots.size ≤ z.toNatClampNeg) ∧ z.toNatClampNeg = i := by
  have h1 : z.toNatClampNeg = i := by rw [Int32.toNatClampNeg, hz]; rfl
  refine ⟨?_, h1⟩
  rintro (q | q)
  · rw [Int32.lt_iff_toInt_lt, hz] at q
    have : (0 : Int32).toInt = 0 := rfl
    omega
  · rw [h1, hs] at q
    omega
theorem own_lt {x y : Int32} (q : x.toInt < y.toInt) : x < y := Int32.lt_iff_toInt_lt.mpr q
theorem own_nlt {x y : Int32} (q : y.toInt ≤ x.toInt) : ¬ x < y := fun r => by rw [Int32.lt_iff_toInt_lt] at r; omega
theorem own_ltI {x y : Int32} (q : x < y) : x.toInt < y.toInt := Int32.lt_iff_toInt_lt.mp q
theorem own_nltI {x y : Int32} (q : ¬ x < y) : y.toInt ≤ x.toInt := by rw [Int32.lt_iff_toInt_lt] at q; omega
theorem own_eq {x y : Int32} (q : x.toInt = y.toInt) : x = y := Int32.toInt_inj.mp q
theorem own_ne {x y : Int32} (q : x.toInt ≠ y.toInt) : ¬ x = y := fun r => q (by rw [r])
theorem own_neI {x y : Int32} (q : ¬ x = y) : x.toInt ≠ y.toInt := fun r => q (own_eq r)
/-- the read of an int out of an array -/
theorem own_iaload {Q : Option Value → Heap → List Loc → Prop} {k n : Nat} (X : Stand p l e R s m args below meth c T locs cells slots) (hx : p.tables.exec = Jvm.exec) (hZ : Z.Warmed39 s.vm) (eT : T.heap = h) {a : Addr} {nn i : Nat} {F : Nat → Value} {x z : Int32} (A : own_Ar Z h a .int nn F) (hz : z.toInt = (i : Int)) (hi : i < nn) (hF : F i = .int x)
    {pc pc' : Nat} {Ls : Array Slot} {rest : List Value} (hd : decode c.code pc = .ok (.iaload, 1)) (hpc : pc + 1 = pc') (go : own_Go p e below s Q k n (T.setTop (mkF m pc' Ls (.int x :: rest)))) : own_Go p e below s Q k n (T.setTop (mkF m pc Ls (.int z :: .ref a :: rest))) := by
  subst hpc
  obtain ⟨-, c, A, r, r2⟩ := A
  obtain ⟨q1, q2⟩ := own_inb r hz hi
  exact own_go (X.iaload hx (j := z) (v := .int x) (by rw [eT]; exact A.1) (State.isArrayOf_alike hZ.alike A.2.1) A.2.2 q1 (by rw [q2, r2 i hi, hF]) (g := mkF m pc Ls (.int z :: .ref a :: rest)) rfl rfl hd) go
theorem own_laload {Q : Option Value → Heap → List Loc → Prop} {k n : Nat} (X : Stand p l e R s m args below meth c T locs cells slots) (hx : p.tables.exec = Jvm.exec) (hZ : Z.Warmed39 s.vm) (eT : T.heap = h) {a : Addr} {nn i : Nat} {F : Nat → Value} {x : Int64} {z : Int32} (A : own_Ar Z h a .long nn F) (hz : z.toInt = (i : Int)) (hi : i < nn) (hF : F i = .long x)
    {pc pc' : Nat} {Ls : Array Slot} {rest : List Value} (hd : decode c.code pc = .ok (.laload, 1)) (hpc : pc + 1 = pc') (go : own_Go p e below s Q k n (T.setTop (mkF m pc' Ls (.long x :: rest)))) : own_Go p e below s Q k n (T.setTop (mkF m pc Ls (.int z :: .ref a :: rest))) := by
  subst hpc
  obtain ⟨-, c, A, r, r2⟩ := A
  obtain ⟨q1, q2⟩ := own_inb r hz hi
  exact own_go (X.laload hx (j := z) (v := .long x) (by rw [eT]; exact A.1) (State.isArrayOf_alike hZ.alike A.2.1) A.2.2 q1 (by rw [q2, r2 i hi, hF]) (g := mkF m pc Ls (.int z :: .ref a :: rest)) rfl rfl hd) go
theorem own_iastore {Q : Option Value → Heap → List Loc → Prop} {k n : Nat} (X : Stand p l e R s m args below meth c T locs cells slots) (hx : p.tables.exec = Jvm.exec) (hZ : Z.Warmed39 s.vm) (eT : T.heap = h) {a : Addr} {nn i : Nat} {F : Nat → Value} {x z : Int32} (A : own_Ar Z h a .int nn F) (hz : z.toInt = (i : Int)) (hi : i < nn)
    {pc pc' : Nat} {Ls : Array Slot} {rest : List Value} (hd : decode c.code pc = .ok (.iastore, 1)) (hpc : pc + 1 = pc') (go : ∀ T' h', Stand p l e R s m args below meth c T' (locs ++ [⟨a, i⟩]) cells slots → T'.heap = h' → Wr h h' a i (.int x) → own_Ar Z h' a .int nn (fun j => if j = i then .int x else F j) → own_Go p e below s Q k n (T'.setTop (mkF m pc' Ls rest))) : own_Go p e below s Q k n (T.setTop (mkF m pc Ls (.int x :: .int z :: .ref a :: rest))) := by
  subst hpc
  have A' := A
  obtain ⟨-, c, A, r, r2⟩ := A
  obtain ⟨q1, q2⟩ := own_inb r hz hi
  obtain ⟨T', h', X', e', W', st⟩ := stI X hx hZ eT A (j := z) (x := x) q1 (g := mkF m pc Ls (.int x :: .int z :: .ref a :: rest)) rfl rfl hd
  rw [q2] at X' W'
  exact own_go st (go T' h' X' e' W' (A'.set W'))
theorem own_lastore {Q : Option Value → Heap → List Loc → Prop} {k n : Nat} (X : Stand p l e R s m args below meth c T locs cells slots) (hx : p.tables.exec = Jvm.exec) (hZ : Z.Warmed39 s.vm) (eT : T.heap = h) {a : Addr} {nn i : Nat} {F : Nat → Value} {x : Int64} {z : Int32} (A : own_Ar Z h a .long nn F) (hz : z.toInt = (i : Int)) (hi : i < nn)
    {pc pc' : Nat} {Ls : Array Slot} {rest : List Value} (hd : decode c.code pc = .ok (.lastore, 1)) (hpc : pc + 1 = pc') (go : ∀ T' h', Stand p l e R s m args below meth c T' (locs ++ [⟨a, i⟩]) cells slots → T'.heap = h' → Wr h h' a i (.long x) → own_Ar Z h' a .long nn (fun j => if j = i then .long x else F j) → own_Go p e below s Q k n (T'.setTop (mkF m pc' Ls rest))) : own_Go p e below s Q k n (T.setTop (mkF m pc Ls (.long x :: .int z :: .ref a :: rest))) := by
  subst hpc
  have A' := A
  obtain ⟨-, c, A, r, r2⟩ := A
  obtain ⟨q1, q2⟩ := own_inb r hz hi
  obtain ⟨T', h', X', e', W', st⟩ := stJ X hx hZ eT A (j := z) (x := x) q1 (g := mkF m pc Ls (.long x :: .int z :: .ref a :: rest)) rfl rfl hd
  rw [q2] at X' W'
  exact own_go st (go T' h' X' e' W' (A'.set W'))
theorem own_length {Q : Option Value → Heap → List Loc → Prop} {k n : Nat} (X : Stand p l e R s m args below meth c T locs cells slots) (hx : p.tables.exec = Jvm.exec) (hZ : Z.Warmed39 s.vm) (eT : T.heap = h) {a : Addr} {nn : Nat} {ty : FieldType} {F : Nat → Value} {z : Int32} (A : own_Ar Z h a ty nn F) (hz : z.toInt = (nn : Int))
    {pc pc' : Nat} {Ls : Array Slot} {rest : List Value} (hd : decode c.code pc = .ok (.arraylength, 1)) (hpc : pc + 1 = pc') (go : own_Go p e below s Q k n (T.setTop (mkF m pc' Ls (.int z :: rest)))) : own_Go p e below s Q k n (T.setTop (mkF m pc Ls (.ref a :: rest))) := by
  subst hpc
  obtain ⟨q, c, A, r, r2⟩ := A
  have hz' : c.slots.size.toInt32 = z := own_eq (by rw [r, hz]; exact len_toInt q)
  subst hz'
  exact own_go (X.arraylength hx (by rw [eT]; exact A.1) (State.isArrayOf_alike hZ.alike A.2.1) (g := mkF m pc Ls (.ref a :: rest)) rfl rfl hd) go
end OwnKit
theorem pd_0 : parseMethodDescriptor "()V" = some ⟨[], none⟩ := by decide +kernel
theorem pd_1 : parseMethodDescriptor "(I)V" = some ⟨[.int], none⟩ := by decide +kernel
theorem pd_2 : parseMethodDescriptor "(I)Ljava/lang/Integer;" = some ⟨[.int], some (.object "java/lang/Integer")⟩ := by decide +kernel
theorem pd_3 : parseMethodDescriptor "(Ljava/lang/Object;JJ)V" = some ⟨[(.object "java/lang/Object"), .long, .long], none⟩ := by decide +kernel
theorem pd_4 : parseMethodDescriptor "()Z" = some ⟨[], some .boolean⟩ := by decide +kernel
theorem pd_5 : parseMethodDescriptor "()J" = some ⟨[], some .long⟩ := by decide +kernel
theorem pd_6 : parseMethodDescriptor "()Ljava/lang/Object;" = some ⟨[], some (.object "java/lang/Object")⟩ := by decide +kernel
theorem pd_7 : parseMethodDescriptor "()I" = some ⟨[], some .int⟩ := by decide +kernel
section OwnRef
variable {p : Program} {l : Launch} {e : Env} {R : Room} {s : State} {m : MethodId} {args : Array Value} {below : List Frame} {meth : Method} {c : Code} {T : State} {locs : List Loc} {cells slots : Nat} {Z : State} {a0 : Array Value} {h h' : Heap}
theorem own_aaload {Q : Option Value → Heap → List Loc → Prop} {k n : Nat} (X : Stand p l e R s m args below meth c T locs cells slots) (hx : p.tables.exec = Jvm.exec) (hZ : Z.Warmed39 s.vm) (eT : T.heap = h) {a : Addr} {nn i : Nat} {ty : FieldType} {F : Nat → Value} {x : Value} {z : Int32} (hty : ty.isReference = true) (A : own_Ar Z h a ty nn F) (hz : z.toInt = (i : Int)) (hi : i < nn) (hF : F i = x)
    {pc pc' : Nat} {Ls : Array Slot} {rest : List Value} (hd : decode c.code pc = .ok (.aaload, 1)) (hpc : pc + 1 = pc') (go : own_Go p e below s Q k n (T.setTop (mkF m pc' Ls (x :: rest)))) : own_Go p e below s Q k n (T.setTop (mkF m pc Ls (.int z :: .ref a :: rest))) := by
  subst hpc
  obtain ⟨-, c, A, r, r2⟩ := A
  obtain ⟨q1, q2⟩ := own_inb r hz hi
  exact own_go (X.aaload hx (j := z) (v := x) (by rw [eT]; exact A.1) (State.isArrayOf_alike hZ.alike A.2.1) hty A.2.2 q1 (by rw [q2, r2 i hi, hF]) (g := mkF m pc Ls (.int z :: .ref a :: rest)) rfl rfl hd) go
theorem own_aastore {Q : Option Value → Heap → List Loc → Prop} {k n : Nat} (X : Stand p l e R s m args below meth c T locs cells slots) (hx : p.tables.exec = Jvm.exec) (hZ : Z.Warmed39 s.vm) (eT : T.heap = h) {a : Addr} {nn i : Nat} {ty : FieldType} {F : Nat → Value} {x : Value} {z : Int32} (hty : ty.isReference = true) (A : own_Ar Z h a ty nn F) (S : Sto Z h a x) (hz : z.toInt = (i : Int)) (hi : i < nn)
    {pc pc' : Nat} {Ls : Array Slot} {rest : List Value} (hd : decode c.code pc = .ok (.aastore, 1)) (hpc : pc + 1 = pc') (go : ∀ T' h', Stand p l e R s m args below meth c T' (locs ++ [⟨a, i⟩]) cells slots → T'.heap = h' → Wr h h' a i x → own_Ar Z h' a ty nn (fun j => if j = i then x else F j) → own_Go p e below s Q k n (T'.setTop (mkF m pc' Ls rest))) : own_Go p e below s Q k n (T.setTop (mkF m pc Ls (x :: .int z :: .ref a :: rest))) := by
  subst hpc
  have A' := A
  obtain ⟨-, c, A, r, r2⟩ := A
  obtain ⟨q1, q2⟩ := own_inb r hz hi
  obtain ⟨T', h', X', e', W', st⟩ := stR X hx hZ eT A (j := z) (v := x) q1 hty S (g := mkF m pc Ls (x :: .int z :: .ref a :: rest)) rfl rfl hd
  rw [q2] at X' W'
  exact own_go st (go T' h' X' e' W' (A'.set W'))
theorem own_keepExt (K : Keep h h' []) : Ext h h' := ⟨K.1, fun x c q => K.2.1 x c q nin0⟩
end OwnRef

theorem own_long_if {g : Nat → Int64} {y : Int64} {i n : Nat} : ∀ j, j < n → (fun j => if j = i then Value.long y else Value.long (g j)) j = (fun j => Value.long (if j = i then y else g j)) j := fun j _ => by
  show (if j = i then Value.long y else Value.long (g j)) = Value.long (if j = i then y else g j)
  by_cases q : j = i
  · rw [if_pos q, if_pos q]
  · rw [if_neg q, if_neg q]
def own_Cache (Z : State) (h : Heap) : Prop := Sta Z h "java/lang/Integer$IntegerCache" "high" "I" (.int 127) ∧ ∃ ca : Addr, Sta Z h "java/lang/Integer$IntegerCache" "cache" "[Ljava/lang/Integer;" (.ref ca) ∧ ∃ G : Nat → Value, own_Ar Z h ca (.object "java/lang/Integer") 256 G ∧
  ∀ i, i < 256 → ∃ b, G i = .ref b ∧ Exa Z h b "java/lang/Integer" ∧ Fld Z h b "java/lang/Integer" "value" "I" (.int (Int32.ofNat i - 128))
theorem own_Cache.ext {Z : State} {h h' : Heap} (H : own_Cache Z h) (E : Ext h h') : own_Cache Z h' := by
  obtain ⟨a1, ca, a2, G, a3, a4⟩ := H
  exact ⟨a1.ext E, ca, a2.ext E, G, a3.ext E, fun i hi => by obtain ⟨b, q1, q2, q3⟩ := a4 i hi; exact ⟨b, q1, q2.ext E, q3.ext E⟩⟩
theorem own_idx {x : Int32} (h1 : ¬ x < (-128 : Int32)) (h2 : ¬ (127 : Int32) < x) : ∃ i : Nat, (x + (128 : Int32)).toInt = (i : Int) ∧ i < 256 ∧ Int32.ofNat i - 128 = x := by
  have a := own_nltI h1
  have b := own_nltI h2
  have e1 : (-128 : Int32).toInt = -128 := rfl
  have e2 : (127 : Int32).toInt = 127 := rfl
  have e3 : (128 : Int32).toInt = 128 := rfl
  have c := c_iadd x 128
  have d := rng32 (x + 128)
  refine ⟨(x + 128).toInt.toNat, by omega, by omega, own_eq ?_⟩
  have f := c_isub (Int32.ofNat (x + 128).toInt.toNat) 128
  have g := rng32 (Int32.ofNat (x + 128).toInt.toNat - 128)
  rw [Int32.toInt_ofNat_of_lt (by omega)] at f
  omega
theorem own_cache {s : State} {args : Array Value} (hs : ∀ d ∈ jdkStatics_1, d.before args s = true) (hw : ∀ d ∈ tables_1, d.before args s = true) : own_Cache s s.heap := by
  have w0 := hs _ (List.mem_of_getElem? (i := 1) rfl)
  have w2 := hs _ (List.mem_of_getElem? (i := 2) rfl)
  have w3 := hs _ (List.mem_of_getElem? (i := 3) rfl)
  have w4 := Cond.before_iff.mp (hs _ (List.mem_of_getElem? (i := 4) rfl))
  have w6 := hs _ (List.mem_of_getElem? (i := 6) rfl)
  have w7 := Cond.before_iff.mp (hs _ (List.mem_of_getElem? (i := 7) rfl))
  have evh : (Term.static "java/lang/Integer$IntegerCache" "high" "I").eval args s none [] s = some (.int 127) := Cond.eq_int w3 rfl
  refine ⟨Sta.start evh (Or.inl w0), ?_⟩
  obtain ⟨ca, evc⟩ := arr_v w4
  obtain ⟨cl, A⟩ := Arr.start evc w4
  have hat : s.arrayAt? ca = some cl := IntBox.arrayAt_of A.1 A.2.1 A.2.2
  obtain ⟨hlt, hsz⟩ := IntBox.length_fwd w6 evc A.1 A.2.1 A.2.2
  have h256 : cl.slots.size = 256 := by
    have e := len_toInt hlt
    rw [hsz] at e
    have : (256 : Int32).toInt = 256 := rfl
    omega
  have hall := Cond.all_elim evc hat w7
  refine ⟨ca, Sta.start evc (Or.inr ⟨hw _ (List.mem_of_getElem? (i := 5) rfl), w2⟩), fun j => cl.slots.getD j .null, ⟨by decide, cl, A, h256, fun j hj => ?_⟩, fun i hi => ?_⟩
  · rw [Array.getElem?_eq_getElem (by omega)]
    simp [Array.getD, h256, hj]
  · obtain ⟨q1, q2⟩ := and_e (hall i (by omega))
    obtain ⟨b, evb⟩ := exa_v q1
    have evc' : (Term.static "java/lang/Integer$IntegerCache" "cache" "[Ljava/lang/Integer;").eval args s none [i] s = some (.ref ca) := by simpa only [Term.eval] using evc
    have evi : (Term.index 0).eval args s none [i] s = some (.int i.toInt32) := Term.index_eval _
    obtain ⟨-, q3⟩ := elem_in evb evc' evi A.1
    rw [(IntBox.place_nonneg i hi).2] at q3
    obtain ⟨x, y, e1, e2, -⟩ := cmp_v (Or.inl q2)
    have e2' : y = .int (i.toInt32 - 128) := by
      simp only [Term.eval, List.getElem?_cons_zero] at e2
      simpa using e2.symm
    have e1' := e1
    rw [fld_at evb] at e1'
    have hxy : x = y := by
      cases x <;> cases y <;> simp [Cond.value, e1, e2] at q2 <;> first | (subst q2; rfl) | cases e2' | skip
    subst hxy
    subst e2'
    exact ⟨b, by show cl.slots.getD i .null = _; rw [Array.getD_eq_getD_getElem?, q3]; rfl, exa_at evb q1, Fld.start e1'⟩
theorem own_sto {Z : State} {h h' : Heap} {b o : Addr} {k : ClassId} {C : String} {n : Int32} (A : Arr Z h b (newA k (.object C) n) (.object C)) (O : Ovr Z k C) (K : Keep h h' [o]) : ∀ y, Ins Z h' y C true → Sto Z h' b (.ref y) := fun y hy => by
  obtain ⟨c', q1, q2, q3, -⟩ := K.2.2 b _ A.1
  obtain ⟨kk, comp, o1, o2, o3⟩ := O
  obtain ⟨cv, cT, i1, i2, i3⟩ := hy
  cases o3.symm.trans i2
  simp only [Bool.and_eq_true, Bool.not_eq_true'] at i3
  obtain ⟨kc, q⟩ := Vm.classAt_of_findClass o3
  obtain ⟨kv, q4⟩ := Vm.classAt_of_assignable i3.2 ⟨kc, q⟩
  exact Or.inr ⟨c', cv, kk, kv, kc, _, _, y, q1, by rw [q2]; exact o1, o2, q, rfl, i1, i3.1, q4, i3.2⟩
theorem d12_0 : decode jdk_18_method_1_code 0 = .ok (.aload_n 0, 1) := by decide +kernel
theorem d12_1 : decode jdk_18_method_1_code 1 = .ok (.invokespecial 1, 3) := by decide +kernel
theorem d12_4 : decode jdk_18_method_1_code 4 = .ok (.return_, 1) := by decide +kernel
def Q12 (Z : State) (a : Addr) (h0 : Heap) (n0 : Nat) (v : Option Value) (h : Heap) (L : List Loc) : Prop := v = none ∧ Fr n0 L ∧ h = h0
theorem ef_12 (m : MethodId) (x0 : Addr) : entryFrame m #[(.ref x0)] 1 = mkF m 0 #[.val (.ref x0)] [] := by first | (simp [entryFrame, mkF, argsToLocals, Value.category]; done) | rfl
set_option maxRecDepth 65536 in
set_option maxHeartbeats 40000000 in
theorem rm12 (l : Launch) (Z : State) (a0 : Array Value) (hw : ∀ d ∈ tables_1, d.before a0 Z = true) (ws : List Jvm.Cond) (a : Addr) (h0 : Heap) (n0 : Nat) (Z0 : n0 ≤ h0.size)  :
    own_Met l Z (⟨"java/lang/Number", "<init>", "()V"⟩ : MethodName) jdk_18_method_1_code 1 none ({ frames := 1, cells := 0, slots := 0, locals := 12 } : Room) ws #[(.ref a)] h0 (Q12 Z a h0 n0) := by
  refine own_enter (plainFor_of_name (by first | (simp [plainName, overriddenIn]; done) | decide +kernel)) ?_
  intro p e s m below meth c s₁ hx hby hml hown hnm hlk hret hZ X0 e0
  have N0 := Fr.nil n0
  refine own_go (fun _ q => castTop (ef_12 m a) q) ?_
  show own_Go _ _ _ _ _ _ _ (s₁.setTop (mkF m 0 #[.val (.ref a)] []))
  refine own_go (fun _ q => XS.aloadN X0.here hx rfl (hb hby d12_0) rfl rfl q) ?_
  show own_Go _ _ _ _ _ _ _ (s₁.setTop (mkF m 1 #[.val (.ref a)] [(.ref a)]))
  obtain ⟨T1, X1, e1, st1⟩ := initO X0 hx hZ hown (hw _ (List.mem_of_getElem? (i := 80) rfl)) (hw _ (List.mem_of_getElem? (i := 14) rfl)) (hw _ (List.mem_of_getElem? (i := 15) rfl)) e0 (g := (mkF m 1 #[.val (.ref a)] [(.ref a)])) rfl (by rw [hml]; rfl) rfl (hb hby d12_1) (by decide) (W := 0) (by show 2 * 0 + _ ≤ _; exact Nat.le_of_eq rfl) (by decide)
  refine own_go st1 ?_
  show own_Go _ _ _ _ _ _ _ (T1.setTop (mkF m 4 #[.val (.ref a)] []))
  exact own_retV X1 hx hlk hret (hb hby d12_4) (by decide) (by decide) ⟨rfl, N0, e1⟩
theorem d11_0 : decode jdk_33_method_23_code 0 = .ok (.aload_n 0, 1) := by decide +kernel
theorem d11_1 : decode jdk_33_method_23_code 1 = .ok (.invokespecial 202, 3) := by decide +kernel
theorem d11_4 : decode jdk_33_method_23_code 4 = .ok (.aload_n 0, 1) := by decide +kernel
theorem d11_5 : decode jdk_33_method_23_code 5 = .ok (.iload_n 1, 1) := by decide +kernel
theorem d11_6 : decode jdk_33_method_23_code 6 = .ok (.putfield 205, 3) := by decide +kernel
theorem d11_9 : decode jdk_33_method_23_code 9 = .ok (.return_, 1) := by decide +kernel
def Q11 (Z : State) (a : Addr) (x : Int32) (h0 : Heap) (n0 : Nat) (v : Option Value) (h : Heap) (L : List Loc) : Prop := v = none ∧ Fr n0 L ∧ Keep h0 h [a] ∧ Exa Z h a "java/lang/Integer" ∧ Fld Z h a "java/lang/Integer" "value" "I" (.int x)
theorem ef_11 (m : MethodId) (x0 : Addr) (x1 : Int32) : entryFrame m #[(.ref x0), (.int x1)] 2 = mkF m 0 #[.val (.ref x0), .val (.int x1)] [] := by first | (simp [entryFrame, mkF, argsToLocals, Value.category]; done) | rfl
set_option maxRecDepth 65536 in
set_option maxHeartbeats 40000000 in
theorem rm11 (l : Launch) (Z : State) (a0 : Array Value) (hw : ∀ d ∈ tables_1, d.before a0 Z = true) (ws : List Jvm.Cond) (a : Addr) (x : Int32) (h0 : Heap) (n0 : Nat) (Z0 : n0 ≤ h0.size) (Ea : Exa Z h0 a "java/lang/Integer") (F1 : Fld Z h0 a "java/lang/Integer" "value" "I" (.int 0)) (ga : n0 ≤ a) :
    own_Met l Z (⟨"java/lang/Integer", "<init>", "(I)V"⟩ : MethodName) jdk_33_method_23_code 2 none ({ frames := 2, cells := 0, slots := 0, locals := 24 } : Room) ws #[(.ref a), (.int x)] h0 (Q11 Z a x h0 n0) := by
  refine own_enter (plainFor_of_name (by first | (simp [plainName, overriddenIn]; done) | decide +kernel)) ?_
  intro p e s m below meth c s₁ hx hby hml hown hnm hlk hret hZ X0 e0
  have N0 := Fr.nil n0
  refine own_go (fun _ q => castTop (ef_11 m a x) q) ?_
  show own_Go _ _ _ _ _ _ _ (s₁.setTop (mkF m 0 #[.val (.ref a), .val (.int x)] []))
  refine own_go (fun _ q => XS.aloadN X0.here hx rfl (hb hby d11_0) rfl rfl q) ?_
  show own_Go _ _ _ _ _ _ _ (s₁.setTop (mkF m 1 #[.val (.ref a), .val (.int x)] [(.ref a)]))
  refine own_init X0 hx hZ rfl hown (hw _ (List.mem_of_getElem? (i := 74) rfl)) (hw _ (List.mem_of_getElem? (i := 75) rfl)) (hw _ (List.mem_of_getElem? (i := 78) rfl)) (hw _ (List.mem_of_getElem? (i := 79) rfl)) (by decide) e0 (a := a) (argsL := []) (rest := []) (rm12 l Z a0 hw [] a h0 n0 Z0) 0 (by decide) (by decide) (by decide) (by decide) (by rw [hml]; rfl) pd_0 rfl rfl (Nat.le_of_eq rfl) (hb hby d11_1) rfl ?_
  intro v1 T1 L1 X1 hQ1
  obtain ⟨rfl, N1q, e1q⟩ := hQ1
  have N1 := Fr.app N0 N1q
  show own_Go _ _ _ _ _ _ _ (T1.setTop (mkF m 4 #[.val (.ref a), .val (.int x)] []))
  refine own_go (fun _ q => XS.aloadN X1.here hx rfl (hb hby d11_4) rfl rfl q) ?_
  show own_Go _ _ _ _ _ _ _ (T1.setTop (mkF m 5 #[.val (.ref a), .val (.int x)] [(.ref a)]))
  refine own_go (fun _ q => XS.iloadN X1.here hx rfl (hb hby d11_5) rfl q) ?_
  show own_Go _ _ _ _ _ _ _ (T1.setTop (mkF m 6 #[.val (.ref a), .val (.int x)] [(.int x), (.ref a)]))
  obtain ⟨T2, h2, X2, e2, W2, st2⟩ := putF X1 hx hZ hown (host := "") (Or.inl (hw _ (List.mem_of_getElem? (i := 67) rfl))) Via.refl e1q F1 Ea (Or.inr ⟨(hw _ (List.mem_of_getElem? (i := 68) rfl)), rfl, hnm⟩) (hw _ (List.mem_of_getElem? (i := 70) rfl)) (ty := .int) (by decide) rfl rfl (g := (mkF m 6 #[.val (.ref a), .val (.int x)] [(.int x), (.ref a)])) rfl rfl (hb hby d11_6)
  have N2 := Fr.snoc X2 N1 ga
  have Fw2 := F1.same W2
  have Z2 : n0 ≤ h2.size := by rw [W2.size]; exact Z0
  refine own_go st2 ?_
  show own_Go _ _ _ _ _ _ _ (T2.setTop (mkF m 9 #[.val (.ref a), .val (.int x)] []))
  have K : Keep h0 h2 [a] := (Keep.refl h0 [a]).wr W2 (Or.inl (List.mem_singleton.mpr rfl))
  have f3 := (Ea.wr W2)
  subst e2
  exact own_retV X2 hx hlk hret (hb hby d11_9) (by decide) (by decide) ⟨rfl, N2, K, f3, Fw2⟩
theorem d1_0 : decode jdk_33_method_22_code 0 = .ok (.iload_n 0, 1) := by decide +kernel
theorem d1_1 : decode jdk_33_method_22_code 1 = .ok (.bipush (-128), 2) := by decide +kernel
theorem d1_3 : decode jdk_33_method_22_code 3 = .ok (.if_icmp .lt 20, 3) := by decide +kernel
theorem d1_6 : decode jdk_33_method_22_code 6 = .ok (.iload_n 0, 1) := by decide +kernel
theorem d1_7 : decode jdk_33_method_22_code 7 = .ok (.getstatic 191, 3) := by decide +kernel
theorem d1_10 : decode jdk_33_method_22_code 10 = .ok (.if_icmp .gt 13, 3) := by decide +kernel
theorem d1_13 : decode jdk_33_method_22_code 13 = .ok (.getstatic 195, 3) := by decide +kernel
theorem d1_16 : decode jdk_33_method_22_code 16 = .ok (.iload_n 0, 1) := by decide +kernel
theorem d1_17 : decode jdk_33_method_22_code 17 = .ok (.sipush 128, 3) := by decide +kernel
theorem d1_20 : decode jdk_33_method_22_code 20 = .ok (.iadd, 1) := by decide +kernel
theorem d1_21 : decode jdk_33_method_22_code 21 = .ok (.aaload, 1) := by decide +kernel
theorem d1_22 : decode jdk_33_method_22_code 22 = .ok (.areturn, 1) := by decide +kernel
theorem d1_23 : decode jdk_33_method_22_code 23 = .ok (.new 1, 3) := by decide +kernel
theorem d1_26 : decode jdk_33_method_22_code 26 = .ok (.dup, 1) := by decide +kernel
theorem d1_27 : decode jdk_33_method_22_code 27 = .ok (.iload_n 0, 1) := by decide +kernel
theorem d1_28 : decode jdk_33_method_22_code 28 = .ok (.invokespecial 199, 3) := by decide +kernel
theorem d1_31 : decode jdk_33_method_22_code 31 = .ok (.areturn, 1) := by decide +kernel
def Q1 (Z : State) (x : Int32) (h0 : Heap) (n0 : Nat) (v : Option Value) (h : Heap) (L : List Loc) : Prop := ∃ b : Addr, v = some (.ref b) ∧ Fr n0 L ∧ Ext h0 h ∧ Exa Z h b "java/lang/Integer" ∧ Fld Z h b "java/lang/Integer" "value" "I" (.int x)
theorem ef_1 (m : MethodId) (x0 : Int32) : entryFrame m #[(.int x0)] 1 = mkF m 0 #[.val (.int x0)] [] := by first | (simp [entryFrame, mkF, argsToLocals, Value.category]; done) | rfl
set_option maxRecDepth 65536 in
set_option maxHeartbeats 40000000 in
theorem rm1 (l : Launch) (Z : State) (a0 : Array Value) (hw : ∀ d ∈ tables_1, d.before a0 Z = true) (ws : List Jvm.Cond) (x : Int32) (h0 : Heap) (n0 : Nat) (Z0 : n0 ≤ h0.size) (HC : own_Cache Z h0) :
    own_Met l Z (⟨"java/lang/Integer", "valueOf", "(I)Ljava/lang/Integer;"⟩ : MethodName) jdk_33_method_22_code 1 (some (.object "java/lang/Integer")) ({ frames := 3, cells := 1, slots := 1, locals := 38 } : Room) ws #[(.int x)] h0 (Q1 Z x h0 n0) := by
  refine own_enter (plainFor_of_name (by first | (simp [plainName, overriddenIn]; done) | decide +kernel)) ?_
  intro p e s m below meth c s₁ hx hby hml hown hnm hlk hret hZ X0 e0
  have N0 := Fr.nil n0
  refine own_go (fun _ q => castTop (ef_1 m x) q) ?_
  show own_Go _ _ _ _ _ _ _ (s₁.setTop (mkF m 0 #[.val (.int x)] []))
  obtain ⟨Sh, ca, Sc, G, Ac, hel⟩ := HC
  refine own_go (fun _ q => XS.iloadN X0.here hx rfl (hb hby d1_0) rfl q) ?_
  show own_Go _ _ _ _ _ _ _ (s₁.setTop (mkF m 1 #[.val (.int x)] [(.int x)]))
  refine own_go (fun _ q => XS.bipush X0.here hx rfl (hb hby d1_1) q) ?_
  show own_Go _ _ _ _ _ _ _ (s₁.setTop (mkF m 3 #[.val (.int x)] [(.int (-128 : Int32)), (.int x)]))
  by_cases hlo : x < (-128 : Int32)
  · refine own_go (fun _ q => XS.icmpYes X0.here hx rfl (pc0 := 3) (pc' := 23) rfl (hb hby d1_3) rfl (tlt hlo).1 (by decide) (by decide) q) ?_
    show own_Go _ _ _ _ _ _ _ (s₁.setTop (mkF m 23 #[.val (.int x)] []))
    obtain ⟨T1, h1, X1, e1, E1, A1, D1, -, st1⟩ := newO X0 hx hZ hown (hw _ (List.mem_of_getElem? (i := 69) rfl)) (hw _ (List.mem_of_getElem? (i := 70) rfl)) (hw _ (List.mem_of_getElem? (i := 2) rfl)) e0 (g := (mkF m 23 #[.val (.int x)] [])) rfl (hb hby d1_23) (by decide) (by decide)
    obtain ⟨b1, g1⟩ : ∃ z, z = h0.size := ⟨_, rfl⟩
    rw [← g1] at A1 D1 st1
    have G1 : n0 ≤ b1 := by have := Z0; omega
    have Z1 : n0 ≤ h1.size := Nat.le_trans Z0 E1.1
    have Fn1_value : Fld Z h1 b1 "java/lang/Integer" "value" "I" (.int (0 : Int32)) := D1 (Or.inr (hw _ (List.mem_of_getElem? (i := 68) rfl))) (ty := .int) (by decide)
    refine own_go st1 ?_
    show own_Go _ _ _ _ _ _ _ (T1.setTop (mkF m 26 #[.val (.int x)] [(.ref b1)]))
    refine own_go (fun _ q => XS.dup X1.here hx rfl (hb hby d1_26) rfl rfl q) ?_
    show own_Go _ _ _ _ _ _ _ (T1.setTop (mkF m 27 #[.val (.int x)] [(.ref b1), (.ref b1)]))
    refine own_go (fun _ q => XS.iloadN X1.here hx rfl (hb hby d1_27) rfl q) ?_
    show own_Go _ _ _ _ _ _ _ (T1.setTop (mkF m 28 #[.val (.int x)] [(.int x), (.ref b1), (.ref b1)]))
    refine own_init X1 hx hZ rfl hown (hw _ (List.mem_of_getElem? (i := 71) rfl)) (hw _ (List.mem_of_getElem? (i := 72) rfl)) (hw _ (List.mem_of_getElem? (i := 2) rfl)) (hw _ (List.mem_of_getElem? (i := 73) rfl)) (by decide) e1 (a := b1) (argsL := [(.int x)]) (rest := [(.ref b1)]) (rm11 l Z a0 hw [] b1 x h1 n0 Z1 A1 Fn1_value G1) 1 (by decide) (by decide) (by decide) (by decide) (by rw [hml]; rfl) pd_1 rfl rfl (Nat.le_of_eq rfl) (hb hby d1_28) rfl ?_
    intro v2 T2 L2 X2 hQ2
    obtain ⟨rfl, N2q, K2, E2, F2⟩ := hQ2
    have N2 := Fr.app N0 N2q
    show own_Go _ _ _ _ _ _ _ (T2.setTop (mkF m 31 #[.val (.int x)] [(.ref b1)]))
    have K : Keep h0 T2.heap [] := ((Keep.refl h0 []).ext E1).trans K2 (fun x hx => Or.inr (by cases List.mem_singleton.mp hx; exact Nat.le_of_eq g1.symm))
    exact own_retR X2 hx hlk hret rfl rfl rfl (hb hby d1_31) (by decide) (by decide) ⟨b1, rfl, N2, own_keepExt K, E2, F2⟩
  · refine own_go (fun _ q => XS.icmpNo X0.here hx rfl (hb hby d1_3) rfl (flt hlo).1 q) ?_
    show own_Go _ _ _ _ _ _ _ (s₁.setTop (mkF m 6 #[.val (.int x)] []))
    refine own_go (fun _ q => XS.iloadN X0.here hx rfl (hb hby d1_6) rfl q) ?_
    show own_Go _ _ _ _ _ _ _ (s₁.setTop (mkF m 7 #[.val (.int x)] [(.int x)]))
    obtain ⟨T3, X3, e3, st3⟩ := getS2 X0 hx hZ hown (host := "") (Or.inl (hw _ (List.mem_of_getElem? (i := 4) rfl))) Via.refl e0 Sh (g := (mkF m 7 #[.val (.int x)] [(.int x)])) rfl (hb hby d1_7)
    refine own_go st3 ?_
    show own_Go _ _ _ _ _ _ _ (T3.setTop (mkF m 10 #[.val (.int x)] [(.int (127 : Int32)), (.int x)]))
    by_cases hhi : (127 : Int32) < x
    · refine own_go (fun _ q => XS.icmpYes X3.here hx rfl (pc0 := 10) (pc' := 23) rfl (hb hby d1_10) rfl (tlt hhi).2.2.1 (by decide) (by decide) q) ?_
      show own_Go _ _ _ _ _ _ _ (T3.setTop (mkF m 23 #[.val (.int x)] []))
      obtain ⟨T4, h4, X4, e4, E4, A4, D4, -, st4⟩ := newO X3 hx hZ hown (hw _ (List.mem_of_getElem? (i := 69) rfl)) (hw _ (List.mem_of_getElem? (i := 70) rfl)) (hw _ (List.mem_of_getElem? (i := 2) rfl)) e3 (g := (mkF m 23 #[.val (.int x)] [])) rfl (hb hby d1_23) (by decide) (by decide)
      obtain ⟨b4, g4⟩ : ∃ z, z = h0.size := ⟨_, rfl⟩
      rw [← g4] at A4 D4 st4
      have G4 : n0 ≤ b4 := by have := Z0; omega
      have Z4 : n0 ≤ h4.size := Nat.le_trans Z0 E4.1
      have Fn4_value : Fld Z h4 b4 "java/lang/Integer" "value" "I" (.int (0 : Int32)) := D4 (Or.inr (hw _ (List.mem_of_getElem? (i := 68) rfl))) (ty := .int) (by decide)
      refine own_go st4 ?_
      show own_Go _ _ _ _ _ _ _ (T4.setTop (mkF m 26 #[.val (.int x)] [(.ref b4)]))
      refine own_go (fun _ q => XS.dup X4.here hx rfl (hb hby d1_26) rfl rfl q) ?_
      show own_Go _ _ _ _ _ _ _ (T4.setTop (mkF m 27 #[.val (.int x)] [(.ref b4), (.ref b4)]))
      refine own_go (fun _ q => XS.iloadN X4.here hx rfl (hb hby d1_27) rfl q) ?_
      show own_Go _ _ _ _ _ _ _ (T4.setTop (mkF m 28 #[.val (.int x)] [(.int x), (.ref b4), (.ref b4)]))
      refine own_init X4 hx hZ rfl hown (hw _ (List.mem_of_getElem? (i := 71) rfl)) (hw _ (List.mem_of_getElem? (i := 72) rfl)) (hw _ (List.mem_of_getElem? (i := 2) rfl)) (hw _ (List.mem_of_getElem? (i := 73) rfl)) (by decide) e4 (a := b4) (argsL := [(.int x)]) (rest := [(.ref b4)]) (rm11 l Z a0 hw [] b4 x h4 n0 Z4 A4 Fn4_value G4) 1 (by decide) (by decide) (by decide) (by decide) (by rw [hml]; rfl) pd_1 rfl rfl (Nat.le_of_eq rfl) (hb hby d1_28) rfl ?_
      intro v5 T5 L5 X5 hQ5
      obtain ⟨rfl, N5q, K5, E5, F5⟩ := hQ5
      have N5 := Fr.app N0 N5q
      show own_Go _ _ _ _ _ _ _ (T5.setTop (mkF m 31 #[.val (.int x)] [(.ref b4)]))
      have K : Keep h0 T5.heap [] := ((Keep.refl h0 []).ext E4).trans K5 (fun x hx => Or.inr (by cases List.mem_singleton.mp hx; exact Nat.le_of_eq g4.symm))
      exact own_retR X5 hx hlk hret rfl rfl rfl (hb hby d1_31) (by decide) (by decide) ⟨b4, rfl, N5, own_keepExt K, E5, F5⟩
    · refine own_go (fun _ q => XS.icmpNo X3.here hx rfl (hb hby d1_10) rfl (flt hhi).2.2.1 q) ?_
      show own_Go _ _ _ _ _ _ _ (T3.setTop (mkF m 13 #[.val (.int x)] []))
      obtain ⟨T6, X6, e6, st6⟩ := getS2 X3 hx hZ hown (host := "") (Or.inl (hw _ (List.mem_of_getElem? (i := 6) rfl))) Via.refl e3 Sc (g := (mkF m 13 #[.val (.int x)] [])) rfl (hb hby d1_13)
      refine own_go st6 ?_
      show own_Go _ _ _ _ _ _ _ (T6.setTop (mkF m 16 #[.val (.int x)] [(.ref ca)]))
      refine own_go (fun _ q => XS.iloadN X6.here hx rfl (hb hby d1_16) rfl q) ?_
      show own_Go _ _ _ _ _ _ _ (T6.setTop (mkF m 17 #[.val (.int x)] [(.int x), (.ref ca)]))
      refine own_go (fun _ q => XS.sipush X6.here hx rfl (hb hby d1_17) q) ?_
      show own_Go _ _ _ _ _ _ _ (T6.setTop (mkF m 20 #[.val (.int x)] [(.int (128 : Int32)), (.int x), (.ref ca)]))
      refine own_go (fun _ q => XS.iadd X6.here hx rfl (hb hby d1_20) rfl q) ?_
      show own_Go _ _ _ _ _ _ _ (T6.setTop (mkF m 21 #[.val (.int x)] [(.int (x + (128 : Int32))), (.ref ca)]))
      obtain ⟨i, hi, hi256, hix⟩ := own_idx hlo hhi
      obtain ⟨bb, hF, Eb, Fb⟩ := hel i hi256
      refine own_aaload X6 hx hZ e6 rfl Ac hi hi256 hF (hb hby d1_21) rfl ?_
      show own_Go _ _ _ _ _ _ _ (T6.setTop (mkF m 22 #[.val (.int x)] [(.ref bb)]))
      exact own_retR X6 hx hlk hret rfl rfl rfl (hb hby d1_22) (by decide) (by decide) ⟨bb, rfl, N0, by rw [e6]; exact ⟨Nat.le_refl _, fun _ _ q => q⟩, by rw [e6]; exact Eb, by rw [e6, ← hix]; exact Fb⟩
theorem d2_0 : decode prog_136_method_1_code 0 = .ok (.aload_n 0, 1) := by decide +kernel
theorem d2_1 : decode prog_136_method_1_code 1 = .ok (.invokespecial 1, 3) := by decide +kernel
theorem d2_4 : decode prog_136_method_1_code 4 = .ok (.aload_n 0, 1) := by decide +kernel
theorem d2_5 : decode prog_136_method_1_code 5 = .ok (.bipush 16, 2) := by decide +kernel
theorem d2_7 : decode prog_136_method_1_code 7 = .ok (.anewarray 2, 3) := by decide +kernel
theorem d2_10 : decode prog_136_method_1_code 10 = .ok (.putfield 9, 3) := by decide +kernel
theorem d2_13 : decode prog_136_method_1_code 13 = .ok (.aload_n 0, 1) := by decide +kernel
theorem d2_14 : decode prog_136_method_1_code 14 = .ok (.bipush 16, 2) := by decide +kernel
theorem d2_16 : decode prog_136_method_1_code 16 = .ok (.newarray .long, 2) := by decide +kernel
theorem d2_18 : decode prog_136_method_1_code 18 = .ok (.putfield 13, 3) := by decide +kernel
theorem d2_21 : decode prog_136_method_1_code 21 = .ok (.aload_n 0, 1) := by decide +kernel
theorem d2_22 : decode prog_136_method_1_code 22 = .ok (.bipush 16, 2) := by decide +kernel
theorem d2_24 : decode prog_136_method_1_code 24 = .ok (.newarray .long, 2) := by decide +kernel
theorem d2_26 : decode prog_136_method_1_code 26 = .ok (.putfield 17, 3) := by decide +kernel
theorem d2_29 : decode prog_136_method_1_code 29 = .ok (.return_, 1) := by decide +kernel
def Q2 (Z : State) (o : Addr) (h0 : Heap) (n0 : Nat) (v : Option Value) (h : Heap) (L : List Loc) : Prop := v = none ∧ Fr n0 L ∧ Keep h0 h [o] ∧ ∃ ka fa sa : Addr, Exa Z h o "com/example/meldbook/meldbook/verdict/OffsetQueue" ∧ Fld Z h o "com/example/meldbook/meldbook/verdict/OffsetQueue" "kinds" "[Ljava/lang/Object;" (.ref ka) ∧ Fld Z h o "com/example/meldbook/meldbook/verdict/OffsetQueue" "firsts" "[J" (.ref fa) ∧ Fld Z h o "com/example/meldbook/meldbook/verdict/OffsetQueue" "seconds" "[J" (.ref sa) ∧ Fld Z h o "com/example/meldbook/meldbook/verdict/OffsetQueue" "head" "I" (.int 0) ∧ Fld Z h o "com/example/meldbook/meldbook/verdict/OffsetQueue" "count" "I" (.int 0) ∧ own_Ar Z h ka (.object "java/lang/Object") 16 (fun _ => .null) ∧ own_Ar Z h fa .long 16 (fun _ => .long 0) ∧ own_Ar Z h sa .long 16 (fun _ => .long 0) ∧ n0 ≤ ka ∧ n0 ≤ fa ∧ n0 ≤ sa ∧ h0.size ≤ ka ∧ h0.size ≤ fa ∧ h0.size ≤ sa ∧ ka ≠ fa ∧ ka ≠ sa ∧ fa ≠ sa ∧ (∀ y, Ins Z h y "java/lang/Object" true → Sto Z h ka (.ref y))
theorem ef_2 (m : MethodId) (x0 : Addr) : entryFrame m #[(.ref x0)] 1 = mkF m 0 #[.val (.ref x0)] [] := by first | (simp [entryFrame, mkF, argsToLocals, Value.category]; done) | rfl
set_option maxRecDepth 65536 in
set_option maxHeartbeats 40000000 in
theorem rm2 (l : Launch) (Z : State) (a0 : Array Value) (hw : ∀ d ∈ tables_1, d.before a0 Z = true) (ws : List Jvm.Cond) (o : Addr) (h0 : Heap) (n0 : Nat) (Z0 : n0 ≤ h0.size) (Eo : Exa Z h0 o "com/example/meldbook/meldbook/verdict/OffsetQueue") (Fk : Fld Z h0 o "com/example/meldbook/meldbook/verdict/OffsetQueue" "kinds" "[Ljava/lang/Object;" .null) (Ff : Fld Z h0 o "com/example/meldbook/meldbook/verdict/OffsetQueue" "firsts" "[J" .null) (Fs : Fld Z h0 o "com/example/meldbook/meldbook/verdict/OffsetQueue" "seconds" "[J" .null) (Fh : Fld Z h0 o "com/example/meldbook/meldbook/verdict/OffsetQueue" "head" "I" (.int 0)) (Fc : Fld Z h0 o "com/example/meldbook/meldbook/verdict/OffsetQueue" "count" "I" (.int 0)) (go : n0 ≤ o) :
    own_Met l Z (⟨"com/example/meldbook/meldbook/verdict/OffsetQueue", "<init>", "()V"⟩ : MethodName) prog_136_method_1_code 1 none ({ frames := 1, cells := 3, slots := 48, locals := 14 } : Room) ws #[(.ref o)] h0 (Q2 Z o h0 n0) := by
  refine own_enter (plainFor_of_name (by first | (simp [plainName, overriddenIn]; done) | decide +kernel)) ?_
  intro p e s m below meth c s₁ hx hby hml hown hnm hlk hret hZ X0 e0
  have N0 := Fr.nil n0
  refine own_go (fun _ q => castTop (ef_2 m o) q) ?_
  show own_Go _ _ _ _ _ _ _ (s₁.setTop (mkF m 0 #[.val (.ref o)] []))
  refine own_go (fun _ q => XS.aloadN X0.here hx rfl (hb hby d2_0) rfl rfl q) ?_
  show own_Go _ _ _ _ _ _ _ (s₁.setTop (mkF m 1 #[.val (.ref o)] [(.ref o)]))
  obtain ⟨T1, X1, e1, st1⟩ := initO X0 hx hZ hown (hw _ (List.mem_of_getElem? (i := 13) rfl)) (hw _ (List.mem_of_getElem? (i := 14) rfl)) (hw _ (List.mem_of_getElem? (i := 15) rfl)) e0 (g := (mkF m 1 #[.val (.ref o)] [(.ref o)])) rfl (by rw [hml]; rfl) rfl (hb hby d2_1) (by decide) (W := 0) (by show 2 * 0 + _ ≤ _; exact Nat.le_of_eq rfl) (by decide)
  refine own_go st1 ?_
  show own_Go _ _ _ _ _ _ _ (T1.setTop (mkF m 4 #[.val (.ref o)] []))
  refine own_go (fun _ q => XS.aloadN X1.here hx rfl (hb hby d2_4) rfl rfl q) ?_
  show own_Go _ _ _ _ _ _ _ (T1.setTop (mkF m 5 #[.val (.ref o)] [(.ref o)]))
  refine own_go (fun _ q => XS.bipush X1.here hx rfl (hb hby d2_5) q) ?_
  show own_Go _ _ _ _ _ _ _ (T1.setTop (mkF m 7 #[.val (.ref o)] [(.int (16 : Int32)), (.ref o)]))
  obtain ⟨T2, h2, k2, X2, e2, E2, Aw2, O2, st2⟩ := newR X1 hx hZ hown (hw _ (List.mem_of_getElem? (i := 16) rfl)) (hw _ (List.mem_of_getElem? (i := 17) rfl)) e1 (g := (mkF m 7 #[.val (.ref o)] [(.int (16 : Int32)), (.ref o)])) rfl (hb hby d2_7) rfl (by decide) (cap := 16) (by decide) (by decide) (by decide) (by decide)
  obtain ⟨b2, g2⟩ : ∃ z, z = h0.size := ⟨_, rfl⟩
  rw [← g2] at Aw2 st2
  have A2 := own_Ar.new (nn := 16) Aw2 (by decide) rfl
  have nq3 : o ≠ b2 := Nat.ne_of_lt (Nat.lt_of_lt_of_eq (Eo).lt g2.symm)
  have G2 : n0 ≤ b2 := by have := Z0; omega
  have Z2 : n0 ≤ h2.size := Nat.le_trans Z0 E2.1
  refine own_go st2 ?_
  show own_Go _ _ _ _ _ _ _ (T2.setTop (mkF m 10 #[.val (.ref o)] [(.ref b2), (.ref o)]))
  have f5 := (Fk.ext E2)
  have f6 := (Eo.ext E2)
  obtain ⟨T4, h4, X4, e4, W4, st4⟩ := putF X2 hx hZ hown (host := "") (Or.inl (hw _ (List.mem_of_getElem? (i := 18) rfl))) Via.refl e2 f5 f6 (Or.inl (hw _ (List.mem_of_getElem? (i := 19) rfl))) (hw _ (List.mem_of_getElem? (i := 8) rfl)) (ty := (.array (.object "java/lang/Object"))) (by decide) rfl rfl (g := (mkF m 10 #[.val (.ref o)] [(.ref b2), (.ref o)])) rfl rfl (hb hby d2_10)
  have N4 := Fr.snoc X4 N0 go
  have Fw4 := f5.same W4
  have Z4 : n0 ≤ h4.size := by rw [W4.size]; exact Z2
  refine own_go st4 ?_
  show own_Go _ _ _ _ _ _ _ (T4.setTop (mkF m 13 #[.val (.ref o)] []))
  refine own_go (fun _ q => XS.aloadN X4.here hx rfl (hb hby d2_13) rfl rfl q) ?_
  show own_Go _ _ _ _ _ _ _ (T4.setTop (mkF m 14 #[.val (.ref o)] [(.ref o)]))
  refine own_go (fun _ q => XS.bipush X4.here hx rfl (hb hby d2_14) q) ?_
  show own_Go _ _ _ _ _ _ _ (T4.setTop (mkF m 16 #[.val (.ref o)] [(.int (16 : Int32)), (.ref o)]))
  obtain ⟨T7, h7, k7, X7, e7, E7, Aw7, st7⟩ := newP X4 hx hZ (hw _ (List.mem_of_getElem? (i := 20) rfl)) e4 (g := (mkF m 16 #[.val (.ref o)] [(.int (16 : Int32)), (.ref o)])) rfl (hb hby d2_16) rfl (by decide) (cap := 16) (by decide) (by decide) (by decide) (by decide)
  obtain ⟨b7, g7⟩ : ∃ z, z = h4.size := ⟨_, rfl⟩
  rw [← g7] at Aw7 st7
  have A7 := own_Ar.new (nn := 16) Aw7 (by decide) rfl
  have f8 := (A2.other W4 (Ne.symm nq3))
  have nq9 : b2 ≠ b7 := Nat.ne_of_lt (Nat.lt_of_lt_of_eq (f8).lt g7.symm)
  have f10 := (f6.wr W4)
  have nq11 : o ≠ b7 := Nat.ne_of_lt (Nat.lt_of_lt_of_eq (f10).lt g7.symm)
  have G7 : n0 ≤ b7 := by have := Z4; omega
  have Z7 : n0 ≤ h7.size := Nat.le_trans Z4 E7.1
  refine own_go st7 ?_
  show own_Go _ _ _ _ _ _ _ (T7.setTop (mkF m 18 #[.val (.ref o)] [(.ref b7), (.ref o)]))
  have f13 := (((Ff.ext E2).other W4 (Or.inr (slot_ne (Or.inl (hw _ (List.mem_of_getElem? (i := 22) rfl))) (Or.inl (hw _ (List.mem_of_getElem? (i := 19) rfl))) (by decide) (t := (.array .long)) (t' := (.array (.object "java/lang/Object"))) (by decide) (by decide)))).ext E7)
  have f14 := (f10.ext E7)
  obtain ⟨T12, h12, X12, e12, W12, st12⟩ := putF X7 hx hZ hown (host := "") (Or.inl (hw _ (List.mem_of_getElem? (i := 21) rfl))) Via.refl e7 f13 f14 (Or.inl (hw _ (List.mem_of_getElem? (i := 22) rfl))) (hw _ (List.mem_of_getElem? (i := 8) rfl)) (ty := (.array .long)) (by decide) rfl rfl (g := (mkF m 18 #[.val (.ref o)] [(.ref b7), (.ref o)])) rfl rfl (hb hby d2_18)
  have N12 := Fr.snoc X12 N4 go
  have Fw12 := f13.same W12
  have Z12 : n0 ≤ h12.size := by rw [W12.size]; exact Z7
  refine own_go st12 ?_
  show own_Go _ _ _ _ _ _ _ (T12.setTop (mkF m 21 #[.val (.ref o)] []))
  refine own_go (fun _ q => XS.aloadN X12.here hx rfl (hb hby d2_21) rfl rfl q) ?_
  show own_Go _ _ _ _ _ _ _ (T12.setTop (mkF m 22 #[.val (.ref o)] [(.ref o)]))
  refine own_go (fun _ q => XS.bipush X12.here hx rfl (hb hby d2_22) q) ?_
  show own_Go _ _ _ _ _ _ _ (T12.setTop (mkF m 24 #[.val (.ref o)] [(.int (16 : Int32)), (.ref o)]))
  obtain ⟨T15, h15, k15, X15, e15, E15, Aw15, st15⟩ := newP X12 hx hZ (hw _ (List.mem_of_getElem? (i := 20) rfl)) e12 (g := (mkF m 24 #[.val (.ref o)] [(.int (16 : Int32)), (.ref o)])) rfl (hb hby d2_24) rfl (by decide) (cap := 16) (by decide) (by decide) (by decide) (by decide)
  obtain ⟨b15, g15⟩ : ∃ z, z = h12.size := ⟨_, rfl⟩
  rw [← g15] at Aw15 st15
  have A15 := own_Ar.new (nn := 16) Aw15 (by decide) rfl
  have f16 := ((f8.ext E7).other W12 (Ne.symm nq3))
  have nq17 : b2 ≠ b15 := Nat.ne_of_lt (Nat.lt_of_lt_of_eq (f16).lt g15.symm)
  have f18 := (A7.other W12 (Ne.symm nq11))
  have nq19 : b7 ≠ b15 := Nat.ne_of_lt (Nat.lt_of_lt_of_eq (f18).lt g15.symm)
  have f20 := (f14.wr W12)
  have nq21 : o ≠ b15 := Nat.ne_of_lt (Nat.lt_of_lt_of_eq (f20).lt g15.symm)
  have G15 : n0 ≤ b15 := by have := Z12; omega
  have Z15 : n0 ≤ h15.size := Nat.le_trans Z12 E15.1
  refine own_go st15 ?_
  show own_Go _ _ _ _ _ _ _ (T15.setTop (mkF m 26 #[.val (.ref o)] [(.ref b15), (.ref o)]))
  have f23 := (((((Fs.ext E2).other W4 (Or.inr (slot_ne (Or.inl (hw _ (List.mem_of_getElem? (i := 24) rfl))) (Or.inl (hw _ (List.mem_of_getElem? (i := 19) rfl))) (by decide) (t := (.array .long)) (t' := (.array (.object "java/lang/Object"))) (by decide) (by decide)))).ext E7).other W12 (Or.inr (slot_ne (Or.inl (hw _ (List.mem_of_getElem? (i := 24) rfl))) (Or.inl (hw _ (List.mem_of_getElem? (i := 22) rfl))) (by decide) (t := (.array .long)) (t' := (.array .long)) (by decide) (by decide)))).ext E15)
  have f24 := (f20.ext E15)
  obtain ⟨T22, h22, X22, e22, W22, st22⟩ := putF X15 hx hZ hown (host := "") (Or.inl (hw _ (List.mem_of_getElem? (i := 23) rfl))) Via.refl e15 f23 f24 (Or.inl (hw _ (List.mem_of_getElem? (i := 24) rfl))) (hw _ (List.mem_of_getElem? (i := 8) rfl)) (ty := (.array .long)) (by decide) rfl rfl (g := (mkF m 26 #[.val (.ref o)] [(.ref b15), (.ref o)])) rfl rfl (hb hby d2_26)
  have N22 := Fr.snoc X22 N12 go
  have Fw22 := f23.same W22
  have Z22 : n0 ≤ h22.size := by rw [W22.size]; exact Z15
  refine own_go st22 ?_
  show own_Go _ _ _ _ _ _ _ (T22.setTop (mkF m 29 #[.val (.ref o)] []))
  have f25 := (f24.wr W22)
  have f26 := ((((Fw4.ext E7).other W12 (Or.inr (slot_ne (Or.inl (hw _ (List.mem_of_getElem? (i := 19) rfl))) (Or.inl (hw _ (List.mem_of_getElem? (i := 22) rfl))) (by decide) (t := (.array (.object "java/lang/Object"))) (t' := (.array .long)) (by decide) (by decide)))).ext E15).other W22 (Or.inr (slot_ne (Or.inl (hw _ (List.mem_of_getElem? (i := 19) rfl))) (Or.inl (hw _ (List.mem_of_getElem? (i := 24) rfl))) (by decide) (t := (.array (.object "java/lang/Object"))) (t' := (.array .long)) (by decide) (by decide))))
  have f27 := ((Fw12.ext E15).other W22 (Or.inr (slot_ne (Or.inl (hw _ (List.mem_of_getElem? (i := 22) rfl))) (Or.inl (hw _ (List.mem_of_getElem? (i := 24) rfl))) (by decide) (t := (.array .long)) (t' := (.array .long)) (by decide) (by decide))))
  have f28 := ((((((Fh.ext E2).other W4 (Or.inr (slot_ne (Or.inl (hw _ (List.mem_of_getElem? (i := 31) rfl))) (Or.inl (hw _ (List.mem_of_getElem? (i := 19) rfl))) (by decide) (t := .int) (t' := (.array (.object "java/lang/Object"))) (by decide) (by decide)))).ext E7).other W12 (Or.inr (slot_ne (Or.inl (hw _ (List.mem_of_getElem? (i := 31) rfl))) (Or.inl (hw _ (List.mem_of_getElem? (i := 22) rfl))) (by decide) (t := .int) (t' := (.array .long)) (by decide) (by decide)))).ext E15).other W22 (Or.inr (slot_ne (Or.inl (hw _ (List.mem_of_getElem? (i := 31) rfl))) (Or.inl (hw _ (List.mem_of_getElem? (i := 24) rfl))) (by decide) (t := .int) (t' := (.array .long)) (by decide) (by decide))))
  have f29 := ((((((Fc.ext E2).other W4 (Or.inr (slot_ne (Or.inl (hw _ (List.mem_of_getElem? (i := 33) rfl))) (Or.inl (hw _ (List.mem_of_getElem? (i := 19) rfl))) (by decide) (t := .int) (t' := (.array (.object "java/lang/Object"))) (by decide) (by decide)))).ext E7).other W12 (Or.inr (slot_ne (Or.inl (hw _ (List.mem_of_getElem? (i := 33) rfl))) (Or.inl (hw _ (List.mem_of_getElem? (i := 22) rfl))) (by decide) (t := .int) (t' := (.array .long)) (by decide) (by decide)))).ext E15).other W22 (Or.inr (slot_ne (Or.inl (hw _ (List.mem_of_getElem? (i := 33) rfl))) (Or.inl (hw _ (List.mem_of_getElem? (i := 24) rfl))) (by decide) (t := .int) (t' := (.array .long)) (by decide) (by decide))))
  have f30 := ((f16.ext E15).other W22 (Ne.symm nq3))
  have f31 := ((f18.ext E15).other W22 (Ne.symm nq11))
  have f32 := (A15.other W22 (Ne.symm nq21))
  have sz1 : h0.size ≤ b2 := Nat.le_of_eq g2.symm
  have szz : h0.size ≤ h22.size ∧ h0.size ≤ b7 ∧ h0.size ≤ b15 := by have := E2.1; have := W4.size; have := E7.1; have := W12.size; have := E15.1; have := W22.size; omega
  have Kk : Keep h0 h22 [o] := (((((((Keep.refl h0 [o]).ext E2).wr W4 (Or.inl (by simp))).ext E7).wr W12 (Or.inl (by simp))).ext E15).wr W22 (Or.inl (by simp)))
  have STO := own_sto (C := "java/lang/Object") Aw2 O2 ((((((Keep.refl h2 [o]).wr W4 (Or.inl (by simp))).ext E7).wr W12 (Or.inl (by simp))).ext E15).wr W22 (Or.inl (by simp)))
  subst e22
  exact own_retV X22 hx hlk hret (hb hby d2_29) (by decide) (by decide) ⟨rfl, N22, Kk, b2, b7, b15, f25, f26, f27, Fw22, f28, f29, f30.eqv fun _ _ => rfl, f31.eqv fun _ _ => rfl, f32.eqv fun _ _ => rfl, G2, G7, G15, sz1, szz.2.1, szz.2.2, nq9, nq17, nq19, STO⟩
theorem d4_0 : decode prog_136_method_3_code 0 = .ok (.aload_n 0, 1) := by decide +kernel
theorem d4_1 : decode prog_136_method_3_code 1 = .ok (.getfield 20, 3) := by decide +kernel
theorem d4_4 : decode prog_136_method_3_code 4 = .ok (.aload_n 0, 1) := by decide +kernel
theorem d4_5 : decode prog_136_method_3_code 5 = .ok (.getfield 24, 3) := by decide +kernel
theorem d4_8 : decode prog_136_method_3_code 8 = .ok (.iadd, 1) := by decide +kernel
theorem d4_9 : decode prog_136_method_3_code 9 = .ok (.aload_n 0, 1) := by decide +kernel
theorem d4_10 : decode prog_136_method_3_code 10 = .ok (.getfield 9, 3) := by decide +kernel
theorem d4_13 : decode prog_136_method_3_code 13 = .ok (.arraylength, 1) := by decide +kernel
theorem d4_14 : decode prog_136_method_3_code 14 = .ok (.if_icmp .ne 7, 3) := by decide +kernel
theorem d4_17 : decode prog_136_method_3_code 17 = .ok (.aload_n 0, 1) := by decide +kernel
theorem d4_18 : decode prog_136_method_3_code 18 = .ok (.invokevirtual 27, 3) := by decide +kernel
theorem d4_21 : decode prog_136_method_3_code 21 = .ok (.aload_n 0, 1) := by decide +kernel
theorem d4_22 : decode prog_136_method_3_code 22 = .ok (.getfield 9, 3) := by decide +kernel
theorem d4_25 : decode prog_136_method_3_code 25 = .ok (.aload_n 0, 1) := by decide +kernel
theorem d4_26 : decode prog_136_method_3_code 26 = .ok (.getfield 20, 3) := by decide +kernel
theorem d4_29 : decode prog_136_method_3_code 29 = .ok (.aload_n 0, 1) := by decide +kernel
theorem d4_30 : decode prog_136_method_3_code 30 = .ok (.getfield 24, 3) := by decide +kernel
theorem d4_33 : decode prog_136_method_3_code 33 = .ok (.iadd, 1) := by decide +kernel
theorem d4_34 : decode prog_136_method_3_code 34 = .ok (.aload_n 1, 1) := by decide +kernel
theorem d4_35 : decode prog_136_method_3_code 35 = .ok (.aastore, 1) := by decide +kernel
theorem d4_36 : decode prog_136_method_3_code 36 = .ok (.aload_n 0, 1) := by decide +kernel
theorem d4_37 : decode prog_136_method_3_code 37 = .ok (.getfield 13, 3) := by decide +kernel
theorem d4_40 : decode prog_136_method_3_code 40 = .ok (.aload_n 0, 1) := by decide +kernel
theorem d4_41 : decode prog_136_method_3_code 41 = .ok (.getfield 20, 3) := by decide +kernel
theorem d4_44 : decode prog_136_method_3_code 44 = .ok (.aload_n 0, 1) := by decide +kernel
theorem d4_45 : decode prog_136_method_3_code 45 = .ok (.getfield 24, 3) := by decide +kernel
theorem d4_48 : decode prog_136_method_3_code 48 = .ok (.iadd, 1) := by decide +kernel
theorem d4_49 : decode prog_136_method_3_code 49 = .ok (.lload_n 2, 1) := by decide +kernel
theorem d4_50 : decode prog_136_method_3_code 50 = .ok (.lastore, 1) := by decide +kernel
theorem d4_51 : decode prog_136_method_3_code 51 = .ok (.aload_n 0, 1) := by decide +kernel
theorem d4_52 : decode prog_136_method_3_code 52 = .ok (.getfield 17, 3) := by decide +kernel
theorem d4_55 : decode prog_136_method_3_code 55 = .ok (.aload_n 0, 1) := by decide +kernel
theorem d4_56 : decode prog_136_method_3_code 56 = .ok (.getfield 20, 3) := by decide +kernel
theorem d4_59 : decode prog_136_method_3_code 59 = .ok (.aload_n 0, 1) := by decide +kernel
theorem d4_60 : decode prog_136_method_3_code 60 = .ok (.getfield 24, 3) := by decide +kernel
theorem d4_63 : decode prog_136_method_3_code 63 = .ok (.iadd, 1) := by decide +kernel
theorem d4_64 : decode prog_136_method_3_code 64 = .ok (.lload 4, 2) := by decide +kernel
theorem d4_66 : decode prog_136_method_3_code 66 = .ok (.lastore, 1) := by decide +kernel
theorem d4_67 : decode prog_136_method_3_code 67 = .ok (.aload_n 0, 1) := by decide +kernel
theorem d4_68 : decode prog_136_method_3_code 68 = .ok (.dup, 1) := by decide +kernel
theorem d4_69 : decode prog_136_method_3_code 69 = .ok (.getfield 24, 3) := by decide +kernel
theorem d4_72 : decode prog_136_method_3_code 72 = .ok (.iconst 1, 1) := by decide +kernel
theorem d4_73 : decode prog_136_method_3_code 73 = .ok (.iadd, 1) := by decide +kernel
theorem d4_74 : decode prog_136_method_3_code 74 = .ok (.putfield 24, 3) := by decide +kernel
theorem d4_77 : decode prog_136_method_3_code 77 = .ok (.return_, 1) := by decide +kernel
def Q4 (Z : State) (o : Addr) (ka : Addr) (fa : Addr) (sa : Addr) (zh : Int32) (zc : Int32) (K : Nat → Value) (F : Nat → Int64) (S : Nat → Int64) (a : Addr) (f1 : Int64) (s1 : Int64) (i : Nat) (h0 : Heap) (n0 : Nat) (v : Option Value) (h : Heap) (L : List Loc) : Prop := v = none ∧ Fr n0 L ∧ Keep h0 h [o, ka, fa, sa] ∧ Exa Z h o "com/example/meldbook/meldbook/verdict/OffsetQueue" ∧ Fld Z h o "com/example/meldbook/meldbook/verdict/OffsetQueue" "kinds" "[Ljava/lang/Object;" (.ref ka) ∧ Fld Z h o "com/example/meldbook/meldbook/verdict/OffsetQueue" "firsts" "[J" (.ref fa) ∧ Fld Z h o "com/example/meldbook/meldbook/verdict/OffsetQueue" "seconds" "[J" (.ref sa) ∧ Fld Z h o "com/example/meldbook/meldbook/verdict/OffsetQueue" "head" "I" (.int zh) ∧ Fld Z h o "com/example/meldbook/meldbook/verdict/OffsetQueue" "count" "I" (.int (zc + 1)) ∧ own_Ar Z h ka (.object "java/lang/Object") 16 (fun j => if j = i then .ref a else K j) ∧ own_Ar Z h fa .long 16 (fun j => .long (if j = i then f1 else F j)) ∧ own_Ar Z h sa .long 16 (fun j => .long (if j = i then s1 else S j)) ∧ ∀ y, Sto Z h0 ka y → Sto Z h ka y
theorem ef_4 (m : MethodId) (x0 : Addr) (x1 : Addr) (x2 : Int64) (x3 : Int64) : entryFrame m #[(.ref x0), (.ref x1), (.long x2), (.long x3)] 6 = mkF m 0 #[.val (.ref x0), .val (.ref x1), .val (.long x2), .second, .val (.long x3), .second] [] := by first | (simp [entryFrame, mkF, argsToLocals, Value.category]; done) | rfl
set_option maxRecDepth 65536 in
set_option maxHeartbeats 40000000 in
theorem rm4 (l : Launch) (Z : State) (a0 : Array Value) (hw : ∀ d ∈ tables_1, d.before a0 Z = true) (ws : List Jvm.Cond) (o : Addr) (ka : Addr) (fa : Addr) (sa : Addr) (zh : Int32) (zc : Int32) (K : Nat → Value) (F : Nat → Int64) (S : Nat → Int64) (a : Addr) (f1 : Int64) (s1 : Int64) (i : Nat) (h0 : Heap) (n0 : Nat) (Z0 : n0 ≤ h0.size) (Eo : Exa Z h0 o "com/example/meldbook/meldbook/verdict/OffsetQueue") (Fk : Fld Z h0 o "com/example/meldbook/meldbook/verdict/OffsetQueue" "kinds" "[Ljava/lang/Object;" (.ref ka)) (Ff : Fld Z h0 o "com/example/meldbook/meldbook/verdict/OffsetQueue" "firsts" "[J" (.ref fa)) (Fs : Fld Z h0 o "com/example/meldbook/meldbook/verdict/OffsetQueue" "seconds" "[J" (.ref sa)) (Fh : Fld Z h0 o "com/example/meldbook/meldbook/verdict/OffsetQueue" "head" "I" (.int zh)) (Fc : Fld Z h0 o "com/example/meldbook/meldbook/verdict/OffsetQueue" "count" "I" (.int zc)) (Ak : own_Ar Z h0 ka (.object "java/lang/Object") 16 K) (Af : own_Ar Z h0 fa .long 16 (fun j => .long (F j))) (As : own_Ar Z h0 sa .long 16 (fun j => .long (S j))) (ne1 : o ≠ ka) (ne2 : o ≠ fa) (ne3 : o ≠ sa) (ne4 : ka ≠ fa) (ne5 : ka ≠ sa) (ne6 : fa ≠ sa) (go : n0 ≤ o) (gk : n0 ≤ ka) (gf : n0 ≤ fa) (gs : n0 ≤ sa) (hi : (zh + zc).toInt = (i : Int)) (hi16 : i < 16) (ST : Sto Z h0 ka (.ref a)) :
    own_Met l Z (⟨"com/example/meldbook/meldbook/verdict/OffsetQueue", "add", "(Ljava/lang/Object;JJ)V"⟩ : MethodName) prog_136_method_3_code 6 none ({ frames := 0, cells := 0, slots := 0, locals := 0 } : Room) ws #[(.ref o), (.ref a), (.long f1), (.long s1)] h0 (Q4 Z o ka fa sa zh zc K F S a f1 s1 i h0 n0) := by
  refine own_enter (plainFor_of_name (by first | (simp [plainName, overriddenIn]; done) | decide +kernel)) ?_
  intro p e s m below meth c s₁ hx hby hml hown hnm hlk hret hZ X0 e0
  have N0 := Fr.nil n0
  refine own_go (fun _ q => castTop (ef_4 m o a f1 s1) q) ?_
  show own_Go _ _ _ _ _ _ _ (s₁.setTop (mkF m 0 #[.val (.ref o), .val (.ref a), .val (.long f1), .second, .val (.long s1), .second] []))
  refine own_go (fun _ q => XS.aloadN X0.here hx rfl (hb hby d4_0) rfl rfl q) ?_
  show own_Go _ _ _ _ _ _ _ (s₁.setTop (mkF m 1 #[.val (.ref o), .val (.ref a), .val (.long f1), .second, .val (.long s1), .second] [(.ref o)]))
  obtain ⟨T1, X1, e1, st1⟩ := getF X0 hx hZ hown (host := "") (Or.inl (hw _ (List.mem_of_getElem? (i := 30) rfl))) Via.refl e0 Fh (g := (mkF m 1 #[.val (.ref o), .val (.ref a), .val (.long f1), .second, .val (.long s1), .second] [(.ref o)])) rfl rfl (hb hby d4_1)
  refine own_go st1 ?_
  show own_Go _ _ _ _ _ _ _ (T1.setTop (mkF m 4 #[.val (.ref o), .val (.ref a), .val (.long f1), .second, .val (.long s1), .second] [(.int zh)]))
  refine own_go (fun _ q => XS.aloadN X1.here hx rfl (hb hby d4_4) rfl rfl q) ?_
  show own_Go _ _ _ _ _ _ _ (T1.setTop (mkF m 5 #[.val (.ref o), .val (.ref a), .val (.long f1), .second, .val (.long s1), .second] [(.ref o), (.int zh)]))
  obtain ⟨T2, X2, e2, st2⟩ := getF X1 hx hZ hown (host := "") (Or.inl (hw _ (List.mem_of_getElem? (i := 32) rfl))) Via.refl e1 Fc (g := (mkF m 5 #[.val (.ref o), .val (.ref a), .val (.long f1), .second, .val (.long s1), .second] [(.ref o), (.int zh)])) rfl rfl (hb hby d4_5)
  refine own_go st2 ?_
  show own_Go _ _ _ _ _ _ _ (T2.setTop (mkF m 8 #[.val (.ref o), .val (.ref a), .val (.long f1), .second, .val (.long s1), .second] [(.int zc), (.int zh)]))
  refine own_go (fun _ q => XS.iadd X2.here hx rfl (hb hby d4_8) rfl q) ?_
  show own_Go _ _ _ _ _ _ _ (T2.setTop (mkF m 9 #[.val (.ref o), .val (.ref a), .val (.long f1), .second, .val (.long s1), .second] [(.int (zh + zc))]))
  refine own_go (fun _ q => XS.aloadN X2.here hx rfl (hb hby d4_9) rfl rfl q) ?_
  show own_Go _ _ _ _ _ _ _ (T2.setTop (mkF m 10 #[.val (.ref o), .val (.ref a), .val (.long f1), .second, .val (.long s1), .second] [(.ref o), (.int (zh + zc))]))
  obtain ⟨T3, X3, e3, st3⟩ := getF X2 hx hZ hown (host := "") (Or.inl (hw _ (List.mem_of_getElem? (i := 18) rfl))) Via.refl e2 Fk (g := (mkF m 10 #[.val (.ref o), .val (.ref a), .val (.long f1), .second, .val (.long s1), .second] [(.ref o), (.int (zh + zc))])) rfl rfl (hb hby d4_10)
  refine own_go st3 ?_
  show own_Go _ _ _ _ _ _ _ (T3.setTop (mkF m 13 #[.val (.ref o), .val (.ref a), .val (.long f1), .second, .val (.long s1), .second] [(.ref ka), (.int (zh + zc))]))
  refine own_length (z := (16 : Int32)) X3 hx hZ e3 Ak rfl (hb hby d4_13) rfl ?_
  show own_Go _ _ _ _ _ _ _ (T3.setTop (mkF m 14 #[.val (.ref o), .val (.ref a), .val (.long f1), .second, .val (.long s1), .second] [(.int (16 : Int32)), (.int (zh + zc))]))
  refine own_go (fun _ q => XS.icmpYes X3.here hx rfl (pc0 := 14) (pc' := 21) rfl (hb hby d4_14) rfl (feq (own_ne (x := zh + zc) (y := 16) (by rw [hi]; have : (16 : Int32).toInt = 16 := rfl; omega))).2 (by decide) (by decide) q) ?_
  show own_Go _ _ _ _ _ _ _ (T3.setTop (mkF m 21 #[.val (.ref o), .val (.ref a), .val (.long f1), .second, .val (.long s1), .second] []))
  refine own_go (fun _ q => XS.aloadN X3.here hx rfl (hb hby d4_21) rfl rfl q) ?_
  show own_Go _ _ _ _ _ _ _ (T3.setTop (mkF m 22 #[.val (.ref o), .val (.ref a), .val (.long f1), .second, .val (.long s1), .second] [(.ref o)]))
  obtain ⟨T4, X4, e4, st4⟩ := getF X3 hx hZ hown (host := "") (Or.inl (hw _ (List.mem_of_getElem? (i := 18) rfl))) Via.refl e3 Fk (g := (mkF m 22 #[.val (.ref o), .val (.ref a), .val (.long f1), .second, .val (.long s1), .second] [(.ref o)])) rfl rfl (hb hby d4_22)
  refine own_go st4 ?_
  show own_Go _ _ _ _ _ _ _ (T4.setTop (mkF m 25 #[.val (.ref o), .val (.ref a), .val (.long f1), .second, .val (.long s1), .second] [(.ref ka)]))
  refine own_go (fun _ q => XS.aloadN X4.here hx rfl (hb hby d4_25) rfl rfl q) ?_
  show own_Go _ _ _ _ _ _ _ (T4.setTop (mkF m 26 #[.val (.ref o), .val (.ref a), .val (.long f1), .second, .val (.long s1), .second] [(.ref o), (.ref ka)]))
  obtain ⟨T5, X5, e5, st5⟩ := getF X4 hx hZ hown (host := "") (Or.inl (hw _ (List.mem_of_getElem? (i := 30) rfl))) Via.refl e4 Fh (g := (mkF m 26 #[.val (.ref o), .val (.ref a), .val (.long f1), .second, .val (.long s1), .second] [(.ref o), (.ref ka)])) rfl rfl (hb hby d4_26)
  refine own_go st5 ?_
  show own_Go _ _ _ _ _ _ _ (T5.setTop (mkF m 29 #[.val (.ref o), .val (.ref a), .val (.long f1), .second, .val (.long s1), .second] [(.int zh), (.ref ka)]))
  refine own_go (fun _ q => XS.aloadN X5.here hx rfl (hb hby d4_29) rfl rfl q) ?_
  show own_Go _ _ _ _ _ _ _ (T5.setTop (mkF m 30 #[.val (.ref o), .val (.ref a), .val (.long f1), .second, .val (.long s1), .second] [(.ref o), (.int zh), (.ref ka)]))
  obtain ⟨T6, X6, e6, st6⟩ := getF X5 hx hZ hown (host := "") (Or.inl (hw _ (List.mem_of_getElem? (i := 32) rfl))) Via.refl e5 Fc (g := (mkF m 30 #[.val (.ref o), .val (.ref a), .val (.long f1), .second, .val (.long s1), .second] [(.ref o), (.int zh), (.ref ka)])) rfl rfl (hb hby d4_30)
  refine own_go st6 ?_
  show own_Go _ _ _ _ _ _ _ (T6.setTop (mkF m 33 #[.val (.ref o), .val (.ref a), .val (.long f1), .second, .val (.long s1), .second] [(.int zc), (.int zh), (.ref ka)]))
  refine own_go (fun _ q => XS.iadd X6.here hx rfl (hb hby d4_33) rfl q) ?_
  show own_Go _ _ _ _ _ _ _ (T6.setTop (mkF m 34 #[.val (.ref o), .val (.ref a), .val (.long f1), .second, .val (.long s1), .second] [(.int (zh + zc)), (.ref ka)]))
  refine own_go (fun _ q => XS.aloadN X6.here hx rfl (hb hby d4_34) rfl rfl q) ?_
  show own_Go _ _ _ _ _ _ _ (T6.setTop (mkF m 35 #[.val (.ref o), .val (.ref a), .val (.long f1), .second, .val (.long s1), .second] [(.ref a), (.int (zh + zc)), (.ref ka)]))
  refine own_aastore X6 hx hZ e6 (i := i) rfl Ak ST hi hi16 (hb hby d4_35) rfl ?_
  intro T7 h7 X7 e7 W7 A7
  have N7 := Fr.snoc X7 N0 gk
  have Z7 : n0 ≤ h7.size := by rw [W7.size]; exact Z0
  show own_Go _ _ _ _ _ _ _ (T7.setTop (mkF m 36 #[.val (.ref o), .val (.ref a), .val (.long f1), .second, .val (.long s1), .second] []))
  refine own_go (fun _ q => XS.aloadN X7.here hx rfl (hb hby d4_36) rfl rfl q) ?_
  show own_Go _ _ _ _ _ _ _ (T7.setTop (mkF m 37 #[.val (.ref o), .val (.ref a), .val (.long f1), .second, .val (.long s1), .second] [(.ref o)]))
  have f9 := (Ff.other W7 (Or.inl ne1))
  obtain ⟨T8, X8, e8, st8⟩ := getF X7 hx hZ hown (host := "") (Or.inl (hw _ (List.mem_of_getElem? (i := 21) rfl))) Via.refl e7 f9 (g := (mkF m 37 #[.val (.ref o), .val (.ref a), .val (.long f1), .second, .val (.long s1), .second] [(.ref o)])) rfl rfl (hb hby d4_37)
  refine own_go st8 ?_
  show own_Go _ _ _ _ _ _ _ (T8.setTop (mkF m 40 #[.val (.ref o), .val (.ref a), .val (.long f1), .second, .val (.long s1), .second] [(.ref fa)]))
  refine own_go (fun _ q => XS.aloadN X8.here hx rfl (hb hby d4_40) rfl rfl q) ?_
  show own_Go _ _ _ _ _ _ _ (T8.setTop (mkF m 41 #[.val (.ref o), .val (.ref a), .val (.long f1), .second, .val (.long s1), .second] [(.ref o), (.ref fa)]))
  have f11 := (Fh.other W7 (Or.inl ne1))
  obtain ⟨T10, X10, e10, st10⟩ := getF X8 hx hZ hown (host := "") (Or.inl (hw _ (List.mem_of_getElem? (i := 30) rfl))) Via.refl e8 f11 (g := (mkF m 41 #[.val (.ref o), .val (.ref a), .val (.long f1), .second, .val (.long s1), .second] [(.ref o), (.ref fa)])) rfl rfl (hb hby d4_41)
  refine own_go st10 ?_
  show own_Go _ _ _ _ _ _ _ (T10.setTop (mkF m 44 #[.val (.ref o), .val (.ref a), .val (.long f1), .second, .val (.long s1), .second] [(.int zh), (.ref fa)]))
  refine own_go (fun _ q => XS.aloadN X10.here hx rfl (hb hby d4_44) rfl rfl q) ?_
  show own_Go _ _ _ _ _ _ _ (T10.setTop (mkF m 45 #[.val (.ref o), .val (.ref a), .val (.long f1), .second, .val (.long s1), .second] [(.ref o), (.int zh), (.ref fa)]))
  have f13 := (Fc.other W7 (Or.inl ne1))
  obtain ⟨T12, X12, e12, st12⟩ := getF X10 hx hZ hown (host := "") (Or.inl (hw _ (List.mem_of_getElem? (i := 32) rfl))) Via.refl e10 f13 (g := (mkF m 45 #[.val (.ref o), .val (.ref a), .val (.long f1), .second, .val (.long s1), .second] [(.ref o), (.int zh), (.ref fa)])) rfl rfl (hb hby d4_45)
  refine own_go st12 ?_
  show own_Go _ _ _ _ _ _ _ (T12.setTop (mkF m 48 #[.val (.ref o), .val (.ref a), .val (.long f1), .second, .val (.long s1), .second] [(.int zc), (.int zh), (.ref fa)]))
  refine own_go (fun _ q => XS.iadd X12.here hx rfl (hb hby d4_48) rfl q) ?_
  show own_Go _ _ _ _ _ _ _ (T12.setTop (mkF m 49 #[.val (.ref o), .val (.ref a), .val (.long f1), .second, .val (.long s1), .second] [(.int (zh + zc)), (.ref fa)]))
  refine own_go (fun _ q => XS.lloadN X12.here hx rfl (hb hby d4_49) rfl q) ?_
  show own_Go _ _ _ _ _ _ _ (T12.setTop (mkF m 50 #[.val (.ref o), .val (.ref a), .val (.long f1), .second, .val (.long s1), .second] [(.long f1), (.int (zh + zc)), (.ref fa)]))
  have f15 := (Af.other W7 (Ne.symm ne4))
  refine own_lastore X12 hx hZ e12 (i := i) f15 hi hi16 (hb hby d4_50) rfl ?_
  intro T14 h14 X14 e14 W14 A14
  have N14 := Fr.snoc X14 N7 gf
  have Z14 : n0 ≤ h14.size := by rw [W14.size]; exact Z7
  show own_Go _ _ _ _ _ _ _ (T14.setTop (mkF m 51 #[.val (.ref o), .val (.ref a), .val (.long f1), .second, .val (.long s1), .second] []))
  refine own_go (fun _ q => XS.aloadN X14.here hx rfl (hb hby d4_51) rfl rfl q) ?_
  show own_Go _ _ _ _ _ _ _ (T14.setTop (mkF m 52 #[.val (.ref o), .val (.ref a), .val (.long f1), .second, .val (.long s1), .second] [(.ref o)]))
  have f17 := ((Fs.other W7 (Or.inl ne1)).other W14 (Or.inl ne2))
  obtain ⟨T16, X16, e16, st16⟩ := getF X14 hx hZ hown (host := "") (Or.inl (hw _ (List.mem_of_getElem? (i := 23) rfl))) Via.refl e14 f17 (g := (mkF m 52 #[.val (.ref o), .val (.ref a), .val (.long f1), .second, .val (.long s1), .second] [(.ref o)])) rfl rfl (hb hby d4_52)
  refine own_go st16 ?_
  show own_Go _ _ _ _ _ _ _ (T16.setTop (mkF m 55 #[.val (.ref o), .val (.ref a), .val (.long f1), .second, .val (.long s1), .second] [(.ref sa)]))
  refine own_go (fun _ q => XS.aloadN X16.here hx rfl (hb hby d4_55) rfl rfl q) ?_
  show own_Go _ _ _ _ _ _ _ (T16.setTop (mkF m 56 #[.val (.ref o), .val (.ref a), .val (.long f1), .second, .val (.long s1), .second] [(.ref o), (.ref sa)]))
  have f19 := (f11.other W14 (Or.inl ne2))
  obtain ⟨T18, X18, e18, st18⟩ := getF X16 hx hZ hown (host := "") (Or.inl (hw _ (List.mem_of_getElem? (i := 30) rfl))) Via.refl e16 f19 (g := (mkF m 56 #[.val (.ref o), .val (.ref a), .val (.long f1), .second, .val (.long s1), .second] [(.ref o), (.ref sa)])) rfl rfl (hb hby d4_56)
  refine own_go st18 ?_
  show own_Go _ _ _ _ _ _ _ (T18.setTop (mkF m 59 #[.val (.ref o), .val (.ref a), .val (.long f1), .second, .val (.long s1), .second] [(.int zh), (.ref sa)]))
  refine own_go (fun _ q => XS.aloadN X18.here hx rfl (hb hby d4_59) rfl rfl q) ?_
  show own_Go _ _ _ _ _ _ _ (T18.setTop (mkF m 60 #[.val (.ref o), .val (.ref a), .val (.long f1), .second, .val (.long s1), .second] [(.ref o), (.int zh), (.ref sa)]))
  have f21 := (f13.other W14 (Or.inl ne2))
  obtain ⟨T20, X20, e20, st20⟩ := getF X18 hx hZ hown (host := "") (Or.inl (hw _ (List.mem_of_getElem? (i := 32) rfl))) Via.refl e18 f21 (g := (mkF m 60 #[.val (.ref o), .val (.ref a), .val (.long f1), .second, .val (.long s1), .second] [(.ref o), (.int zh), (.ref sa)])) rfl rfl (hb hby d4_60)
  refine own_go st20 ?_
  show own_Go _ _ _ _ _ _ _ (T20.setTop (mkF m 63 #[.val (.ref o), .val (.ref a), .val (.long f1), .second, .val (.long s1), .second] [(.int zc), (.int zh), (.ref sa)]))
  refine own_go (fun _ q => XS.iadd X20.here hx rfl (hb hby d4_63) rfl q) ?_
  show own_Go _ _ _ _ _ _ _ (T20.setTop (mkF m 64 #[.val (.ref o), .val (.ref a), .val (.long f1), .second, .val (.long s1), .second] [(.int (zh + zc)), (.ref sa)]))
  refine own_go (fun _ q => XS.lload X20.here hx rfl (hb hby d4_64) rfl q) ?_
  show own_Go _ _ _ _ _ _ _ (T20.setTop (mkF m 66 #[.val (.ref o), .val (.ref a), .val (.long f1), .second, .val (.long s1), .second] [(.long s1), (.int (zh + zc)), (.ref sa)]))
  have f23 := ((As.other W7 (Ne.symm ne5)).other W14 (Ne.symm ne6))
  refine own_lastore X20 hx hZ e20 (i := i) f23 hi hi16 (hb hby d4_66) rfl ?_
  intro T22 h22 X22 e22 W22 A22
  have N22 := Fr.snoc X22 N14 gs
  have Z22 : n0 ≤ h22.size := by rw [W22.size]; exact Z14
  show own_Go _ _ _ _ _ _ _ (T22.setTop (mkF m 67 #[.val (.ref o), .val (.ref a), .val (.long f1), .second, .val (.long s1), .second] []))
  refine own_go (fun _ q => XS.aloadN X22.here hx rfl (hb hby d4_67) rfl rfl q) ?_
  show own_Go _ _ _ _ _ _ _ (T22.setTop (mkF m 68 #[.val (.ref o), .val (.ref a), .val (.long f1), .second, .val (.long s1), .second] [(.ref o)]))
  refine own_go (fun _ q => XS.dup X22.here hx rfl (hb hby d4_68) rfl rfl q) ?_
  show own_Go _ _ _ _ _ _ _ (T22.setTop (mkF m 69 #[.val (.ref o), .val (.ref a), .val (.long f1), .second, .val (.long s1), .second] [(.ref o), (.ref o)]))
  have f25 := (f21.other W22 (Or.inl ne3))
  obtain ⟨T24, X24, e24, st24⟩ := getF X22 hx hZ hown (host := "") (Or.inl (hw _ (List.mem_of_getElem? (i := 32) rfl))) Via.refl e22 f25 (g := (mkF m 69 #[.val (.ref o), .val (.ref a), .val (.long f1), .second, .val (.long s1), .second] [(.ref o), (.ref o)])) rfl rfl (hb hby d4_69)
  refine own_go st24 ?_
  show own_Go _ _ _ _ _ _ _ (T24.setTop (mkF m 72 #[.val (.ref o), .val (.ref a), .val (.long f1), .second, .val (.long s1), .second] [(.int zc), (.ref o)]))
  refine own_go (fun _ q => XS.iconst X24.here hx rfl (hb hby d4_72) q) ?_
  show own_Go _ _ _ _ _ _ _ (T24.setTop (mkF m 73 #[.val (.ref o), .val (.ref a), .val (.long f1), .second, .val (.long s1), .second] [(.int (1 : Int32)), (.int zc), (.ref o)]))
  refine own_go (fun _ q => XS.iadd X24.here hx rfl (hb hby d4_73) rfl q) ?_
  show own_Go _ _ _ _ _ _ _ (T24.setTop (mkF m 74 #[.val (.ref o), .val (.ref a), .val (.long f1), .second, .val (.long s1), .second] [(.int (zc + (1 : Int32))), (.ref o)]))
  have f27 := (((Eo.wr W7).wr W14).wr W22)
  obtain ⟨T26, h26, X26, e26, W26, st26⟩ := putF X24 hx hZ hown (host := "") (Or.inl (hw _ (List.mem_of_getElem? (i := 32) rfl))) Via.refl e24 f25 f27 (Or.inl (hw _ (List.mem_of_getElem? (i := 33) rfl))) (hw _ (List.mem_of_getElem? (i := 8) rfl)) (ty := .int) (by decide) rfl rfl (g := (mkF m 74 #[.val (.ref o), .val (.ref a), .val (.long f1), .second, .val (.long s1), .second] [(.int (zc + (1 : Int32))), (.ref o)])) rfl rfl (hb hby d4_74)
  have N26 := Fr.snoc X26 N22 go
  have Fw26 := f25.same W26
  have Z26 : n0 ≤ h26.size := by rw [W26.size]; exact Z22
  refine own_go st26 ?_
  show own_Go _ _ _ _ _ _ _ (T26.setTop (mkF m 77 #[.val (.ref o), .val (.ref a), .val (.long f1), .second, .val (.long s1), .second] []))
  have f28 := (f27.wr W26)
  have f29 := ((((Fk.other W7 (Or.inl ne1)).other W14 (Or.inl ne2)).other W22 (Or.inl ne3)).other W26 (Or.inr (slot_ne (Or.inl (hw _ (List.mem_of_getElem? (i := 19) rfl))) (Or.inl (hw _ (List.mem_of_getElem? (i := 33) rfl))) (by decide) (t := (.array (.object "java/lang/Object"))) (t' := .int) (by decide) (by decide))))
  have f30 := (((f9.other W14 (Or.inl ne2)).other W22 (Or.inl ne3)).other W26 (Or.inr (slot_ne (Or.inl (hw _ (List.mem_of_getElem? (i := 22) rfl))) (Or.inl (hw _ (List.mem_of_getElem? (i := 33) rfl))) (by decide) (t := (.array .long)) (t' := .int) (by decide) (by decide))))
  have f31 := ((f17.other W22 (Or.inl ne3)).other W26 (Or.inr (slot_ne (Or.inl (hw _ (List.mem_of_getElem? (i := 24) rfl))) (Or.inl (hw _ (List.mem_of_getElem? (i := 33) rfl))) (by decide) (t := (.array .long)) (t' := .int) (by decide) (by decide))))
  have f32 := ((f19.other W22 (Or.inl ne3)).other W26 (Or.inr (slot_ne (Or.inl (hw _ (List.mem_of_getElem? (i := 31) rfl))) (Or.inl (hw _ (List.mem_of_getElem? (i := 33) rfl))) (by decide) (t := .int) (t' := .int) (by decide) (by decide))))
  have f33 := (((A7.other W14 ne4).other W22 ne5).other W26 (Ne.symm ne1))
  have f34 := ((A14.other W22 ne6).other W26 (Ne.symm ne2))
  have f35 := (A22.other W26 (Ne.symm ne3))
  have Kk : Keep h0 h26 [o, ka, fa, sa] := (((((Keep.refl h0 [o, ka, fa, sa]).wr W7 (Or.inl (by simp))).wr W14 (Or.inl (by simp))).wr W22 (Or.inl (by simp))).wr W26 (Or.inl (by simp)))
  have ST2 : ∀ y, Sto Z h0 ka y → Sto Z h26 ka y := fun y q => Sto.wr W26 (Sto.wr W22 (Sto.wr W14 (Sto.wr W7 q)))
  subst e26
  exact own_retV X26 hx hlk hret (hb hby d4_77) (by decide) (by decide) ⟨rfl, N26, Kk, f28, f29, f30, f31, f32, Fw26, f33, f34.eqv own_long_if, f35.eqv own_long_if, ST2⟩
theorem d5_0 : decode prog_136_method_8_code 0 = .ok (.aload_n 0, 1) := by decide +kernel
theorem d5_1 : decode prog_136_method_8_code 1 = .ok (.dup, 1) := by decide +kernel
theorem d5_2 : decode prog_136_method_8_code 2 = .ok (.getfield 20, 3) := by decide +kernel
theorem d5_5 : decode prog_136_method_8_code 5 = .ok (.iconst 1, 1) := by decide +kernel
theorem d5_6 : decode prog_136_method_8_code 6 = .ok (.iadd, 1) := by decide +kernel
theorem d5_7 : decode prog_136_method_8_code 7 = .ok (.putfield 20, 3) := by decide +kernel
theorem d5_10 : decode prog_136_method_8_code 10 = .ok (.aload_n 0, 1) := by decide +kernel
theorem d5_11 : decode prog_136_method_8_code 11 = .ok (.dup, 1) := by decide +kernel
theorem d5_12 : decode prog_136_method_8_code 12 = .ok (.getfield 24, 3) := by decide +kernel
theorem d5_15 : decode prog_136_method_8_code 15 = .ok (.iconst 1, 1) := by decide +kernel
theorem d5_16 : decode prog_136_method_8_code 16 = .ok (.isub, 1) := by decide +kernel
theorem d5_17 : decode prog_136_method_8_code 17 = .ok (.putfield 24, 3) := by decide +kernel
theorem d5_20 : decode prog_136_method_8_code 20 = .ok (.return_, 1) := by decide +kernel
def Q5 (Z : State) (o : Addr) (ka : Addr) (fa : Addr) (sa : Addr) (zh : Int32) (zc : Int32) (h0 : Heap) (n0 : Nat) (v : Option Value) (h : Heap) (L : List Loc) : Prop := v = none ∧ Fr n0 L ∧ Keep h0 h [o] ∧ Exa Z h o "com/example/meldbook/meldbook/verdict/OffsetQueue" ∧ Fld Z h o "com/example/meldbook/meldbook/verdict/OffsetQueue" "kinds" "[Ljava/lang/Object;" (.ref ka) ∧ Fld Z h o "com/example/meldbook/meldbook/verdict/OffsetQueue" "firsts" "[J" (.ref fa) ∧ Fld Z h o "com/example/meldbook/meldbook/verdict/OffsetQueue" "seconds" "[J" (.ref sa) ∧ Fld Z h o "com/example/meldbook/meldbook/verdict/OffsetQueue" "head" "I" (.int (zh + 1)) ∧ Fld Z h o "com/example/meldbook/meldbook/verdict/OffsetQueue" "count" "I" (.int (zc - 1))
theorem ef_5 (m : MethodId) (x0 : Addr) : entryFrame m #[(.ref x0)] 1 = mkF m 0 #[.val (.ref x0)] [] := by first | (simp [entryFrame, mkF, argsToLocals, Value.category]; done) | rfl
set_option maxRecDepth 65536 in
set_option maxHeartbeats 40000000 in
theorem rm5 (l : Launch) (Z : State) (a0 : Array Value) (hw : ∀ d ∈ tables_1, d.before a0 Z = true) (ws : List Jvm.Cond) (o : Addr) (ka : Addr) (fa : Addr) (sa : Addr) (zh : Int32) (zc : Int32) (h0 : Heap) (n0 : Nat) (Z0 : n0 ≤ h0.size) (Eo : Exa Z h0 o "com/example/meldbook/meldbook/verdict/OffsetQueue") (Fk : Fld Z h0 o "com/example/meldbook/meldbook/verdict/OffsetQueue" "kinds" "[Ljava/lang/Object;" (.ref ka)) (Ff : Fld Z h0 o "com/example/meldbook/meldbook/verdict/OffsetQueue" "firsts" "[J" (.ref fa)) (Fs : Fld Z h0 o "com/example/meldbook/meldbook/verdict/OffsetQueue" "seconds" "[J" (.ref sa)) (Fh : Fld Z h0 o "com/example/meldbook/meldbook/verdict/OffsetQueue" "head" "I" (.int zh)) (Fc : Fld Z h0 o "com/example/meldbook/meldbook/verdict/OffsetQueue" "count" "I" (.int zc)) (go : n0 ≤ o) :
    own_Met l Z (⟨"com/example/meldbook/meldbook/verdict/OffsetQueue", "remove", "()V"⟩ : MethodName) prog_136_method_8_code 1 none ({ frames := 0, cells := 0, slots := 0, locals := 0 } : Room) ws #[(.ref o)] h0 (Q5 Z o ka fa sa zh zc h0 n0) := by
  refine own_enter (plainFor_of_name (by first | (simp [plainName, overriddenIn]; done) | decide +kernel)) ?_
  intro p e s m below meth c s₁ hx hby hml hown hnm hlk hret hZ X0 e0
  have N0 := Fr.nil n0
  refine own_go (fun _ q => castTop (ef_5 m o) q) ?_
  show own_Go _ _ _ _ _ _ _ (s₁.setTop (mkF m 0 #[.val (.ref o)] []))
  refine own_go (fun _ q => XS.aloadN X0.here hx rfl (hb hby d5_0) rfl rfl q) ?_
  show own_Go _ _ _ _ _ _ _ (s₁.setTop (mkF m 1 #[.val (.ref o)] [(.ref o)]))
  refine own_go (fun _ q => XS.dup X0.here hx rfl (hb hby d5_1) rfl rfl q) ?_
  show own_Go _ _ _ _ _ _ _ (s₁.setTop (mkF m 2 #[.val (.ref o)] [(.ref o), (.ref o)]))
  obtain ⟨T1, X1, e1, st1⟩ := getF X0 hx hZ hown (host := "") (Or.inl (hw _ (List.mem_of_getElem? (i := 30) rfl))) Via.refl e0 Fh (g := (mkF m 2 #[.val (.ref o)] [(.ref o), (.ref o)])) rfl rfl (hb hby d5_2)
  refine own_go st1 ?_
  show own_Go _ _ _ _ _ _ _ (T1.setTop (mkF m 5 #[.val (.ref o)] [(.int zh), (.ref o)]))
  refine own_go (fun _ q => XS.iconst X1.here hx rfl (hb hby d5_5) q) ?_
  show own_Go _ _ _ _ _ _ _ (T1.setTop (mkF m 6 #[.val (.ref o)] [(.int (1 : Int32)), (.int zh), (.ref o)]))
  refine own_go (fun _ q => XS.iadd X1.here hx rfl (hb hby d5_6) rfl q) ?_
  show own_Go _ _ _ _ _ _ _ (T1.setTop (mkF m 7 #[.val (.ref o)] [(.int (zh + (1 : Int32))), (.ref o)]))
  obtain ⟨T2, h2, X2, e2, W2, st2⟩ := putF X1 hx hZ hown (host := "") (Or.inl (hw _ (List.mem_of_getElem? (i := 30) rfl))) Via.refl e1 Fh Eo (Or.inl (hw _ (List.mem_of_getElem? (i := 31) rfl))) (hw _ (List.mem_of_getElem? (i := 8) rfl)) (ty := .int) (by decide) rfl rfl (g := (mkF m 7 #[.val (.ref o)] [(.int (zh + (1 : Int32))), (.ref o)])) rfl rfl (hb hby d5_7)
  have N2 := Fr.snoc X2 N0 go
  have Fw2 := Fh.same W2
  have Z2 : n0 ≤ h2.size := by rw [W2.size]; exact Z0
  refine own_go st2 ?_
  show own_Go _ _ _ _ _ _ _ (T2.setTop (mkF m 10 #[.val (.ref o)] []))
  refine own_go (fun _ q => XS.aloadN X2.here hx rfl (hb hby d5_10) rfl rfl q) ?_
  show own_Go _ _ _ _ _ _ _ (T2.setTop (mkF m 11 #[.val (.ref o)] [(.ref o)]))
  refine own_go (fun _ q => XS.dup X2.here hx rfl (hb hby d5_11) rfl rfl q) ?_
  show own_Go _ _ _ _ _ _ _ (T2.setTop (mkF m 12 #[.val (.ref o)] [(.ref o), (.ref o)]))
  have f4 := (Fc.other W2 (Or.inr (slot_ne (Or.inl (hw _ (List.mem_of_getElem? (i := 33) rfl))) (Or.inl (hw _ (List.mem_of_getElem? (i := 31) rfl))) (by decide) (t := .int) (t' := .int) (by decide) (by decide))))
  obtain ⟨T3, X3, e3, st3⟩ := getF X2 hx hZ hown (host := "") (Or.inl (hw _ (List.mem_of_getElem? (i := 32) rfl))) Via.refl e2 f4 (g := (mkF m 12 #[.val (.ref o)] [(.ref o), (.ref o)])) rfl rfl (hb hby d5_12)
  refine own_go st3 ?_
  show own_Go _ _ _ _ _ _ _ (T3.setTop (mkF m 15 #[.val (.ref o)] [(.int zc), (.ref o)]))
  refine own_go (fun _ q => XS.iconst X3.here hx rfl (hb hby d5_15) q) ?_
  show own_Go _ _ _ _ _ _ _ (T3.setTop (mkF m 16 #[.val (.ref o)] [(.int (1 : Int32)), (.int zc), (.ref o)]))
  refine own_go (fun _ q => XS.isub X3.here hx rfl (hb hby d5_16) rfl q) ?_
  show own_Go _ _ _ _ _ _ _ (T3.setTop (mkF m 17 #[.val (.ref o)] [(.int (zc - (1 : Int32))), (.ref o)]))
  have f6 := (Eo.wr W2)
  obtain ⟨T5, h5, X5, e5, W5, st5⟩ := putF X3 hx hZ hown (host := "") (Or.inl (hw _ (List.mem_of_getElem? (i := 32) rfl))) Via.refl e3 f4 f6 (Or.inl (hw _ (List.mem_of_getElem? (i := 33) rfl))) (hw _ (List.mem_of_getElem? (i := 8) rfl)) (ty := .int) (by decide) rfl rfl (g := (mkF m 17 #[.val (.ref o)] [(.int (zc - (1 : Int32))), (.ref o)])) rfl rfl (hb hby d5_17)
  have N5 := Fr.snoc X5 N2 go
  have Fw5 := f4.same W5
  have Z5 : n0 ≤ h5.size := by rw [W5.size]; exact Z2
  refine own_go st5 ?_
  show own_Go _ _ _ _ _ _ _ (T5.setTop (mkF m 20 #[.val (.ref o)] []))
  have f7 := (f6.wr W5)
  have f8 := ((Fk.other W2 (Or.inr (slot_ne (Or.inl (hw _ (List.mem_of_getElem? (i := 19) rfl))) (Or.inl (hw _ (List.mem_of_getElem? (i := 31) rfl))) (by decide) (t := (.array (.object "java/lang/Object"))) (t' := .int) (by decide) (by decide)))).other W5 (Or.inr (slot_ne (Or.inl (hw _ (List.mem_of_getElem? (i := 19) rfl))) (Or.inl (hw _ (List.mem_of_getElem? (i := 33) rfl))) (by decide) (t := (.array (.object "java/lang/Object"))) (t' := .int) (by decide) (by decide))))
  have f9 := ((Ff.other W2 (Or.inr (slot_ne (Or.inl (hw _ (List.mem_of_getElem? (i := 22) rfl))) (Or.inl (hw _ (List.mem_of_getElem? (i := 31) rfl))) (by decide) (t := (.array .long)) (t' := .int) (by decide) (by decide)))).other W5 (Or.inr (slot_ne (Or.inl (hw _ (List.mem_of_getElem? (i := 22) rfl))) (Or.inl (hw _ (List.mem_of_getElem? (i := 33) rfl))) (by decide) (t := (.array .long)) (t' := .int) (by decide) (by decide))))
  have f10 := ((Fs.other W2 (Or.inr (slot_ne (Or.inl (hw _ (List.mem_of_getElem? (i := 24) rfl))) (Or.inl (hw _ (List.mem_of_getElem? (i := 31) rfl))) (by decide) (t := (.array .long)) (t' := .int) (by decide) (by decide)))).other W5 (Or.inr (slot_ne (Or.inl (hw _ (List.mem_of_getElem? (i := 24) rfl))) (Or.inl (hw _ (List.mem_of_getElem? (i := 33) rfl))) (by decide) (t := (.array .long)) (t' := .int) (by decide) (by decide))))
  have f11 := (Fw2.other W5 (Or.inr (slot_ne (Or.inl (hw _ (List.mem_of_getElem? (i := 31) rfl))) (Or.inl (hw _ (List.mem_of_getElem? (i := 33) rfl))) (by decide) (t := .int) (t' := .int) (by decide) (by decide))))
  have Kk : Keep h0 h5 [o] := (((Keep.refl h0 [o]).wr W2 (Or.inl (by simp))).wr W5 (Or.inl (by simp)))
  subst e5
  exact own_retV X5 hx hlk hret (hb hby d5_20) (by decide) (by decide) ⟨rfl, N5, Kk, f7, f8, f9, f10, f11, Fw5⟩
theorem d6_0 : decode prog_136_method_4_code 0 = .ok (.aload_n 0, 1) := by decide +kernel
theorem d6_1 : decode prog_136_method_4_code 1 = .ok (.getfield 24, 3) := by decide +kernel
theorem d6_4 : decode prog_136_method_4_code 4 = .ok (.ifCond .ne 7, 3) := by decide +kernel
theorem d6_7 : decode prog_136_method_4_code 7 = .ok (.iconst 1, 1) := by decide +kernel
theorem d6_8 : decode prog_136_method_4_code 8 = .ok (.goto 4, 3) := by decide +kernel
theorem d6_11 : decode prog_136_method_4_code 11 = .ok (.iconst 0, 1) := by decide +kernel
theorem d6_12 : decode prog_136_method_4_code 12 = .ok (.ireturn, 1) := by decide +kernel
def Q6 (Z : State) (o : Addr) (zc : Int32) (h0 : Heap) (n0 : Nat) (v : Option Value) (h : Heap) (L : List Loc) : Prop := v = some (.int (if zc = 0 then 1 else 0)) ∧ Fr n0 L ∧ h = h0
theorem ef_6 (m : MethodId) (x0 : Addr) : entryFrame m #[(.ref x0)] 1 = mkF m 0 #[.val (.ref x0)] [] := by first | (simp [entryFrame, mkF, argsToLocals, Value.category]; done) | rfl
set_option maxRecDepth 65536 in
set_option maxHeartbeats 40000000 in
theorem rm6 (l : Launch) (Z : State) (a0 : Array Value) (hw : ∀ d ∈ tables_1, d.before a0 Z = true) (ws : List Jvm.Cond) (o : Addr) (zc : Int32) (h0 : Heap) (n0 : Nat) (Z0 : n0 ≤ h0.size) (Fc : Fld Z h0 o "com/example/meldbook/meldbook/verdict/OffsetQueue" "count" "I" (.int zc)) :
    own_Met l Z (⟨"com/example/meldbook/meldbook/verdict/OffsetQueue", "isEmpty", "()Z"⟩ : MethodName) prog_136_method_4_code 1 (some .boolean) ({ frames := 0, cells := 0, slots := 0, locals := 0 } : Room) ws #[(.ref o)] h0 (Q6 Z o zc h0 n0) := by
  refine own_enter (plainFor_of_name (by first | (simp [plainName, overriddenIn]; done) | decide +kernel)) ?_
  intro p e s m below meth c s₁ hx hby hml hown hnm hlk hret hZ X0 e0
  have N0 := Fr.nil n0
  refine own_go (fun _ q => castTop (ef_6 m o) q) ?_
  show own_Go _ _ _ _ _ _ _ (s₁.setTop (mkF m 0 #[.val (.ref o)] []))
  refine own_go (fun _ q => XS.aloadN X0.here hx rfl (hb hby d6_0) rfl rfl q) ?_
  show own_Go _ _ _ _ _ _ _ (s₁.setTop (mkF m 1 #[.val (.ref o)] [(.ref o)]))
  obtain ⟨T1, X1, e1, st1⟩ := getF X0 hx hZ hown (host := "") (Or.inl (hw _ (List.mem_of_getElem? (i := 32) rfl))) Via.refl e0 Fc (g := (mkF m 1 #[.val (.ref o)] [(.ref o)])) rfl rfl (hb hby d6_1)
  refine own_go st1 ?_
  show own_Go _ _ _ _ _ _ _ (T1.setTop (mkF m 4 #[.val (.ref o)] [(.int zc)]))
  by_cases hc4_2 : zc = (0 : Int32)
  · refine own_go (fun _ q => XS.ifNo X1.here hx rfl (hb hby d6_4) rfl ((if0 _ _).trans (teq hc4_2).2) q) ?_
    show own_Go _ _ _ _ _ _ _ (T1.setTop (mkF m 7 #[.val (.ref o)] []))
    refine own_go (fun _ q => XS.iconst X1.here hx rfl (hb hby d6_7) q) ?_
    show own_Go _ _ _ _ _ _ _ (T1.setTop (mkF m 8 #[.val (.ref o)] [(.int (1 : Int32))]))
    refine own_go (fun _ q => XS.goto X1.here hx rfl (pc0 := 8) (pc' := 12) rfl (hb hby d6_8) (by decide) (by decide) q) ?_
    show own_Go _ _ _ _ _ _ _ (T1.setTop (mkF m 12 #[.val (.ref o)] [(.int (1 : Int32))]))
    exact own_retZ X1 hx hlk hret (hb hby d6_12) (by decide) (by decide) (by decide) ⟨by simp [*], N0, e1⟩
  · refine own_go (fun _ q => XS.ifYes X1.here hx rfl (pc0 := 4) (pc' := 11) rfl (hb hby d6_4) rfl ((if0 _ _).trans (feq hc4_2).2) (by decide) (by decide) q) ?_
    show own_Go _ _ _ _ _ _ _ (T1.setTop (mkF m 11 #[.val (.ref o)] []))
    refine own_go (fun _ q => XS.iconst X1.here hx rfl (hb hby d6_11) q) ?_
    show own_Go _ _ _ _ _ _ _ (T1.setTop (mkF m 12 #[.val (.ref o)] [(.int (0 : Int32))]))
    exact own_retZ X1 hx hlk hret (hb hby d6_12) (by decide) (by decide) (by decide) ⟨by simp [*], N0, e1⟩
theorem d7_0 : decode prog_136_method_6_code 0 = .ok (.aload_n 0, 1) := by decide +kernel
theorem d7_1 : decode prog_136_method_6_code 1 = .ok (.getfield 13, 3) := by decide +kernel
theorem d7_4 : decode prog_136_method_6_code 4 = .ok (.aload_n 0, 1) := by decide +kernel
theorem d7_5 : decode prog_136_method_6_code 5 = .ok (.getfield 20, 3) := by decide +kernel
theorem d7_8 : decode prog_136_method_6_code 8 = .ok (.laload, 1) := by decide +kernel
theorem d7_9 : decode prog_136_method_6_code 9 = .ok (.lreturn, 1) := by decide +kernel
def Q7 (Z : State) (o : Addr) (aa : Addr) (zh : Int32) (G : Nat → Value) (i : Nat) (y : Int64) (h0 : Heap) (n0 : Nat) (v : Option Value) (h : Heap) (L : List Loc) : Prop := v = some (.long y) ∧ Fr n0 L ∧ h = h0
theorem ef_7 (m : MethodId) (x0 : Addr) : entryFrame m #[(.ref x0)] 1 = mkF m 0 #[.val (.ref x0)] [] := by first | (simp [entryFrame, mkF, argsToLocals, Value.category]; done) | rfl
set_option maxRecDepth 65536 in
set_option maxHeartbeats 40000000 in
theorem rm7 (l : Launch) (Z : State) (a0 : Array Value) (hw : ∀ d ∈ tables_1, d.before a0 Z = true) (ws : List Jvm.Cond) (o : Addr) (aa : Addr) (zh : Int32) (G : Nat → Value) (i : Nat) (y : Int64) (h0 : Heap) (n0 : Nat) (Z0 : n0 ≤ h0.size) (F1 : Fld Z h0 o "com/example/meldbook/meldbook/verdict/OffsetQueue" "firsts" "[J" (.ref aa)) (F2 : Fld Z h0 o "com/example/meldbook/meldbook/verdict/OffsetQueue" "head" "I" (.int zh)) (A : own_Ar Z h0 aa .long 16 G) (hi : zh.toInt = (i : Int)) (hi16 : i < 16) (hv : G i = (.long y)) :
    own_Met l Z (⟨"com/example/meldbook/meldbook/verdict/OffsetQueue", "first", "()J"⟩ : MethodName) prog_136_method_6_code 1 (some .long) ({ frames := 0, cells := 0, slots := 0, locals := 0 } : Room) ws #[(.ref o)] h0 (Q7 Z o aa zh G i y h0 n0) := by
  refine own_enter (plainFor_of_name (by first | (simp [plainName, overriddenIn]; done) | decide +kernel)) ?_
  intro p e s m below meth c s₁ hx hby hml hown hnm hlk hret hZ X0 e0
  have N0 := Fr.nil n0
  refine own_go (fun _ q => castTop (ef_7 m o) q) ?_
  show own_Go _ _ _ _ _ _ _ (s₁.setTop (mkF m 0 #[.val (.ref o)] []))
  refine own_go (fun _ q => XS.aloadN X0.here hx rfl (hb hby d7_0) rfl rfl q) ?_
  show own_Go _ _ _ _ _ _ _ (s₁.setTop (mkF m 1 #[.val (.ref o)] [(.ref o)]))
  obtain ⟨T1, X1, e1, st1⟩ := getF X0 hx hZ hown (host := "") (Or.inl (hw _ (List.mem_of_getElem? (i := 21) rfl))) Via.refl e0 F1 (g := (mkF m 1 #[.val (.ref o)] [(.ref o)])) rfl rfl (hb hby d7_1)
  refine own_go st1 ?_
  show own_Go _ _ _ _ _ _ _ (T1.setTop (mkF m 4 #[.val (.ref o)] [(.ref aa)]))
  refine own_go (fun _ q => XS.aloadN X1.here hx rfl (hb hby d7_4) rfl rfl q) ?_
  show own_Go _ _ _ _ _ _ _ (T1.setTop (mkF m 5 #[.val (.ref o)] [(.ref o), (.ref aa)]))
  obtain ⟨T2, X2, e2, st2⟩ := getF X1 hx hZ hown (host := "") (Or.inl (hw _ (List.mem_of_getElem? (i := 30) rfl))) Via.refl e1 F2 (g := (mkF m 5 #[.val (.ref o)] [(.ref o), (.ref aa)])) rfl rfl (hb hby d7_5)
  refine own_go st2 ?_
  show own_Go _ _ _ _ _ _ _ (T2.setTop (mkF m 8 #[.val (.ref o)] [(.int zh), (.ref aa)]))
  refine own_laload X2 hx hZ e2 A hi hi16 hv (hb hby d7_8) rfl ?_
  show own_Go _ _ _ _ _ _ _ (T2.setTop (mkF m 9 #[.val (.ref o)] [(.long y)]))
  exact own_retJ X2 hx hlk hret (hb hby d7_9) (by decide) (by decide) ⟨rfl, N0, e2⟩
theorem d8_0 : decode prog_136_method_7_code 0 = .ok (.aload_n 0, 1) := by decide +kernel
theorem d8_1 : decode prog_136_method_7_code 1 = .ok (.getfield 17, 3) := by decide +kernel
theorem d8_4 : decode prog_136_method_7_code 4 = .ok (.aload_n 0, 1) := by decide +kernel
theorem d8_5 : decode prog_136_method_7_code 5 = .ok (.getfield 20, 3) := by decide +kernel
theorem d8_8 : decode prog_136_method_7_code 8 = .ok (.laload, 1) := by decide +kernel
theorem d8_9 : decode prog_136_method_7_code 9 = .ok (.lreturn, 1) := by decide +kernel
def Q8 (Z : State) (o : Addr) (aa : Addr) (zh : Int32) (G : Nat → Value) (i : Nat) (y : Int64) (h0 : Heap) (n0 : Nat) (v : Option Value) (h : Heap) (L : List Loc) : Prop := v = some (.long y) ∧ Fr n0 L ∧ h = h0
theorem ef_8 (m : MethodId) (x0 : Addr) : entryFrame m #[(.ref x0)] 1 = mkF m 0 #[.val (.ref x0)] [] := by first | (simp [entryFrame, mkF, argsToLocals, Value.category]; done) | rfl
set_option maxRecDepth 65536 in
set_option maxHeartbeats 40000000 in
theorem rm8 (l : Launch) (Z : State) (a0 : Array Value) (hw : ∀ d ∈ tables_1, d.before a0 Z = true) (ws : List Jvm.Cond) (o : Addr) (aa : Addr) (zh : Int32) (G : Nat → Value) (i : Nat) (y : Int64) (h0 : Heap) (n0 : Nat) (Z0 : n0 ≤ h0.size) (F1 : Fld Z h0 o "com/example/meldbook/meldbook/verdict/OffsetQueue" "seconds" "[J" (.ref aa)) (F2 : Fld Z h0 o "com/example/meldbook/meldbook/verdict/OffsetQueue" "head" "I" (.int zh)) (A : own_Ar Z h0 aa .long 16 G) (hi : zh.toInt = (i : Int)) (hi16 : i < 16) (hv : G i = (.long y)) :
    own_Met l Z (⟨"com/example/meldbook/meldbook/verdict/OffsetQueue", "second", "()J"⟩ : MethodName) prog_136_method_7_code 1 (some .long) ({ frames := 0, cells := 0, slots := 0, locals := 0 } : Room) ws #[(.ref o)] h0 (Q8 Z o aa zh G i y h0 n0) := by
  refine own_enter (plainFor_of_name (by first | (simp [plainName, overriddenIn]; done) | decide +kernel)) ?_
  intro p e s m below meth c s₁ hx hby hml hown hnm hlk hret hZ X0 e0
  have N0 := Fr.nil n0
  refine own_go (fun _ q => castTop (ef_8 m o) q) ?_
  show own_Go _ _ _ _ _ _ _ (s₁.setTop (mkF m 0 #[.val (.ref o)] []))
  refine own_go (fun _ q => XS.aloadN X0.here hx rfl (hb hby d8_0) rfl rfl q) ?_
  show own_Go _ _ _ _ _ _ _ (s₁.setTop (mkF m 1 #[.val (.ref o)] [(.ref o)]))
  obtain ⟨T1, X1, e1, st1⟩ := getF X0 hx hZ hown (host := "") (Or.inl (hw _ (List.mem_of_getElem? (i := 23) rfl))) Via.refl e0 F1 (g := (mkF m 1 #[.val (.ref o)] [(.ref o)])) rfl rfl (hb hby d8_1)
  refine own_go st1 ?_
  show own_Go _ _ _ _ _ _ _ (T1.setTop (mkF m 4 #[.val (.ref o)] [(.ref aa)]))
  refine own_go (fun _ q => XS.aloadN X1.here hx rfl (hb hby d8_4) rfl rfl q) ?_
  show own_Go _ _ _ _ _ _ _ (T1.setTop (mkF m 5 #[.val (.ref o)] [(.ref o), (.ref aa)]))
  obtain ⟨T2, X2, e2, st2⟩ := getF X1 hx hZ hown (host := "") (Or.inl (hw _ (List.mem_of_getElem? (i := 30) rfl))) Via.refl e1 F2 (g := (mkF m 5 #[.val (.ref o)] [(.ref o), (.ref aa)])) rfl rfl (hb hby d8_5)
  refine own_go st2 ?_
  show own_Go _ _ _ _ _ _ _ (T2.setTop (mkF m 8 #[.val (.ref o)] [(.int zh), (.ref aa)]))
  refine own_laload X2 hx hZ e2 A hi hi16 hv (hb hby d8_8) rfl ?_
  show own_Go _ _ _ _ _ _ _ (T2.setTop (mkF m 9 #[.val (.ref o)] [(.long y)]))
  exact own_retJ X2 hx hlk hret (hb hby d8_9) (by decide) (by decide) ⟨rfl, N0, e2⟩
theorem d9_0 : decode prog_136_method_5_code 0 = .ok (.aload_n 0, 1) := by decide +kernel
theorem d9_1 : decode prog_136_method_5_code 1 = .ok (.getfield 9, 3) := by decide +kernel
theorem d9_4 : decode prog_136_method_5_code 4 = .ok (.aload_n 0, 1) := by decide +kernel
theorem d9_5 : decode prog_136_method_5_code 5 = .ok (.getfield 20, 3) := by decide +kernel
theorem d9_8 : decode prog_136_method_5_code 8 = .ok (.aaload, 1) := by decide +kernel
theorem d9_9 : decode prog_136_method_5_code 9 = .ok (.areturn, 1) := by decide +kernel
def Q9 (Z : State) (o : Addr) (aa : Addr) (zh : Int32) (G : Nat → Value) (i : Nat) (y : Addr) (h0 : Heap) (n0 : Nat) (v : Option Value) (h : Heap) (L : List Loc) : Prop := v = some (.ref y) ∧ Fr n0 L ∧ h = h0
theorem ef_9 (m : MethodId) (x0 : Addr) : entryFrame m #[(.ref x0)] 1 = mkF m 0 #[.val (.ref x0)] [] := by first | (simp [entryFrame, mkF, argsToLocals, Value.category]; done) | rfl
set_option maxRecDepth 65536 in
set_option maxHeartbeats 40000000 in
theorem rm9 (l : Launch) (Z : State) (a0 : Array Value) (hw : ∀ d ∈ tables_1, d.before a0 Z = true) (ws : List Jvm.Cond) (o : Addr) (aa : Addr) (zh : Int32) (G : Nat → Value) (i : Nat) (y : Addr) (h0 : Heap) (n0 : Nat) (Z0 : n0 ≤ h0.size) (F1 : Fld Z h0 o "com/example/meldbook/meldbook/verdict/OffsetQueue" "kinds" "[Ljava/lang/Object;" (.ref aa)) (F2 : Fld Z h0 o "com/example/meldbook/meldbook/verdict/OffsetQueue" "head" "I" (.int zh)) (A : own_Ar Z h0 aa (.object "java/lang/Object") 16 G) (hi : zh.toInt = (i : Int)) (hi16 : i < 16) (hv : G i = (.ref y)) :
    own_Met l Z (⟨"com/example/meldbook/meldbook/verdict/OffsetQueue", "kind", "()Ljava/lang/Object;"⟩ : MethodName) prog_136_method_5_code 1 (some (.object "java/lang/Object")) ({ frames := 0, cells := 0, slots := 0, locals := 0 } : Room) ws #[(.ref o)] h0 (Q9 Z o aa zh G i y h0 n0) := by
  refine own_enter (plainFor_of_name (by first | (simp [plainName, overriddenIn]; done) | decide +kernel)) ?_
  intro p e s m below meth c s₁ hx hby hml hown hnm hlk hret hZ X0 e0
  have N0 := Fr.nil n0
  refine own_go (fun _ q => castTop (ef_9 m o) q) ?_
  show own_Go _ _ _ _ _ _ _ (s₁.setTop (mkF m 0 #[.val (.ref o)] []))
  refine own_go (fun _ q => XS.aloadN X0.here hx rfl (hb hby d9_0) rfl rfl q) ?_
  show own_Go _ _ _ _ _ _ _ (s₁.setTop (mkF m 1 #[.val (.ref o)] [(.ref o)]))
  obtain ⟨T1, X1, e1, st1⟩ := getF X0 hx hZ hown (host := "") (Or.inl (hw _ (List.mem_of_getElem? (i := 18) rfl))) Via.refl e0 F1 (g := (mkF m 1 #[.val (.ref o)] [(.ref o)])) rfl rfl (hb hby d9_1)
  refine own_go st1 ?_
  show own_Go _ _ _ _ _ _ _ (T1.setTop (mkF m 4 #[.val (.ref o)] [(.ref aa)]))
  refine own_go (fun _ q => XS.aloadN X1.here hx rfl (hb hby d9_4) rfl rfl q) ?_
  show own_Go _ _ _ _ _ _ _ (T1.setTop (mkF m 5 #[.val (.ref o)] [(.ref o), (.ref aa)]))
  obtain ⟨T2, X2, e2, st2⟩ := getF X1 hx hZ hown (host := "") (Or.inl (hw _ (List.mem_of_getElem? (i := 30) rfl))) Via.refl e1 F2 (g := (mkF m 5 #[.val (.ref o)] [(.ref o), (.ref aa)])) rfl rfl (hb hby d9_5)
  refine own_go st2 ?_
  show own_Go _ _ _ _ _ _ _ (T2.setTop (mkF m 8 #[.val (.ref o)] [(.int zh), (.ref aa)]))
  refine own_aaload X2 hx hZ e2 rfl A hi hi16 hv (hb hby d9_8) rfl ?_
  show own_Go _ _ _ _ _ _ _ (T2.setTop (mkF m 9 #[.val (.ref o)] [(.ref y)]))
  exact own_retR X2 hx hlk hret rfl rfl rfl (hb hby d9_9) (by decide) (by decide) ⟨rfl, N0, e2⟩
theorem d10_0 : decode jdk_33_method_27_code 0 = .ok (.aload_n 0, 1) := by decide +kernel
theorem d10_1 : decode jdk_33_method_27_code 1 = .ok (.getfield 205, 3) := by decide +kernel
theorem d10_4 : decode jdk_33_method_27_code 4 = .ok (.ireturn, 1) := by decide +kernel
def Q10 (Z : State) (a : Addr) (x : Int32) (h0 : Heap) (n0 : Nat) (v : Option Value) (h : Heap) (L : List Loc) : Prop := v = some (.int x) ∧ Fr n0 L ∧ h = h0
theorem ef_10 (m : MethodId) (x0 : Addr) : entryFrame m #[(.ref x0)] 1 = mkF m 0 #[.val (.ref x0)] [] := by first | (simp [entryFrame, mkF, argsToLocals, Value.category]; done) | rfl
set_option maxRecDepth 65536 in
set_option maxHeartbeats 40000000 in
theorem rm10 (l : Launch) (Z : State) (a0 : Array Value) (hw : ∀ d ∈ tables_1, d.before a0 Z = true) (ws : List Jvm.Cond) (a : Addr) (x : Int32) (h0 : Heap) (n0 : Nat) (Z0 : n0 ≤ h0.size) (F1 : Fld Z h0 a "java/lang/Integer" "value" "I" (.int x)) :
    own_Met l Z (⟨"java/lang/Integer", "intValue", "()I"⟩ : MethodName) jdk_33_method_27_code 1 (some .int) ({ frames := 0, cells := 0, slots := 0, locals := 0 } : Room) ws #[(.ref a)] h0 (Q10 Z a x h0 n0) := by
  refine own_enter (plainFor_of_name (by first | (simp [plainName, overriddenIn]; done) | decide +kernel)) ?_
  intro p e s m below meth c s₁ hx hby hml hown hnm hlk hret hZ X0 e0
  have N0 := Fr.nil n0
  refine own_go (fun _ q => castTop (ef_10 m a) q) ?_
  show own_Go _ _ _ _ _ _ _ (s₁.setTop (mkF m 0 #[.val (.ref a)] []))
  refine own_go (fun _ q => XS.aloadN X0.here hx rfl (hb hby d10_0) rfl rfl q) ?_
  show own_Go _ _ _ _ _ _ _ (s₁.setTop (mkF m 1 #[.val (.ref a)] [(.ref a)]))
  obtain ⟨T1, X1, e1, st1⟩ := getF X0 hx hZ hown (host := "") (Or.inl (hw _ (List.mem_of_getElem? (i := 67) rfl))) Via.refl e0 F1 (g := (mkF m 1 #[.val (.ref a)] [(.ref a)])) rfl rfl (hb hby d10_1)
  refine own_go st1 ?_
  show own_Go _ _ _ _ _ _ _ (T1.setTop (mkF m 4 #[.val (.ref a)] [(.int x)]))
  exact own_retI X1 hx hlk hret (hb hby d10_4) (by decide) (by decide) ⟨rfl, N0, e1⟩
def Q0 (Z : State) (q0 : Int64) (q1 : Int64) (q2 : Int64) (q3 : Int64) (p4 : Int32) (h0 : Heap) (n0 : Nat) (v : Option Value) (h : Heap) (L : List Loc) : Prop := v = some (.int 1) ∧ Fr n0 L
theorem ef_0 (m : MethodId) (x0 : Int64) (x1 : Int64) (x2 : Int64) (x3 : Int64) (x4 : Int32) : entryFrame m #[(.long x0), (.long x1), (.long x2), (.long x3), (.int x4)] maxLocals = mkF m 0 #[.val (.long x0), .second, .val (.long x1), .second, .val (.long x2), .second, .val (.long x3), .second, .val (.int x4), .unset, .unset, .unset, .unset] [] := by first | (simp [entryFrame, mkF, argsToLocals, Value.category, maxLocals]; done) | rfl
set_option maxRecDepth 65536 in
set_option maxHeartbeats 40000000 in
theorem rm0 (l : Launch) (Z : State) (a0 : Array Value) (hw : ∀ d ∈ tables_1, d.before a0 Z = true) (ws : List Jvm.Cond) (q0 : Int64) (q1 : Int64) (q2 : Int64) (q3 : Int64) (p4 : Int32) (h0 : Heap) (n0 : Nat) (Z0 : n0 ≤ h0.size) (HC : own_Cache Z h0) :
    own_Met l Z x code maxLocals ret room_1 ws #[(.long q0), (.long q1), (.long q2), (.long q3), (.int p4)] h0 (Q0 Z q0 q1 q2 q3 p4 h0 n0) := by
  refine own_enter (plainFor_of_name (by first | (simp [plainName, overriddenIn]; done) | decide +kernel)) ?_
  intro p e s m below meth c s₁ hx hby hml hown hnm hlk hret hZ X0 e0
  have N0 := Fr.nil n0
  refine own_go (fun _ q => castTop (ef_0 m q0 q1 q2 q3 p4) q) ?_
  show own_Go _ _ _ _ _ _ _ (s₁.setTop (mkF m 0 #[.val (.long q0), .second, .val (.long q1), .second, .val (.long q2), .second, .val (.long q3), .second, .val (.int p4), .unset, .unset, .unset, .unset] []))
  refine own_go (fun _ q => XS.iload X0.here hx rfl (hb hby at_0) rfl q) ?_
  show own_Go _ _ _ _ _ _ _ (s₁.setTop (mkF m 2 #[.val (.long q0), .second, .val (.long q1), .second, .val (.long q2), .second, .val (.long q3), .second, .val (.int p4), .unset, .unset, .unset, .unset] [(.int p4)]))
  refine own_static X0 hx hZ hown (hw _ (List.mem_of_getElem? (i := 0) rfl)) (hw _ (List.mem_of_getElem? (i := 1) rfl)) (hw _ (List.mem_of_getElem? (i := 2) rfl)) (hw _ (List.mem_of_getElem? (i := 3) rfl)) (by decide) e0 (argsL := [(.int p4)]) (rest := []) (rm1 l Z a0 hw [] p4 h0 n0 Z0 HC) 0 (by decide) (by decide) (by decide) (by decide) (by rw [hml]; rfl) pd_2 rfl rfl (Nat.le_of_eq rfl) (hb hby at_2) rfl ?_
  intro v1 T1 L1 X1 hQ1
  obtain ⟨b1, rfl, N1q, Ex1, Eb1, Fb1⟩ := hQ1
  have N1 := Fr.app N0 N1q
  show own_Go _ _ _ _ _ _ _ (T1.setTop (mkF m 5 #[.val (.long q0), .second, .val (.long q1), .second, .val (.long q2), .second, .val (.long q3), .second, .val (.int p4), .unset, .unset, .unset, .unset] [(.ref b1)]))
  have Z1 : n0 ≤ T1.heap.size := Nat.le_trans Z0 Ex1.1
  refine own_go (fun _ q => XS.astore X1.here hx rfl (hb hby at_5) rfl rfl (l' := #[.val (.long q0), .second, .val (.long q1), .second, .val (.long q2), .second, .val (.long q3), .second, .val (.int p4), .val (.ref b1), .unset, .unset, .unset]) rfl q) ?_
  show own_Go _ _ _ _ _ _ _ (T1.setTop (mkF m 7 #[.val (.long q0), .second, .val (.long q1), .second, .val (.long q2), .second, .val (.long q3), .second, .val (.int p4), .val (.ref b1), .unset, .unset, .unset] []))
  refine own_go (fun _ q => XS.iload X1.here hx rfl (hb hby at_7) rfl q) ?_
  show own_Go _ _ _ _ _ _ _ (T1.setTop (mkF m 9 #[.val (.long q0), .second, .val (.long q1), .second, .val (.long q2), .second, .val (.long q3), .second, .val (.int p4), .val (.ref b1), .unset, .unset, .unset] [(.int p4)]))
  refine own_go (fun _ q => XS.iconst X1.here hx rfl (hb hby at_9) q) ?_
  show own_Go _ _ _ _ _ _ _ (T1.setTop (mkF m 10 #[.val (.long q0), .second, .val (.long q1), .second, .val (.long q2), .second, .val (.long q3), .second, .val (.int p4), .val (.ref b1), .unset, .unset, .unset] [(.int (-1 : Int32)), (.int p4)]))
  refine own_go (fun _ q => XS.ixor X1.here hx rfl (hb hby at_10) rfl q) ?_
  show own_Go _ _ _ _ _ _ _ (T1.setTop (mkF m 11 #[.val (.long q0), .second, .val (.long q1), .second, .val (.long q2), .second, .val (.long q3), .second, .val (.int p4), .val (.ref b1), .unset, .unset, .unset] [(.int (p4 ^^^ (-1 : Int32)))]))
  refine own_static X1 hx hZ hown (hw _ (List.mem_of_getElem? (i := 0) rfl)) (hw _ (List.mem_of_getElem? (i := 1) rfl)) (hw _ (List.mem_of_getElem? (i := 2) rfl)) (hw _ (List.mem_of_getElem? (i := 3) rfl)) (by decide) rfl (argsL := [(.int (p4 ^^^ (-1 : Int32)))]) (rest := []) (rm1 l Z a0 hw [] (p4 ^^^ (-1 : Int32)) T1.heap n0 Z1 (HC.ext Ex1)) 0 (by decide) (by decide) (by decide) (by decide) (by rw [hml]; rfl) pd_2 rfl rfl (Nat.le_of_eq rfl) (hb hby at_11) rfl ?_
  intro v2 T2 L2 X2 hQ2
  obtain ⟨b2, rfl, N2q, Ex2, Eb2, Fb2⟩ := hQ2
  have N2 := Fr.app N1 N2q
  show own_Go _ _ _ _ _ _ _ (T2.setTop (mkF m 14 #[.val (.long q0), .second, .val (.long q1), .second, .val (.long q2), .second, .val (.long q3), .second, .val (.int p4), .val (.ref b1), .unset, .unset, .unset] [(.ref b2)]))
  have Z2 : n0 ≤ T2.heap.size := Nat.le_trans Z1 Ex2.1
  refine own_go (fun _ q => XS.astore X2.here hx rfl (hb hby at_14) rfl rfl (l' := #[.val (.long q0), .second, .val (.long q1), .second, .val (.long q2), .second, .val (.long q3), .second, .val (.int p4), .val (.ref b1), .val (.ref b2), .unset, .unset]) rfl q) ?_
  show own_Go _ _ _ _ _ _ _ (T2.setTop (mkF m 16 #[.val (.long q0), .second, .val (.long q1), .second, .val (.long q2), .second, .val (.long q3), .second, .val (.int p4), .val (.ref b1), .val (.ref b2), .unset, .unset] []))
  obtain ⟨T3, h3, X3, e3, E3, A3, D3, -, st3⟩ := newO X2 hx hZ hown (hw _ (List.mem_of_getElem? (i := 7) rfl)) (hw _ (List.mem_of_getElem? (i := 8) rfl)) (hw _ (List.mem_of_getElem? (i := 9) rfl)) rfl (g := (mkF m 16 #[.val (.long q0), .second, .val (.long q1), .second, .val (.long q2), .second, .val (.long q3), .second, .val (.int p4), .val (.ref b1), .val (.ref b2), .unset, .unset] [])) rfl (hb hby at_16) (by decide) (by decide)
  obtain ⟨b3, g3⟩ : ∃ z, z = T2.heap.size := ⟨_, rfl⟩
  rw [← g3] at A3 D3 st3
  have f4 := (Eb1.ext Ex2)
  have nq5 : b1 ≠ b3 := Nat.ne_of_lt (Nat.lt_of_lt_of_eq (f4).lt g3.symm)
  have nq6 : b2 ≠ b3 := Nat.ne_of_lt (Nat.lt_of_lt_of_eq (Eb2).lt g3.symm)
  have G3 : n0 ≤ b3 := by have := Z2; omega
  have Z3 : n0 ≤ h3.size := Nat.le_trans Z2 E3.1
  have Fn3_kinds : Fld Z h3 b3 "com/example/meldbook/meldbook/verdict/OffsetQueue" "kinds" "[Ljava/lang/Object;" .null := D3 (Or.inl (hw _ (List.mem_of_getElem? (i := 19) rfl))) (ty := (.array (.object "java/lang/Object"))) (by decide)
  have Fn3_firsts : Fld Z h3 b3 "com/example/meldbook/meldbook/verdict/OffsetQueue" "firsts" "[J" .null := D3 (Or.inl (hw _ (List.mem_of_getElem? (i := 22) rfl))) (ty := (.array .long)) (by decide)
  have Fn3_seconds : Fld Z h3 b3 "com/example/meldbook/meldbook/verdict/OffsetQueue" "seconds" "[J" .null := D3 (Or.inl (hw _ (List.mem_of_getElem? (i := 24) rfl))) (ty := (.array .long)) (by decide)
  have Fn3_head : Fld Z h3 b3 "com/example/meldbook/meldbook/verdict/OffsetQueue" "head" "I" (.int (0 : Int32)) := D3 (Or.inl (hw _ (List.mem_of_getElem? (i := 31) rfl))) (ty := .int) (by decide)
  have Fn3_count : Fld Z h3 b3 "com/example/meldbook/meldbook/verdict/OffsetQueue" "count" "I" (.int (0 : Int32)) := D3 (Or.inl (hw _ (List.mem_of_getElem? (i := 33) rfl))) (ty := .int) (by decide)
  refine own_go st3 ?_
  show own_Go _ _ _ _ _ _ _ (T3.setTop (mkF m 19 #[.val (.long q0), .second, .val (.long q1), .second, .val (.long q2), .second, .val (.long q3), .second, .val (.int p4), .val (.ref b1), .val (.ref b2), .unset, .unset] [(.ref b3)]))
  refine own_go (fun _ q => XS.dup X3.here hx rfl (hb hby at_19) rfl rfl q) ?_
  show own_Go _ _ _ _ _ _ _ (T3.setTop (mkF m 20 #[.val (.long q0), .second, .val (.long q1), .second, .val (.long q2), .second, .val (.long q3), .second, .val (.int p4), .val (.ref b1), .val (.ref b2), .unset, .unset] [(.ref b3), (.ref b3)]))
  have f7 := (f4.ext E3)
  have f8 := (Eb2.ext E3)
  refine own_init X3 hx hZ rfl hown (hw _ (List.mem_of_getElem? (i := 10) rfl)) (hw _ (List.mem_of_getElem? (i := 11) rfl)) (hw _ (List.mem_of_getElem? (i := 9) rfl)) (hw _ (List.mem_of_getElem? (i := 12) rfl)) (by decide) e3 (a := b3) (argsL := []) (rest := [(.ref b3)]) (rm2 l Z a0 hw [] b3 h3 n0 Z3 A3 Fn3_kinds Fn3_firsts Fn3_seconds Fn3_head Fn3_count G3) 1 (by decide) (by decide) (by decide) (by decide) (by rw [hml]; rfl) pd_0 rfl rfl (Nat.le_of_eq rfl) (hb hby at_20) rfl ?_
  intro v9 T9 L9 X9 hQ9
  obtain ⟨rfl, N9q, K9, ka, fa, sa, Eo, Fk, Ff, Fs, Fh, Fc, Ak, Af, As, gk, gf, gs, szk, szf, szs, ne4, ne5, ne6, STO⟩ := hQ9
  have N9 := Fr.app N2 N9q
  show own_Go _ _ _ _ _ _ _ (T9.setTop (mkF m 23 #[.val (.long q0), .second, .val (.long q1), .second, .val (.long q2), .second, .val (.long q3), .second, .val (.int p4), .val (.ref b1), .val (.ref b2), .unset, .unset] [(.ref b3)]))
  have Z9 : n0 ≤ T9.heap.size := Nat.le_trans Z3 K9.1
  have ne_b1_ka : b1 ≠ ka := Nat.ne_of_lt (Nat.lt_of_lt_of_le (f7).lt szk)
  have ne_b1_fa : b1 ≠ fa := Nat.ne_of_lt (Nat.lt_of_lt_of_le (f7).lt szf)
  have ne_b1_sa : b1 ≠ sa := Nat.ne_of_lt (Nat.lt_of_lt_of_le (f7).lt szs)
  have ne_b2_ka : b2 ≠ ka := Nat.ne_of_lt (Nat.lt_of_lt_of_le (f8).lt szk)
  have ne_b2_fa : b2 ≠ fa := Nat.ne_of_lt (Nat.lt_of_lt_of_le (f8).lt szf)
  have ne_b2_sa : b2 ≠ sa := Nat.ne_of_lt (Nat.lt_of_lt_of_le (f8).lt szs)
  have ne_b3_ka : b3 ≠ ka := Nat.ne_of_lt (Nat.lt_of_lt_of_le (A3).lt szk)
  have ne_b3_fa : b3 ≠ fa := Nat.ne_of_lt (Nat.lt_of_lt_of_le (A3).lt szf)
  have ne_b3_sa : b3 ≠ sa := Nat.ne_of_lt (Nat.lt_of_lt_of_le (A3).lt szs)
  have ST1 : ∀ y, Ins Z T9.heap y "java/lang/Object" true → Sto Z T9.heap ka (.ref y) := STO
  have f10 := (f7.keep K9)
  have SA := STO b1 (Ins.of_exa f10 (hw _ (List.mem_of_getElem? (i := 34) rfl)))
  have f11 := (f8.keep K9)
  have SB := STO b2 (Ins.of_exa f11 (hw _ (List.mem_of_getElem? (i := 34) rfl)))
  refine own_go (fun _ q => XS.astore X9.here hx rfl (hb hby at_23) rfl rfl (l' := #[.val (.long q0), .second, .val (.long q1), .second, .val (.long q2), .second, .val (.long q3), .second, .val (.int p4), .val (.ref b1), .val (.ref b2), .val (.ref b3), .unset]) rfl q) ?_
  show own_Go _ _ _ _ _ _ _ (T9.setTop (mkF m 25 #[.val (.long q0), .second, .val (.long q1), .second, .val (.long q2), .second, .val (.long q3), .second, .val (.int p4), .val (.ref b1), .val (.ref b2), .val (.ref b3), .unset] []))
  refine own_go (fun _ q => XS.aload X9.here hx rfl (hb hby at_25) rfl rfl q) ?_
  show own_Go _ _ _ _ _ _ _ (T9.setTop (mkF m 27 #[.val (.long q0), .second, .val (.long q1), .second, .val (.long q2), .second, .val (.long q3), .second, .val (.int p4), .val (.ref b1), .val (.ref b2), .val (.ref b3), .unset] [(.ref b3)]))
  refine own_go (fun _ q => XS.aload X9.here hx rfl (hb hby at_27) rfl rfl q) ?_
  show own_Go _ _ _ _ _ _ _ (T9.setTop (mkF m 29 #[.val (.long q0), .second, .val (.long q1), .second, .val (.long q2), .second, .val (.long q3), .second, .val (.int p4), .val (.ref b1), .val (.ref b2), .val (.ref b3), .unset] [(.ref b1), (.ref b3)]))
  refine own_go (fun _ q => XS.lloadN X9.here hx rfl (hb hby at_29) rfl q) ?_
  show own_Go _ _ _ _ _ _ _ (T9.setTop (mkF m 30 #[.val (.long q0), .second, .val (.long q1), .second, .val (.long q2), .second, .val (.long q3), .second, .val (.int p4), .val (.ref b1), .val (.ref b2), .val (.ref b3), .unset] [(.long q0), (.ref b1), (.ref b3)]))
  refine own_go (fun _ q => XS.lloadN X9.here hx rfl (hb hby at_30) rfl q) ?_
  show own_Go _ _ _ _ _ _ _ (T9.setTop (mkF m 31 #[.val (.long q0), .second, .val (.long q1), .second, .val (.long q2), .second, .val (.long q3), .second, .val (.int p4), .val (.ref b1), .val (.ref b2), .val (.ref b3), .unset] [(.long q1), (.long q0), (.ref b1), (.ref b3)]))
  refine own_virtual X9 hx hZ hown (hw _ (List.mem_of_getElem? (i := 25) rfl)) (hw _ (List.mem_of_getElem? (i := 26) rfl)) (hw _ (List.mem_of_getElem? (i := 28) rfl)) (hw _ (List.mem_of_getElem? (i := 27) rfl)) (hw _ (List.mem_of_getElem? (i := 9) rfl)) (hw _ (List.mem_of_getElem? (i := 29) rfl)) (by decide) rfl (a := b3) Eo (argsL := [(.ref b1), (.long q0), (.long q1)]) (rest := []) (rm4 l Z a0 hw [] b3 ka fa sa (0 : Int32) (0 : Int32) (fun _ => .null) (fun _ => 0) (fun _ => 0) b1 q0 q1 0 T9.heap n0 Z9 Eo Fk Ff Fs Fh Fc Ak Af As ne_b3_ka ne_b3_fa ne_b3_sa ne4 ne5 ne6 G3 gk gf gs rfl (by decide) SA) 0 (by decide) (by decide) (by decide) (by decide) (by rw [hml]; rfl) pd_3 rfl rfl (Nat.le_of_eq rfl) (hb hby at_31) rfl ?_
  intro v12 T12 L12 X12 hQ12
  obtain ⟨rfl, N12q, K12, Eo0, Fk0, Ff0, Fs0, Fh0, Fc0, Ak0, Af0, As0, STk0⟩ := hQ12
  have N12 := Fr.app N9 N12q
  show own_Go _ _ _ _ _ _ _ (T12.setTop (mkF m 34 #[.val (.long q0), .second, .val (.long q1), .second, .val (.long q2), .second, .val (.long q3), .second, .val (.int p4), .val (.ref b1), .val (.ref b2), .val (.ref b3), .unset] []))
  have Z12 : n0 ≤ T12.heap.size := Nat.le_trans Z9 K12.1
  have SB' := STk0 _ SB
  refine own_go (fun _ q => XS.aload X12.here hx rfl (hb hby at_34) rfl rfl q) ?_
  show own_Go _ _ _ _ _ _ _ (T12.setTop (mkF m 36 #[.val (.long q0), .second, .val (.long q1), .second, .val (.long q2), .second, .val (.long q3), .second, .val (.int p4), .val (.ref b1), .val (.ref b2), .val (.ref b3), .unset] [(.ref b3)]))
  refine own_go (fun _ q => XS.aload X12.here hx rfl (hb hby at_36) rfl rfl q) ?_
  show own_Go _ _ _ _ _ _ _ (T12.setTop (mkF m 38 #[.val (.long q0), .second, .val (.long q1), .second, .val (.long q2), .second, .val (.long q3), .second, .val (.int p4), .val (.ref b1), .val (.ref b2), .val (.ref b3), .unset] [(.ref b2), (.ref b3)]))
  refine own_go (fun _ q => XS.lload X12.here hx rfl (hb hby at_38) rfl q) ?_
  show own_Go _ _ _ _ _ _ _ (T12.setTop (mkF m 40 #[.val (.long q0), .second, .val (.long q1), .second, .val (.long q2), .second, .val (.long q3), .second, .val (.int p4), .val (.ref b1), .val (.ref b2), .val (.ref b3), .unset] [(.long q2), (.ref b2), (.ref b3)]))
  refine own_go (fun _ q => XS.lload X12.here hx rfl (hb hby at_40) rfl q) ?_
  show own_Go _ _ _ _ _ _ _ (T12.setTop (mkF m 42 #[.val (.long q0), .second, .val (.long q1), .second, .val (.long q2), .second, .val (.long q3), .second, .val (.int p4), .val (.ref b1), .val (.ref b2), .val (.ref b3), .unset] [(.long q3), (.long q2), (.ref b2), (.ref b3)]))
  refine own_virtual X12 hx hZ hown (hw _ (List.mem_of_getElem? (i := 25) rfl)) (hw _ (List.mem_of_getElem? (i := 26) rfl)) (hw _ (List.mem_of_getElem? (i := 28) rfl)) (hw _ (List.mem_of_getElem? (i := 27) rfl)) (hw _ (List.mem_of_getElem? (i := 9) rfl)) (hw _ (List.mem_of_getElem? (i := 29) rfl)) (by decide) rfl (a := b3) Eo0 (argsL := [(.ref b2), (.long q2), (.long q3)]) (rest := []) (rm4 l Z a0 hw [] b3 ka fa sa (0 : Int32) ((0 : Int32) + 1) (fun j => if j = 0 then .ref b1 else (fun _ => .null) j) (fun j => if j = 0 then q0 else (fun _ => 0) j) (fun j => if j = 0 then q1 else (fun _ => 0) j) b2 q2 q3 1 T12.heap n0 Z12 Eo0 Fk0 Ff0 Fs0 Fh0 Fc0 Ak0 Af0 As0 ne_b3_ka ne_b3_fa ne_b3_sa ne4 ne5 ne6 G3 gk gf gs rfl (by decide) SB') 0 (by decide) (by decide) (by decide) (by decide) (by rw [hml]; rfl) pd_3 rfl rfl (Nat.le_of_eq rfl) (hb hby at_42) rfl ?_
  intro v13 T13 L13 X13 hQ13
  obtain ⟨rfl, N13q, K13, Eo1, Fk1, Ff1, Fs1, Fh1, Fc1, Ak1, Af1, As1, STk1⟩ := hQ13
  have N13 := Fr.app N12 N13q
  show own_Go _ _ _ _ _ _ _ (T13.setTop (mkF m 45 #[.val (.long q0), .second, .val (.long q1), .second, .val (.long q2), .second, .val (.long q3), .second, .val (.int p4), .val (.ref b1), .val (.ref b2), .val (.ref b3), .unset] []))
  have Z13 : n0 ≤ T13.heap.size := Nat.le_trans Z12 K13.1
  refine own_go (fun _ q => XS.aload X13.here hx rfl (hb hby at_45) rfl rfl q) ?_
  show own_Go _ _ _ _ _ _ _ (T13.setTop (mkF m 47 #[.val (.long q0), .second, .val (.long q1), .second, .val (.long q2), .second, .val (.long q3), .second, .val (.int p4), .val (.ref b1), .val (.ref b2), .val (.ref b3), .unset] [(.ref b3)]))
  refine own_virtual X13 hx hZ hown (hw _ (List.mem_of_getElem? (i := 35) rfl)) (hw _ (List.mem_of_getElem? (i := 36) rfl)) (hw _ (List.mem_of_getElem? (i := 38) rfl)) (hw _ (List.mem_of_getElem? (i := 37) rfl)) (hw _ (List.mem_of_getElem? (i := 9) rfl)) (hw _ (List.mem_of_getElem? (i := 39) rfl)) (by decide) rfl (a := b3) Eo1 (argsL := []) (rest := []) (rm5 l Z a0 hw [] b3 ka fa sa (0 : Int32) (((0 : Int32) + 1) + 1) T13.heap n0 Z13 Eo1 Fk1 Ff1 Fs1 Fh1 Fc1 G3) 0 (by decide) (by decide) (by decide) (by decide) (by rw [hml]; rfl) pd_0 rfl rfl (Nat.le_of_eq rfl) (hb hby at_47) rfl ?_
  intro v14 T14 L14 X14 hQ14
  obtain ⟨rfl, N14q, K14, Er0, Rk0, Rf0, Rs0, Rh0, Rc0⟩ := hQ14
  have N14 := Fr.app N13 N14q
  show own_Go _ _ _ _ _ _ _ (T14.setTop (mkF m 50 #[.val (.long q0), .second, .val (.long q1), .second, .val (.long q2), .second, .val (.long q3), .second, .val (.int p4), .val (.ref b1), .val (.ref b2), .val (.ref b3), .unset] []))
  have Z14 : n0 ≤ T14.heap.size := Nat.le_trans Z13 K14.1
  refine own_go (fun _ q => XS.aload X14.here hx rfl (hb hby at_50) rfl rfl q) ?_
  show own_Go _ _ _ _ _ _ _ (T14.setTop (mkF m 52 #[.val (.long q0), .second, .val (.long q1), .second, .val (.long q2), .second, .val (.long q3), .second, .val (.int p4), .val (.ref b1), .val (.ref b2), .val (.ref b3), .unset] [(.ref b3)]))
  refine own_virtual X14 hx hZ hown (hw _ (List.mem_of_getElem? (i := 40) rfl)) (hw _ (List.mem_of_getElem? (i := 41) rfl)) (hw _ (List.mem_of_getElem? (i := 43) rfl)) (hw _ (List.mem_of_getElem? (i := 42) rfl)) (hw _ (List.mem_of_getElem? (i := 9) rfl)) (hw _ (List.mem_of_getElem? (i := 44) rfl)) (by decide) rfl (a := b3) Er0 (argsL := []) (rest := []) (rm6 l Z a0 hw [] b3 ((((0 : Int32) + 1) + 1) - 1) T14.heap n0 Z14 Rc0) 0 (by decide) (by decide) (by decide) (by decide) (by rw [hml]; rfl) pd_4 rfl rfl (Nat.le_of_eq rfl) (hb hby at_52) rfl ?_
  intro v15 T15 L15 X15 hQ15
  obtain ⟨rfl, N15q, e15q⟩ := hQ15
  have N15 := Fr.app N14 N15q
  show own_Go _ _ _ _ _ _ _ (T15.setTop (mkF m 55 #[.val (.long q0), .second, .val (.long q1), .second, .val (.long q2), .second, .val (.long q3), .second, .val (.int p4), .val (.ref b1), .val (.ref b2), .val (.ref b3), .unset] [(.int (0 : Int32))]))
  refine own_go (fun _ q => XS.ifNo X15.here hx rfl (hb hby at_55) rfl ((if0 _ _).trans (teq (by decide : (0 : Int32) = (0 : Int32))).2) q) ?_
  show own_Go _ _ _ _ _ _ _ (T15.setTop (mkF m 58 #[.val (.long q0), .second, .val (.long q1), .second, .val (.long q2), .second, .val (.long q3), .second, .val (.int p4), .val (.ref b1), .val (.ref b2), .val (.ref b3), .unset] []))
  refine own_go (fun _ q => XS.iconst X15.here hx rfl (hb hby at_58) q) ?_
  show own_Go _ _ _ _ _ _ _ (T15.setTop (mkF m 59 #[.val (.long q0), .second, .val (.long q1), .second, .val (.long q2), .second, .val (.long q3), .second, .val (.int p4), .val (.ref b1), .val (.ref b2), .val (.ref b3), .unset] [(.int (1 : Int32))]))
  refine own_go (fun _ q => XS.goto X15.here hx rfl (pc0 := 59) (pc' := 63) rfl (hb hby at_59) (by decide) (by decide) q) ?_
  show own_Go _ _ _ _ _ _ _ (T15.setTop (mkF m 63 #[.val (.long q0), .second, .val (.long q1), .second, .val (.long q2), .second, .val (.long q3), .second, .val (.int p4), .val (.ref b1), .val (.ref b2), .val (.ref b3), .unset] [(.int (1 : Int32))]))
  refine own_go (fun _ q => XS.istore X15.here hx rfl (hb hby at_63) rfl (l' := #[.val (.long q0), .second, .val (.long q1), .second, .val (.long q2), .second, .val (.long q3), .second, .val (.int p4), .val (.ref b1), .val (.ref b2), .val (.ref b3), .val (.int (1 : Int32))]) rfl q) ?_
  show own_Go _ _ _ _ _ _ _ (T15.setTop (mkF m 65 #[.val (.long q0), .second, .val (.long q1), .second, .val (.long q2), .second, .val (.long q3), .second, .val (.int p4), .val (.ref b1), .val (.ref b2), .val (.ref b3), .val (.int (1 : Int32))] []))
  refine own_go (fun _ q => XS.iload X15.here hx rfl (hb hby at_65) rfl q) ?_
  show own_Go _ _ _ _ _ _ _ (T15.setTop (mkF m 67 #[.val (.long q0), .second, .val (.long q1), .second, .val (.long q2), .second, .val (.long q3), .second, .val (.int p4), .val (.ref b1), .val (.ref b2), .val (.ref b3), .val (.int (1 : Int32))] [(.int (1 : Int32))]))
  refine own_go (fun _ q => XS.ifNo X15.here hx rfl (hb hby at_67) rfl ((if0 _ _).trans (feq (by decide : ¬ ((1 : Int32) = (0 : Int32)))).1) q) ?_
  show own_Go _ _ _ _ _ _ _ (T15.setTop (mkF m 70 #[.val (.long q0), .second, .val (.long q1), .second, .val (.long q2), .second, .val (.long q3), .second, .val (.int p4), .val (.ref b1), .val (.ref b2), .val (.ref b3), .val (.int (1 : Int32))] []))
  refine own_go (fun _ q => XS.aload X15.here hx rfl (hb hby at_70) rfl rfl q) ?_
  show own_Go _ _ _ _ _ _ _ (T15.setTop (mkF m 72 #[.val (.long q0), .second, .val (.long q1), .second, .val (.long q2), .second, .val (.long q3), .second, .val (.int p4), .val (.ref b1), .val (.ref b2), .val (.ref b3), .val (.int (1 : Int32))] [(.ref b3)]))
  have f16 := (Af1.keep K14 (ninS (Ne.symm ne_b3_fa) nin0))
  refine own_virtual X15 hx hZ hown (hw _ (List.mem_of_getElem? (i := 45) rfl)) (hw _ (List.mem_of_getElem? (i := 46) rfl)) (hw _ (List.mem_of_getElem? (i := 48) rfl)) (hw _ (List.mem_of_getElem? (i := 47) rfl)) (hw _ (List.mem_of_getElem? (i := 9) rfl)) (hw _ (List.mem_of_getElem? (i := 49) rfl)) (by decide) e15q (a := b3) Er0 (argsL := []) (rest := []) (rm7 l Z a0 hw [] b3 fa ((0 : Int32) + 1) (fun j => .long ((fun j => if j = 1 then q2 else (fun j => if j = 0 then q0 else (fun _ => 0) j) j) j)) 1 q2 T14.heap n0 Z14 Rf0 Rh0 f16 rfl (by decide) rfl) 0 (by decide) (by decide) (by decide) (by decide) (by rw [hml]; rfl) pd_5 rfl rfl (Nat.le_of_eq rfl) (hb hby at_72) rfl ?_
  intro v17 T17 L17 X17 hQ17
  obtain ⟨rfl, N17q, e17q⟩ := hQ17
  have N17 := Fr.app N15 N17q
  show own_Go _ _ _ _ _ _ _ (T17.setTop (mkF m 75 #[.val (.long q0), .second, .val (.long q1), .second, .val (.long q2), .second, .val (.long q3), .second, .val (.int p4), .val (.ref b1), .val (.ref b2), .val (.ref b3), .val (.int (1 : Int32))] [(.long q2)]))
  refine own_go (fun _ q => XS.lload X17.here hx rfl (hb hby at_75) rfl q) ?_
  show own_Go _ _ _ _ _ _ _ (T17.setTop (mkF m 77 #[.val (.long q0), .second, .val (.long q1), .second, .val (.long q2), .second, .val (.long q3), .second, .val (.int p4), .val (.ref b1), .val (.ref b2), .val (.ref b3), .val (.int (1 : Int32))] [(.long q2), (.long q2)]))
  refine own_go (fun _ q => XS.lcmp X17.here hx rfl (hb hby at_77) rfl q) ?_
  show own_Go _ _ _ _ _ _ _ (T17.setTop (mkF m 78 #[.val (.long q0), .second, .val (.long q1), .second, .val (.long q2), .second, .val (.long q3), .second, .val (.int p4), .val (.ref b1), .val (.ref b2), .val (.ref b3), .val (.int (1 : Int32))] [(.int (lcmpW q2 q2))]))
  refine own_go (fun _ q => XS.ifNo X17.here hx rfl (hb hby at_78) rfl ((if0 _ _).trans (teq ((lw_eq _ _).mpr rfl)).2) q) ?_
  show own_Go _ _ _ _ _ _ _ (T17.setTop (mkF m 81 #[.val (.long q0), .second, .val (.long q1), .second, .val (.long q2), .second, .val (.long q3), .second, .val (.int p4), .val (.ref b1), .val (.ref b2), .val (.ref b3), .val (.int (1 : Int32))] []))
  refine own_go (fun _ q => XS.iconst X17.here hx rfl (hb hby at_81) q) ?_
  show own_Go _ _ _ _ _ _ _ (T17.setTop (mkF m 82 #[.val (.long q0), .second, .val (.long q1), .second, .val (.long q2), .second, .val (.long q3), .second, .val (.int p4), .val (.ref b1), .val (.ref b2), .val (.ref b3), .val (.int (1 : Int32))] [(.int (1 : Int32))]))
  refine own_go (fun _ q => XS.goto X17.here hx rfl (pc0 := 82) (pc' := 86) rfl (hb hby at_82) (by decide) (by decide) q) ?_
  show own_Go _ _ _ _ _ _ _ (T17.setTop (mkF m 86 #[.val (.long q0), .second, .val (.long q1), .second, .val (.long q2), .second, .val (.long q3), .second, .val (.int p4), .val (.ref b1), .val (.ref b2), .val (.ref b3), .val (.int (1 : Int32))] [(.int (1 : Int32))]))
  refine own_go (fun _ q => XS.istore X17.here hx rfl (hb hby at_86) rfl (l' := #[.val (.long q0), .second, .val (.long q1), .second, .val (.long q2), .second, .val (.long q3), .second, .val (.int p4), .val (.ref b1), .val (.ref b2), .val (.ref b3), .val (.int (1 : Int32))]) rfl q) ?_
  show own_Go _ _ _ _ _ _ _ (T17.setTop (mkF m 88 #[.val (.long q0), .second, .val (.long q1), .second, .val (.long q2), .second, .val (.long q3), .second, .val (.int p4), .val (.ref b1), .val (.ref b2), .val (.ref b3), .val (.int (1 : Int32))] []))
  refine own_go (fun _ q => XS.iload X17.here hx rfl (hb hby at_88) rfl q) ?_
  show own_Go _ _ _ _ _ _ _ (T17.setTop (mkF m 90 #[.val (.long q0), .second, .val (.long q1), .second, .val (.long q2), .second, .val (.long q3), .second, .val (.int p4), .val (.ref b1), .val (.ref b2), .val (.ref b3), .val (.int (1 : Int32))] [(.int (1 : Int32))]))
  refine own_go (fun _ q => XS.ifNo X17.here hx rfl (hb hby at_90) rfl ((if0 _ _).trans (feq (by decide : ¬ ((1 : Int32) = (0 : Int32)))).1) q) ?_
  show own_Go _ _ _ _ _ _ _ (T17.setTop (mkF m 93 #[.val (.long q0), .second, .val (.long q1), .second, .val (.long q2), .second, .val (.long q3), .second, .val (.int p4), .val (.ref b1), .val (.ref b2), .val (.ref b3), .val (.int (1 : Int32))] []))
  refine own_go (fun _ q => XS.aload X17.here hx rfl (hb hby at_93) rfl rfl q) ?_
  show own_Go _ _ _ _ _ _ _ (T17.setTop (mkF m 95 #[.val (.long q0), .second, .val (.long q1), .second, .val (.long q2), .second, .val (.long q3), .second, .val (.int p4), .val (.ref b1), .val (.ref b2), .val (.ref b3), .val (.int (1 : Int32))] [(.ref b3)]))
  have f18 := (As1.keep K14 (ninS (Ne.symm ne_b3_sa) nin0))
  refine own_virtual X17 hx hZ hown (hw _ (List.mem_of_getElem? (i := 50) rfl)) (hw _ (List.mem_of_getElem? (i := 51) rfl)) (hw _ (List.mem_of_getElem? (i := 53) rfl)) (hw _ (List.mem_of_getElem? (i := 52) rfl)) (hw _ (List.mem_of_getElem? (i := 9) rfl)) (hw _ (List.mem_of_getElem? (i := 54) rfl)) (by decide) e17q (a := b3) Er0 (argsL := []) (rest := []) (rm8 l Z a0 hw [] b3 sa ((0 : Int32) + 1) (fun j => .long ((fun j => if j = 1 then q3 else (fun j => if j = 0 then q1 else (fun _ => 0) j) j) j)) 1 q3 T14.heap n0 Z14 Rs0 Rh0 f18 rfl (by decide) rfl) 0 (by decide) (by decide) (by decide) (by decide) (by rw [hml]; rfl) pd_5 rfl rfl (Nat.le_of_eq rfl) (hb hby at_95) rfl ?_
  intro v19 T19 L19 X19 hQ19
  obtain ⟨rfl, N19q, e19q⟩ := hQ19
  have N19 := Fr.app N17 N19q
  show own_Go _ _ _ _ _ _ _ (T19.setTop (mkF m 98 #[.val (.long q0), .second, .val (.long q1), .second, .val (.long q2), .second, .val (.long q3), .second, .val (.int p4), .val (.ref b1), .val (.ref b2), .val (.ref b3), .val (.int (1 : Int32))] [(.long q3)]))
  refine own_go (fun _ q => XS.lload X19.here hx rfl (hb hby at_98) rfl q) ?_
  show own_Go _ _ _ _ _ _ _ (T19.setTop (mkF m 100 #[.val (.long q0), .second, .val (.long q1), .second, .val (.long q2), .second, .val (.long q3), .second, .val (.int p4), .val (.ref b1), .val (.ref b2), .val (.ref b3), .val (.int (1 : Int32))] [(.long q3), (.long q3)]))
  refine own_go (fun _ q => XS.lcmp X19.here hx rfl (hb hby at_100) rfl q) ?_
  show own_Go _ _ _ _ _ _ _ (T19.setTop (mkF m 101 #[.val (.long q0), .second, .val (.long q1), .second, .val (.long q2), .second, .val (.long q3), .second, .val (.int p4), .val (.ref b1), .val (.ref b2), .val (.ref b3), .val (.int (1 : Int32))] [(.int (lcmpW q3 q3))]))
  refine own_go (fun _ q => XS.ifNo X19.here hx rfl (hb hby at_101) rfl ((if0 _ _).trans (teq ((lw_eq _ _).mpr rfl)).2) q) ?_
  show own_Go _ _ _ _ _ _ _ (T19.setTop (mkF m 104 #[.val (.long q0), .second, .val (.long q1), .second, .val (.long q2), .second, .val (.long q3), .second, .val (.int p4), .val (.ref b1), .val (.ref b2), .val (.ref b3), .val (.int (1 : Int32))] []))
  refine own_go (fun _ q => XS.iconst X19.here hx rfl (hb hby at_104) q) ?_
  show own_Go _ _ _ _ _ _ _ (T19.setTop (mkF m 105 #[.val (.long q0), .second, .val (.long q1), .second, .val (.long q2), .second, .val (.long q3), .second, .val (.int p4), .val (.ref b1), .val (.ref b2), .val (.ref b3), .val (.int (1 : Int32))] [(.int (1 : Int32))]))
  refine own_go (fun _ q => XS.goto X19.here hx rfl (pc0 := 105) (pc' := 109) rfl (hb hby at_105) (by decide) (by decide) q) ?_
  show own_Go _ _ _ _ _ _ _ (T19.setTop (mkF m 109 #[.val (.long q0), .second, .val (.long q1), .second, .val (.long q2), .second, .val (.long q3), .second, .val (.int p4), .val (.ref b1), .val (.ref b2), .val (.ref b3), .val (.int (1 : Int32))] [(.int (1 : Int32))]))
  refine own_go (fun _ q => XS.istore X19.here hx rfl (hb hby at_109) rfl (l' := #[.val (.long q0), .second, .val (.long q1), .second, .val (.long q2), .second, .val (.long q3), .second, .val (.int p4), .val (.ref b1), .val (.ref b2), .val (.ref b3), .val (.int (1 : Int32))]) rfl q) ?_
  show own_Go _ _ _ _ _ _ _ (T19.setTop (mkF m 111 #[.val (.long q0), .second, .val (.long q1), .second, .val (.long q2), .second, .val (.long q3), .second, .val (.int p4), .val (.ref b1), .val (.ref b2), .val (.ref b3), .val (.int (1 : Int32))] []))
  refine own_go (fun _ q => XS.iload X19.here hx rfl (hb hby at_111) rfl q) ?_
  show own_Go _ _ _ _ _ _ _ (T19.setTop (mkF m 113 #[.val (.long q0), .second, .val (.long q1), .second, .val (.long q2), .second, .val (.long q3), .second, .val (.int p4), .val (.ref b1), .val (.ref b2), .val (.ref b3), .val (.int (1 : Int32))] [(.int (1 : Int32))]))
  refine own_go (fun _ q => XS.ifNo X19.here hx rfl (hb hby at_113) rfl ((if0 _ _).trans (feq (by decide : ¬ ((1 : Int32) = (0 : Int32)))).1) q) ?_
  show own_Go _ _ _ _ _ _ _ (T19.setTop (mkF m 116 #[.val (.long q0), .second, .val (.long q1), .second, .val (.long q2), .second, .val (.long q3), .second, .val (.int p4), .val (.ref b1), .val (.ref b2), .val (.ref b3), .val (.int (1 : Int32))] []))
  refine own_go (fun _ q => XS.aload X19.here hx rfl (hb hby at_116) rfl rfl q) ?_
  show own_Go _ _ _ _ _ _ _ (T19.setTop (mkF m 118 #[.val (.long q0), .second, .val (.long q1), .second, .val (.long q2), .second, .val (.long q3), .second, .val (.int p4), .val (.ref b1), .val (.ref b2), .val (.ref b3), .val (.int (1 : Int32))] [(.ref b3)]))
  have f20 := (Ak1.keep K14 (ninS (Ne.symm ne_b3_ka) nin0))
  refine own_virtual X19 hx hZ hown (hw _ (List.mem_of_getElem? (i := 55) rfl)) (hw _ (List.mem_of_getElem? (i := 56) rfl)) (hw _ (List.mem_of_getElem? (i := 58) rfl)) (hw _ (List.mem_of_getElem? (i := 57) rfl)) (hw _ (List.mem_of_getElem? (i := 9) rfl)) (hw _ (List.mem_of_getElem? (i := 59) rfl)) (by decide) e19q (a := b3) Er0 (argsL := []) (rest := []) (rm9 l Z a0 hw [] b3 ka ((0 : Int32) + 1) (fun j => if j = 1 then .ref b2 else (fun j => if j = 0 then .ref b1 else (fun _ => .null) j) j) 1 b2 T14.heap n0 Z14 Rk0 Rh0 f20 rfl (by decide) rfl) 0 (by decide) (by decide) (by decide) (by decide) (by rw [hml]; rfl) pd_6 rfl rfl (Nat.le_of_eq rfl) (hb hby at_118) rfl ?_
  intro v21 T21 L21 X21 hQ21
  obtain ⟨rfl, N21q, e21q⟩ := hQ21
  have N21 := Fr.app N19 N21q
  show own_Go _ _ _ _ _ _ _ (T21.setTop (mkF m 121 #[.val (.long q0), .second, .val (.long q1), .second, .val (.long q2), .second, .val (.long q3), .second, .val (.int p4), .val (.ref b1), .val (.ref b2), .val (.ref b3), .val (.int (1 : Int32))] [(.ref b2)]))
  have f22 := (((f11.keep K12).keep K13).keep K14)
  obtain ⟨T23, X23, e23, st23⟩ := castY X21 hx hZ hown (hw _ (List.mem_of_getElem? (i := 60) rfl)) e21q (Ins.self f22) (g := (mkF m 121 #[.val (.long q0), .second, .val (.long q1), .second, .val (.long q2), .second, .val (.long q3), .second, .val (.int p4), .val (.ref b1), .val (.ref b2), .val (.ref b3), .val (.int (1 : Int32))] [(.ref b2)])) rfl rfl (hb hby at_121)
  refine own_go st23 ?_
  show own_Go _ _ _ _ _ _ _ (T23.setTop (mkF m 124 #[.val (.long q0), .second, .val (.long q1), .second, .val (.long q2), .second, .val (.long q3), .second, .val (.int p4), .val (.ref b1), .val (.ref b2), .val (.ref b3), .val (.int (1 : Int32))] [(.ref b2)]))
  have f24 := (((((Fb2.ext E3).keep K9 (ninS nq6 nin0)).keep K12 (ninS nq6 (ninS ne_b2_ka (ninS ne_b2_fa (ninS ne_b2_sa nin0))))).keep K13 (ninS nq6 (ninS ne_b2_ka (ninS ne_b2_fa (ninS ne_b2_sa nin0))))).keep K14 (ninS nq6 nin0))
  refine own_virtual X23 hx hZ hown (hw _ (List.mem_of_getElem? (i := 62) rfl)) (hw _ (List.mem_of_getElem? (i := 63) rfl)) (hw _ (List.mem_of_getElem? (i := 65) rfl)) (hw _ (List.mem_of_getElem? (i := 64) rfl)) (hw _ (List.mem_of_getElem? (i := 2) rfl)) (hw _ (List.mem_of_getElem? (i := 66) rfl)) (by decide) e23 (a := b2) f22 (argsL := []) (rest := []) (rm10 l Z a0 hw [] b2 (p4 ^^^ (-1 : Int32)) T14.heap n0 Z14 f24) 0 (by decide) (by decide) (by decide) (by decide) (by rw [hml]; rfl) pd_7 rfl rfl (Nat.le_of_eq rfl) (hb hby at_124) rfl ?_
  intro v25 T25 L25 X25 hQ25
  obtain ⟨rfl, N25q, e25q⟩ := hQ25
  have N25 := Fr.app N21 N25q
  show own_Go _ _ _ _ _ _ _ (T25.setTop (mkF m 127 #[.val (.long q0), .second, .val (.long q1), .second, .val (.long q2), .second, .val (.long q3), .second, .val (.int p4), .val (.ref b1), .val (.ref b2), .val (.ref b3), .val (.int (1 : Int32))] [(.int (p4 ^^^ (-1 : Int32)))]))
  refine own_go (fun _ q => XS.iload X25.here hx rfl (hb hby at_127) rfl q) ?_
  show own_Go _ _ _ _ _ _ _ (T25.setTop (mkF m 129 #[.val (.long q0), .second, .val (.long q1), .second, .val (.long q2), .second, .val (.long q3), .second, .val (.int p4), .val (.ref b1), .val (.ref b2), .val (.ref b3), .val (.int (1 : Int32))] [(.int p4), (.int (p4 ^^^ (-1 : Int32)))]))
  refine own_go (fun _ q => XS.iconst X25.here hx rfl (hb hby at_129) q) ?_
  show own_Go _ _ _ _ _ _ _ (T25.setTop (mkF m 130 #[.val (.long q0), .second, .val (.long q1), .second, .val (.long q2), .second, .val (.long q3), .second, .val (.int p4), .val (.ref b1), .val (.ref b2), .val (.ref b3), .val (.int (1 : Int32))] [(.int (-1 : Int32)), (.int p4), (.int (p4 ^^^ (-1 : Int32)))]))
  refine own_go (fun _ q => XS.ixor X25.here hx rfl (hb hby at_130) rfl q) ?_
  show own_Go _ _ _ _ _ _ _ (T25.setTop (mkF m 131 #[.val (.long q0), .second, .val (.long q1), .second, .val (.long q2), .second, .val (.long q3), .second, .val (.int p4), .val (.ref b1), .val (.ref b2), .val (.ref b3), .val (.int (1 : Int32))] [(.int (p4 ^^^ (-1 : Int32))), (.int (p4 ^^^ (-1 : Int32)))]))
  refine own_go (fun _ q => XS.icmpNo X25.here hx rfl (hb hby at_131) rfl (teq rfl).2 q) ?_
  show own_Go _ _ _ _ _ _ _ (T25.setTop (mkF m 134 #[.val (.long q0), .second, .val (.long q1), .second, .val (.long q2), .second, .val (.long q3), .second, .val (.int p4), .val (.ref b1), .val (.ref b2), .val (.ref b3), .val (.int (1 : Int32))] []))
  refine own_go (fun _ q => XS.iconst X25.here hx rfl (hb hby at_134) q) ?_
  show own_Go _ _ _ _ _ _ _ (T25.setTop (mkF m 135 #[.val (.long q0), .second, .val (.long q1), .second, .val (.long q2), .second, .val (.long q3), .second, .val (.int p4), .val (.ref b1), .val (.ref b2), .val (.ref b3), .val (.int (1 : Int32))] [(.int (1 : Int32))]))
  refine own_go (fun _ q => XS.goto X25.here hx rfl (pc0 := 135) (pc' := 139) rfl (hb hby at_135) (by decide) (by decide) q) ?_
  show own_Go _ _ _ _ _ _ _ (T25.setTop (mkF m 139 #[.val (.long q0), .second, .val (.long q1), .second, .val (.long q2), .second, .val (.long q3), .second, .val (.int p4), .val (.ref b1), .val (.ref b2), .val (.ref b3), .val (.int (1 : Int32))] [(.int (1 : Int32))]))
  refine own_go (fun _ q => XS.istore X25.here hx rfl (hb hby at_139) rfl (l' := #[.val (.long q0), .second, .val (.long q1), .second, .val (.long q2), .second, .val (.long q3), .second, .val (.int p4), .val (.ref b1), .val (.ref b2), .val (.ref b3), .val (.int (1 : Int32))]) rfl q) ?_
  show own_Go _ _ _ _ _ _ _ (T25.setTop (mkF m 141 #[.val (.long q0), .second, .val (.long q1), .second, .val (.long q2), .second, .val (.long q3), .second, .val (.int p4), .val (.ref b1), .val (.ref b2), .val (.ref b3), .val (.int (1 : Int32))] []))
  refine own_go (fun _ q => XS.aload X25.here hx rfl (hb hby at_141) rfl rfl q) ?_
  show own_Go _ _ _ _ _ _ _ (T25.setTop (mkF m 143 #[.val (.long q0), .second, .val (.long q1), .second, .val (.long q2), .second, .val (.long q3), .second, .val (.int p4), .val (.ref b1), .val (.ref b2), .val (.ref b3), .val (.int (1 : Int32))] [(.ref b3)]))
  refine own_virtual X25 hx hZ hown (hw _ (List.mem_of_getElem? (i := 35) rfl)) (hw _ (List.mem_of_getElem? (i := 36) rfl)) (hw _ (List.mem_of_getElem? (i := 38) rfl)) (hw _ (List.mem_of_getElem? (i := 37) rfl)) (hw _ (List.mem_of_getElem? (i := 9) rfl)) (hw _ (List.mem_of_getElem? (i := 39) rfl)) (by decide) e25q (a := b3) Er0 (argsL := []) (rest := []) (rm5 l Z a0 hw [] b3 ka fa sa ((0 : Int32) + 1) ((((0 : Int32) + 1) + 1) - 1) T14.heap n0 Z14 Er0 Rk0 Rf0 Rs0 Rh0 Rc0 G3) 0 (by decide) (by decide) (by decide) (by decide) (by rw [hml]; rfl) pd_0 rfl rfl (Nat.le_of_eq rfl) (hb hby at_143) rfl ?_
  intro v26 T26 L26 X26 hQ26
  obtain ⟨rfl, N26q, K26, Er1, Rk1, Rf1, Rs1, Rh1, Rc1⟩ := hQ26
  have N26 := Fr.app N25 N26q
  show own_Go _ _ _ _ _ _ _ (T26.setTop (mkF m 146 #[.val (.long q0), .second, .val (.long q1), .second, .val (.long q2), .second, .val (.long q3), .second, .val (.int p4), .val (.ref b1), .val (.ref b2), .val (.ref b3), .val (.int (1 : Int32))] []))
  have Z26 : n0 ≤ T26.heap.size := Nat.le_trans Z14 K26.1
  refine own_go (fun _ q => XS.iload X26.here hx rfl (hb hby at_146) rfl q) ?_
  show own_Go _ _ _ _ _ _ _ (T26.setTop (mkF m 148 #[.val (.long q0), .second, .val (.long q1), .second, .val (.long q2), .second, .val (.long q3), .second, .val (.int p4), .val (.ref b1), .val (.ref b2), .val (.ref b3), .val (.int (1 : Int32))] [(.int (1 : Int32))]))
  refine own_go (fun _ q => XS.ifNo X26.here hx rfl (hb hby at_148) rfl ((if0 _ _).trans (feq (by decide : ¬ ((1 : Int32) = (0 : Int32)))).1) q) ?_
  show own_Go _ _ _ _ _ _ _ (T26.setTop (mkF m 151 #[.val (.long q0), .second, .val (.long q1), .second, .val (.long q2), .second, .val (.long q3), .second, .val (.int p4), .val (.ref b1), .val (.ref b2), .val (.ref b3), .val (.int (1 : Int32))] []))
  refine own_go (fun _ q => XS.aload X26.here hx rfl (hb hby at_151) rfl rfl q) ?_
  show own_Go _ _ _ _ _ _ _ (T26.setTop (mkF m 153 #[.val (.long q0), .second, .val (.long q1), .second, .val (.long q2), .second, .val (.long q3), .second, .val (.int p4), .val (.ref b1), .val (.ref b2), .val (.ref b3), .val (.int (1 : Int32))] [(.ref b3)]))
  refine own_virtual X26 hx hZ hown (hw _ (List.mem_of_getElem? (i := 40) rfl)) (hw _ (List.mem_of_getElem? (i := 41) rfl)) (hw _ (List.mem_of_getElem? (i := 43) rfl)) (hw _ (List.mem_of_getElem? (i := 42) rfl)) (hw _ (List.mem_of_getElem? (i := 9) rfl)) (hw _ (List.mem_of_getElem? (i := 44) rfl)) (by decide) rfl (a := b3) Er1 (argsL := []) (rest := []) (rm6 l Z a0 hw [] b3 (((((0 : Int32) + 1) + 1) - 1) - 1) T26.heap n0 Z26 Rc1) 0 (by decide) (by decide) (by decide) (by decide) (by rw [hml]; rfl) pd_4 rfl rfl (Nat.le_of_eq rfl) (hb hby at_153) rfl ?_
  intro v27 T27 L27 X27 hQ27
  obtain ⟨rfl, N27q, e27q⟩ := hQ27
  have N27 := Fr.app N26 N27q
  show own_Go _ _ _ _ _ _ _ (T27.setTop (mkF m 156 #[.val (.long q0), .second, .val (.long q1), .second, .val (.long q2), .second, .val (.long q3), .second, .val (.int p4), .val (.ref b1), .val (.ref b2), .val (.ref b3), .val (.int (1 : Int32))] [(.int (1 : Int32))]))
  refine own_go (fun _ q => XS.ifNo X27.here hx rfl (hb hby at_156) rfl ((if0 _ _).trans (feq (by decide : ¬ ((1 : Int32) = (0 : Int32)))).1) q) ?_
  show own_Go _ _ _ _ _ _ _ (T27.setTop (mkF m 159 #[.val (.long q0), .second, .val (.long q1), .second, .val (.long q2), .second, .val (.long q3), .second, .val (.int p4), .val (.ref b1), .val (.ref b2), .val (.ref b3), .val (.int (1 : Int32))] []))
  refine own_go (fun _ q => XS.iconst X27.here hx rfl (hb hby at_159) q) ?_
  show own_Go _ _ _ _ _ _ _ (T27.setTop (mkF m 160 #[.val (.long q0), .second, .val (.long q1), .second, .val (.long q2), .second, .val (.long q3), .second, .val (.int p4), .val (.ref b1), .val (.ref b2), .val (.ref b3), .val (.int (1 : Int32))] [(.int (1 : Int32))]))
  refine own_go (fun _ q => XS.goto X27.here hx rfl (pc0 := 160) (pc' := 164) rfl (hb hby at_160) (by decide) (by decide) q) ?_
  show own_Go _ _ _ _ _ _ _ (T27.setTop (mkF m 164 #[.val (.long q0), .second, .val (.long q1), .second, .val (.long q2), .second, .val (.long q3), .second, .val (.int p4), .val (.ref b1), .val (.ref b2), .val (.ref b3), .val (.int (1 : Int32))] [(.int (1 : Int32))]))
  refine own_go (fun _ q => XS.istore X27.here hx rfl (hb hby at_164) rfl (l' := #[.val (.long q0), .second, .val (.long q1), .second, .val (.long q2), .second, .val (.long q3), .second, .val (.int p4), .val (.ref b1), .val (.ref b2), .val (.ref b3), .val (.int (1 : Int32))]) rfl q) ?_
  show own_Go _ _ _ _ _ _ _ (T27.setTop (mkF m 166 #[.val (.long q0), .second, .val (.long q1), .second, .val (.long q2), .second, .val (.long q3), .second, .val (.int p4), .val (.ref b1), .val (.ref b2), .val (.ref b3), .val (.int (1 : Int32))] []))
  refine own_go (fun _ q => XS.iload X27.here hx rfl (hb hby at_166) rfl q) ?_
  show own_Go _ _ _ _ _ _ _ (T27.setTop (mkF m 168 #[.val (.long q0), .second, .val (.long q1), .second, .val (.long q2), .second, .val (.long q3), .second, .val (.int p4), .val (.ref b1), .val (.ref b2), .val (.ref b3), .val (.int (1 : Int32))] [(.int (1 : Int32))]))
  exact own_retZ X27 hx hlk hret (hb hby at_168) (by decide) (by decide) (by decide) ⟨rfl, N27⟩
set_option maxRecDepth 65536 in
set_option maxHeartbeats 40000000 in
theorem comes_1 {Post : Tables → Env → Array Value → State → Outcome → State → Prop} (hpost : ∀ tb e args s v u, (limb_1_1.after args s (.returned v) u = true ∧ limb_1_2.after args s (.returned v) u = true ∧ True) → FrameEnd s (.returned v) u (Jvm.fieldLocs frame_1_writes args s ++ Jvm.arrayLocs frame_1_arrays args s ++ Jvm.staticLocs frame_1_statics s) 24 192 → Post tb e args s (.returned v) u) :
    ArmFor flags0 classFile x code maxLocals ret World_1 tables_1 room_1 Calls_1 rest_1 Pre_1 Post := by
  intro l hfl _ _ p e ha hc hk s m args below hf hA hF happ hP
  obtain ⟨hcalls, hrest, hpre⟩ := hP
  obtain ⟨-, -, -, hnamed, -, -, -, hat⟩ := (Spec.applies_iff hf).mp happ
  obtain ⟨hg, hn⟩ := and_e (Cond.before_iff.mp (show (Jvm.Cond.and given_1 narrow_1).before args s = true from hpre))
  obtain ⟨ga1, gb1⟩ := and_e hg
  obtain ⟨ga2, gb2⟩ := and_e gb1
  obtain ⟨ga3, gb3⟩ := and_e gb2
  obtain ⟨ga4, gb4⟩ := and_e gb3
  obtain ⟨ga5, gb5⟩ := and_e gb4
  obtain ⟨w0, w1, w2, w3, w4, rfl⟩ : ∃ w0 w1 w2 w3 w4 : Value, args = #[w0, w1, w2, w3, w4] := by
    have hs : args.size = 5 := by simpa [Cond.value, given_1] using ga1
    obtain ⟨L⟩ := args
    match L, hs with
    | [w0, w1, w2, w3, w4], _ => exact ⟨w0, w1, w2, w3, w4, rfl⟩
  have hw := fun d (hd : d ∈ tables_1) => atoms_spec (ws := Jvm.Cond.code x code maxLocals ret :: tables_1) hat d (List.mem_cons_of_mem _ hd)
  obtain ⟨hsets, -⟩ := atoms_of _ (rest_1_c_eq ▸ (show rest_1_c.before _ s = true from hrest))
  obtain ⟨i0, ei0⟩ := isL_v ga2
  obtain rfl : w0 = (.long i0) := Option.some.inj ei0
  obtain ⟨i1, ei1⟩ := isL_v ga3
  obtain rfl : w1 = (.long i1) := Option.some.inj ei1
  obtain ⟨i2, ei2⟩ := isL_v ga4
  obtain rfl : w2 = (.long i2) := Option.some.inj ei2
  obtain ⟨i3, ei3⟩ := isL_v ga5
  obtain rfl : w3 = (.long i3) := Option.some.inj ei3
  obtain ⟨i4, ei4⟩ := is_v gb5
  obtain rfl : w4 = (.int i4) := Option.some.inj ei4
  obtain ⟨n, o, h1, h2, h3, _, L, rfl, ⟨rfl, N⟩, hq⟩ := rm0 l s _ hw tables_1 i0 i1 i2 i3 i4 s.heap s.heap.size (Nat.le_refl _) (own_cache hsets hw) p e ha hc hk s m _ below hf ((Spec.applies_iff_loose hf).mp happ).1 ⟨rfl, State.Warmed39.refl s, rfl⟩ trivial
  refine ⟨n, _, h1, h2, h3, hpost _ _ _ _ _ _ ⟨Cond.after_iff.mpr rfl, Cond.after_iff.mpr (eq_i res_at (Term.int_eval (1)) rfl), trivial⟩ ⟨hq.1, hq.2.1, (hq.2.2.sift fun y hy => Or.inr (N y hy)).mono (by decide) (by decide)⟩⟩
theorem main_1_1 : Claimed_1_1 := comes_1 fun _ _ _ _ _ _ h hF => ⟨h.1, hF⟩
theorem main_1_2 : Claimed_1_2 := comes_1 fun _ _ _ _ _ _ h hF => ⟨h.2.1, hF⟩
end Jvm.Pilot.@@N@@
namespace Jvm.Pilot.@@N@@
open Jvm Jvm.ClassFile Sem Op Lib Jvm.Free Jvm.Stand Jvm.Pilot.@@N@@.Jvm.D
/-! MADE BY PROGRAM (witnessworld.py) out of the Statement's table words and the real class files: 19 classes; the members and pool entries that the words name. The judged class is class 1, her method 1. -/
namespace start1
open Jvm.ClassFile
def u (s : String) : CpInfo := .utf8 (stringToUtf16 s)
/-- a pool by its gaps: so many unusable entries, then the entry; so many at the end -/
def gap : Nat → List CpInfo → List CpInfo
  | 0, r => r
  | n + 1, r => .unusable :: gap n r
def poolList (es : List (Nat × CpInfo)) (last : Nat) : List CpInfo := es.foldr (fun e r => gap e.1 (e.2 :: r)) (gap last [])
def pool (es : List (Nat × CpInfo)) (last : Nat) : Array CpInfo := ⟨poolList es last⟩
def fileOf (pool : Array CpInfo) (this : Nat) (attrs : Array Attribute := #[]) (ms : Array MethodInfo := #[]) (fl : Nat := 33) (sup : Nat := 0) (ifs : Array Nat := #[]) (fds : Array FieldInfo := #[]) : ClassFile where
  minorVersion := 0
  majorVersion := 65
  constantPool := pool
  accessFlags := fl
  thisClass := this
  superClass := sup
  interfaces := ifs
  fields := fds
  methods := ms
  attributes := attrs
def plain (name : String) (sup : Option ClassId) : Class where
  name := name
  kind := .ordinary
  loader := none
  accessFlags := 33
  super := sup
  interfaces := #[]
  cf := none
  fields := #[]
  methods := #[]
  instanceTypes := #[]
  staticTypes := #[]
  resolved := #[]
  callSites := []
  init := .initialized
  statics := none
  mirror := none

def pool0 : Array CpInfo := pool [(5, u "<init>"), (0, u "()V"), (1, .class_ 10), (1, u "java/lang/Object")] 113

def k0c0 : Code := { maxStack := 0, maxLocals := 1, code := object_method_1_code, exceptionTable := #[], attributes := #[] }
def k0m0 : Method := { name := "<init>", desc := "()V", sig := { parameters := [], returnType := none }, accessFlags := 1, code := some k0c0 }
/-- java/lang/Object -/
def k0 : Class := { plain "java/lang/Object" none with
  accessFlags := 33
  interfaces := #[]
  cf := some (fileOf pool0 8 #[] #[{ accessFlags := 1, nameIndex := 5, descriptorIndex := 6, attributes := #[] }] 33 0 #[] #[])
  fields := #[]
  methods := #[k0m0]
  instanceTypes := #[]
  staticTypes := #[]
  resolved := Array.replicate 124 none
  statics := none }

def pool1 : Array CpInfo := pool [(2, .class_ 4), (0, .nameAndType 5 6), (0, u "java/lang/Object"), (0, u "<init>"), (0, u "()V"), (0, .methodref 8 9), (0, .class_ 10), (0, .nameAndType 11 12), (0, u "java/lang/Integer"), (0, u "valueOf"), (0, u "(I)Ljava/lang/Integer;"), (0, .class_ 14), (0, u "com/example/meldbook/meldbook/verdict/OffsetQueue"), (0, .methodref 13 3), (0, .methodref 13 17), (0, .nameAndType 18 19), (0, u "add"), (0, u "(Ljava/lang/Object;JJ)V"), (0, .methodref 13 21), (0, .nameAndType 22 6), (0, u "remove"), (0, .methodref 13 24), (0, .nameAndType 25 26), (0, u "isEmpty"), (0, u "()Z"), (0, .methodref 13 28), (0, .nameAndType 29 30), (0, u "first"), (0, u "()J"), (0, .methodref 13 32), (0, .nameAndType 33 30), (0, u "second"), (0, .methodref 13 35), (0, .nameAndType 36 37), (0, u "kind"), (0, u "()Ljava/lang/Object;"), (0, .methodref 8 39), (0, .nameAndType 40 41), (0, u "intValue"), (0, u "()I"), (0, .class_ 43), (0, u "com/example/meldbook/meldbook/verdict/OffsetQueueRemovePinLaw"), (2, u "law"), (0, u "(JJJJI)Z")] 3

def k1m0 : Method := { name := "<init>", desc := "()V", sig := { parameters := [], returnType := none }, accessFlags := 1, code := none }
def k1c1 : Code := { maxStack := 6, maxLocals := 13, code := code, exceptionTable := #[], attributes := #[] }
def k1m1 : Method := { name := "law", desc := "(JJJJI)Z", sig := { parameters := [.long, .long, .long, .long, .int], returnType := some .boolean }, accessFlags := 9, code := some k1c1 }
/-- com/example/meldbook/meldbook/verdict/OffsetQueueRemovePinLaw -/
def k1 : Class := { plain "com/example/meldbook/meldbook/verdict/OffsetQueueRemovePinLaw" (some 0) with
  accessFlags := 49
  interfaces := #[]
  cf := some (fileOf pool1 42 #[] #[{ accessFlags := 1, nameIndex := 5, descriptorIndex := 6, attributes := #[] }, { accessFlags := 9, nameIndex := 46, descriptorIndex := 47, attributes := #[] }] 49 2 #[] #[])
  fields := #[]
  methods := #[k1m0, k1m1]
  instanceTypes := #[]
  staticTypes := #[]
  resolved := Array.replicate 51 none
  statics := none }

def pool2 : Array CpInfo := pool [(1, .class_ 2), (0, u "java/io/Serializable"), (0, .class_ 4), (0, u "java/lang/Object")] 2

/-- java/io/Serializable -/
def k2 : Class := { plain "java/io/Serializable" (some 0) with
  accessFlags := 1537
  interfaces := #[]
  cf := some (fileOf pool2 1 #[] #[] 1537 3 #[] #[])
  fields := #[]
  methods := #[]
  instanceTypes := #[]
  staticTypes := #[]
  resolved := Array.replicate 7 none
  statics := none }

def pool3 : Array CpInfo := pool [(1, .methodref 2 3), (0, .class_ 4), (0, .nameAndType 5 6), (0, u "java/lang/Object"), (0, u "<init>"), (0, u "()V"), (1, .class_ 10), (1, u "java/lang/Number"), (2, .class_ 14), (0, u "java/io/Serializable"), (0, u "serialVersionUID"), (0, u "J")] 20

def k3c0 : Code := { maxStack := 1, maxLocals := 1, code := jdk_18_method_1_code, exceptionTable := #[], attributes := #[] }
def k3m0 : Method := { name := "<init>", desc := "()V", sig := { parameters := [], returnType := none }, accessFlags := 1, code := some k3c0 }
/-- java/lang/Number -/
def k3 : Class := { plain "java/lang/Number" (some 0) with
  accessFlags := 1057
  interfaces := #[2]
  cf := some (fileOf pool3 8 #[] #[{ accessFlags := 1, nameIndex := 5, descriptorIndex := 6, attributes := #[] }] 1057 2 #[13] #[{ accessFlags := 26, nameIndex := 15, descriptorIndex := 16, attributes := #[] }])
  fields := #[{ name := "serialVersionUID", type := .long, accessFlags := 26, slot := 0, constantValue := 0 }]
  methods := #[k3m0]
  instanceTypes := #[]
  staticTypes := #[.long]
  resolved := Array.replicate 37 none
  statics := none }

def pool4 : Array CpInfo := pool [(1, .class_ 2), (0, u "java/lang/Comparable"), (0, .class_ 4), (0, u "java/lang/Object")] 7

/-- java/lang/Comparable -/
def k4 : Class := { plain "java/lang/Comparable" (some 0) with
  accessFlags := 1537
  interfaces := #[]
  cf := some (fileOf pool4 1 #[] #[] 1537 3 #[] #[])
  fields := #[]
  methods := #[]
  instanceTypes := #[]
  staticTypes := #[]
  resolved := Array.replicate 12 none
  statics := none }

def pool5 : Array CpInfo := pool [(1, .class_ 2), (0, u "java/lang/constant/Constable"), (0, .class_ 4), (0, u "java/lang/Object")] 6

/-- java/lang/constant/Constable -/
def k5 : Class := { plain "java/lang/constant/Constable" (some 0) with
  accessFlags := 1537
  interfaces := #[]
  cf := some (fileOf pool5 1 #[] #[] 1537 3 #[] #[])
  fields := #[]
  methods := #[]
  instanceTypes := #[]
  staticTypes := #[]
  resolved := Array.replicate 11 none
  statics := none }

def pool6 : Array CpInfo := pool [(1, .class_ 2), (0, u "java/lang/constant/ConstantDesc"), (0, .class_ 4), (0, u "java/lang/Object")] 32

/-- java/lang/constant/ConstantDesc -/
def k6 : Class := { plain "java/lang/constant/ConstantDesc" (some 0) with
  accessFlags := 1537
  interfaces := #[]
  cf := some (fileOf pool6 1 #[] #[] 1537 3 #[] #[])
  fields := #[]
  methods := #[]
  instanceTypes := #[]
  staticTypes := #[]
  resolved := Array.replicate 37 none
  statics := none }

def pool7 : Array CpInfo := pool [(1, .class_ 2), (0, u "java/lang/Integer"), (16, u "digits"), (0, u "[C"), (46, u "<init>"), (17, u "DigitOnes"), (0, u "[B"), (2, u "DigitTens"), (10, .nameAndType 67 101), (0, u "()V"), (19, u "()I"), (65, u "valueOf"), (0, u "(I)Ljava/lang/Integer;"), (0, .class_ 190), (0, u "java/lang/Integer$IntegerCache"), (0, .fieldref 189 192), (0, .nameAndType 193 194), (0, u "high"), (0, u "I"), (0, .fieldref 189 196), (0, .nameAndType 197 198), (0, u "cache"), (0, u "[Ljava/lang/Integer;"), (0, .methodref 1 200), (0, .nameAndType 67 201), (0, u "(I)V"), (0, .methodref 203 100), (0, .class_ 204), (0, u "java/lang/Number"), (0, .fieldref 1 206), (0, .nameAndType 207 194), (0, u "value"), (5, u "intValue"), (88, u "TYPE"), (0, u "Ljava/lang/Class;"), (0, .class_ 305), (0, u "java/lang/Comparable"), (0, .class_ 307), (0, u "java/lang/constant/Constable"), (0, .class_ 309), (0, u "java/lang/constant/ConstantDesc"), (0, u "MIN_VALUE"), (1, u "MAX_VALUE"), (3, u "SIZE"), (1, u "BYTES"), (1, u "serialVersionUID"), (0, u "J")] 131

def k7c0 : Code := { maxStack := 3, maxLocals := 1, code := jdk_33_method_22_code, exceptionTable := #[], attributes := #[] }
def k7m0 : Method := { name := "valueOf", desc := "(I)Ljava/lang/Integer;", sig := { parameters := [.int], returnType := some (.object "java/lang/Integer") }, accessFlags := 9, code := some k7c0 }
def k7c1 : Code := { maxStack := 2, maxLocals := 2, code := jdk_33_method_23_code, exceptionTable := #[], attributes := #[] }
def k7m1 : Method := { name := "<init>", desc := "(I)V", sig := { parameters := [.int], returnType := none }, accessFlags := 1, code := some k7c1 }
def k7c2 : Code := { maxStack := 1, maxLocals := 1, code := jdk_33_method_27_code, exceptionTable := #[], attributes := #[] }
def k7m2 : Method := { name := "intValue", desc := "()I", sig := { parameters := [], returnType := some .int }, accessFlags := 1, code := some k7c2 }
/-- java/lang/Integer -/
def k7 : Class := { plain "java/lang/Integer" (some 3) with
  accessFlags := 49
  interfaces := #[4, 5, 6]
  cf := some (fileOf pool7 1 #[.nestMembers #[189]] #[{ accessFlags := 9, nameIndex := 187, descriptorIndex := 188, attributes := #[] }, { accessFlags := 1, nameIndex := 67, descriptorIndex := 201, attributes := #[] }, { accessFlags := 1, nameIndex := 213, descriptorIndex := 121, attributes := #[] }] 49 203 #[304, 306, 308] #[{ accessFlags := 25, nameIndex := 310, descriptorIndex := 194, attributes := #[] }, { accessFlags := 25, nameIndex := 312, descriptorIndex := 194, attributes := #[] }, { accessFlags := 25, nameIndex := 302, descriptorIndex := 303, attributes := #[] }, { accessFlags := 24, nameIndex := 19, descriptorIndex := 20, attributes := #[] }, { accessFlags := 24, nameIndex := 89, descriptorIndex := 86, attributes := #[] }, { accessFlags := 24, nameIndex := 85, descriptorIndex := 86, attributes := #[] }, { accessFlags := 18, nameIndex := 207, descriptorIndex := 194, attributes := #[] }, { accessFlags := 25, nameIndex := 316, descriptorIndex := 194, attributes := #[] }, { accessFlags := 25, nameIndex := 318, descriptorIndex := 194, attributes := #[] }, { accessFlags := 26, nameIndex := 320, descriptorIndex := 321, attributes := #[] }])
  fields := #[{ name := "MIN_VALUE", type := .int, accessFlags := 25, slot := 0, constantValue := 0 }, { name := "MAX_VALUE", type := .int, accessFlags := 25, slot := 1, constantValue := 0 }, { name := "TYPE", type := (.object "java/lang/Class"), accessFlags := 25, slot := 2, constantValue := 0 }, { name := "digits", type := (.array .char), accessFlags := 24, slot := 3, constantValue := 0 }, { name := "DigitTens", type := (.array .byte), accessFlags := 24, slot := 4, constantValue := 0 }, { name := "DigitOnes", type := (.array .byte), accessFlags := 24, slot := 5, constantValue := 0 }, { name := "value", type := .int, accessFlags := 18, slot := 0, constantValue := 0 }, { name := "SIZE", type := .int, accessFlags := 25, slot := 6, constantValue := 0 }, { name := "BYTES", type := .int, accessFlags := 25, slot := 7, constantValue := 0 }, { name := "serialVersionUID", type := .long, accessFlags := 26, slot := 8, constantValue := 0 }]
  methods := #[k7m0, k7m1, k7m2]
  instanceTypes := #[.int]
  staticTypes := #[.int, .int, (.object "java/lang/Class"), (.array .char), (.array .byte), (.array .byte), .int, .int, .long]
  resolved := Array.replicate 453 none
  statics := none }

def pool8 : Array CpInfo := pool [(2, .class_ 4), (1, u "java/lang/Object"), (0, u "<init>"), (0, u "()V"), (0, .class_ 8), (0, u "java/lang/Integer"), (7, .class_ 18), (1, u "java/lang/Integer$IntegerCache"), (0, u "$assertionsDisabled"), (0, u "Z"), (26, u "high"), (0, u "I"), (8, u "archivedCache"), (0, u "[Ljava/lang/Integer;"), (12, u "cache"), (0, u "low")] 27

def k8m0 : Method := { name := "<init>", desc := "()V", sig := { parameters := [], returnType := none }, accessFlags := 2, code := none }
/-- java/lang/Integer$IntegerCache -/
def k8 : Class := { plain "java/lang/Integer$IntegerCache" (some 0) with
  accessFlags := 48
  interfaces := #[]
  cf := some (fileOf pool8 16 #[.nestHost 7] #[{ accessFlags := 2, nameIndex := 5, descriptorIndex := 6, attributes := #[] }] 48 2 #[] #[{ accessFlags := 24, nameIndex := 72, descriptorIndex := 48, attributes := #[] }, { accessFlags := 24, nameIndex := 47, descriptorIndex := 48, attributes := #[] }, { accessFlags := 24, nameIndex := 71, descriptorIndex := 58, attributes := #[] }, { accessFlags := 8, nameIndex := 57, descriptorIndex := 58, attributes := #[] }, { accessFlags := 4120, nameIndex := 19, descriptorIndex := 20, attributes := #[] }])
  fields := #[{ name := "low", type := .int, accessFlags := 24, slot := 0, constantValue := 0 }, { name := "high", type := .int, accessFlags := 24, slot := 1, constantValue := 0 }, { name := "cache", type := (.array (.object "java/lang/Integer")), accessFlags := 24, slot := 2, constantValue := 0 }, { name := "archivedCache", type := (.array (.object "java/lang/Integer")), accessFlags := 8, slot := 3, constantValue := 0 }, { name := "$assertionsDisabled", type := .boolean, accessFlags := 4120, slot := 4, constantValue := 0 }]
  methods := #[k8m0]
  instanceTypes := #[]
  staticTypes := #[.int, .int, (.array (.object "java/lang/Integer")), (.array (.object "java/lang/Integer")), .boolean]
  resolved := Array.replicate 100 none
  statics := some 0 }

def pool9 : Array CpInfo := pool [(1, .methodref 2 3), (0, .class_ 4), (0, .nameAndType 5 6), (0, u "java/lang/Object"), (0, u "<init>"), (0, u "()V"), (0, .class_ 8), (0, u "com/example/meldbook/meldbook/verdict/OffsetQueue"), (0, .fieldref 7 10), (0, .nameAndType 11 12), (0, u "kinds"), (0, u "[Ljava/lang/Object;"), (0, .fieldref 7 14), (0, .nameAndType 15 16), (0, u "firsts"), (0, u "[J"), (0, .fieldref 7 18), (0, .nameAndType 19 16), (0, u "seconds"), (0, .fieldref 7 21), (0, .nameAndType 22 23), (0, u "head"), (0, u "I"), (0, .fieldref 7 25), (0, .nameAndType 26 23), (0, u "count"), (18, u "INITIAL_ENTRIES"), (5, u "add"), (0, u "(Ljava/lang/Object;JJ)V"), (3, u "isEmpty"), (0, u "()Z"), (0, u "kind"), (0, u "()Ljava/lang/Object;"), (1, u "first"), (0, u "()J"), (0, u "second"), (0, u "remove")] 3

def k9c0 : Code := { maxStack := 2, maxLocals := 1, code := prog_136_method_1_code, exceptionTable := #[], attributes := #[] }
def k9m0 : Method := { name := "<init>", desc := "()V", sig := { parameters := [], returnType := none }, accessFlags := 0, code := some k9c0 }
def k9c1 : Code := { maxStack := 4, maxLocals := 6, code := prog_136_method_3_code, exceptionTable := #[], attributes := #[] }
def k9m1 : Method := { name := "add", desc := "(Ljava/lang/Object;JJ)V", sig := { parameters := [(.object "java/lang/Object"), .long, .long], returnType := none }, accessFlags := 0, code := some k9c1 }
def k9c2 : Code := { maxStack := 1, maxLocals := 1, code := prog_136_method_4_code, exceptionTable := #[], attributes := #[] }
def k9m2 : Method := { name := "isEmpty", desc := "()Z", sig := { parameters := [], returnType := some .boolean }, accessFlags := 0, code := some k9c2 }
def k9c3 : Code := { maxStack := 2, maxLocals := 1, code := prog_136_method_5_code, exceptionTable := #[], attributes := #[] }
def k9m3 : Method := { name := "kind", desc := "()Ljava/lang/Object;", sig := { parameters := [], returnType := some (.object "java/lang/Object") }, accessFlags := 0, code := some k9c3 }
def k9c4 : Code := { maxStack := 2, maxLocals := 1, code := prog_136_method_6_code, exceptionTable := #[], attributes := #[] }
def k9m4 : Method := { name := "first", desc := "()J", sig := { parameters := [], returnType := some .long }, accessFlags := 0, code := some k9c4 }
def k9c5 : Code := { maxStack := 2, maxLocals := 1, code := prog_136_method_7_code, exceptionTable := #[], attributes := #[] }
def k9m5 : Method := { name := "second", desc := "()J", sig := { parameters := [], returnType := some .long }, accessFlags := 0, code := some k9c5 }
def k9c6 : Code := { maxStack := 3, maxLocals := 1, code := prog_136_method_8_code, exceptionTable := #[], attributes := #[] }
def k9m6 : Method := { name := "remove", desc := "()V", sig := { parameters := [], returnType := none }, accessFlags := 0, code := some k9c6 }
/-- com/example/meldbook/meldbook/verdict/OffsetQueue -/
def k9 : Class := { plain "com/example/meldbook/meldbook/verdict/OffsetQueue" (some 0) with
  accessFlags := 48
  interfaces := #[]
  cf := some (fileOf pool9 7 #[] #[{ accessFlags := 0, nameIndex := 5, descriptorIndex := 6, attributes := #[] }, { accessFlags := 0, nameIndex := 51, descriptorIndex := 52, attributes := #[] }, { accessFlags := 0, nameIndex := 56, descriptorIndex := 57, attributes := #[] }, { accessFlags := 0, nameIndex := 58, descriptorIndex := 59, attributes := #[] }, { accessFlags := 0, nameIndex := 61, descriptorIndex := 62, attributes := #[] }, { accessFlags := 0, nameIndex := 63, descriptorIndex := 62, attributes := #[] }, { accessFlags := 0, nameIndex := 64, descriptorIndex := 6, attributes := #[] }] 48 2 #[] #[{ accessFlags := 26, nameIndex := 45, descriptorIndex := 23, attributes := #[] }, { accessFlags := 2, nameIndex := 11, descriptorIndex := 12, attributes := #[] }, { accessFlags := 2, nameIndex := 15, descriptorIndex := 16, attributes := #[] }, { accessFlags := 2, nameIndex := 19, descriptorIndex := 16, attributes := #[] }, { accessFlags := 2, nameIndex := 22, descriptorIndex := 23, attributes := #[] }, { accessFlags := 2, nameIndex := 26, descriptorIndex := 23, attributes := #[] }])
  fields := #[{ name := "INITIAL_ENTRIES", type := .int, accessFlags := 26, slot := 0, constantValue := 0 }, { name := "kinds", type := (.array (.object "java/lang/Object")), accessFlags := 2, slot := 0, constantValue := 0 }, { name := "firsts", type := (.array .long), accessFlags := 2, slot := 1, constantValue := 0 }, { name := "seconds", type := (.array .long), accessFlags := 2, slot := 2, constantValue := 0 }, { name := "head", type := .int, accessFlags := 2, slot := 3, constantValue := 0 }, { name := "count", type := .int, accessFlags := 2, slot := 4, constantValue := 0 }]
  methods := #[k9m0, k9m1, k9m2, k9m3, k9m4, k9m5, k9m6]
  instanceTypes := #[(.array (.object "java/lang/Object")), (.array .long), (.array .long), .int, .int]
  staticTypes := #[.int]
  resolved := Array.replicate 68 none
  statics := none }

def pool10 : Array CpInfo := pool [(1, u "java/lang/Cloneable"), (0, .class_ 1), (0, u "java/lang/Object"), (0, .class_ 3)] 3

/-- java/lang/Cloneable -/
def k10 : Class := { plain "java/lang/Cloneable" (some 0) with
  accessFlags := 1537
  interfaces := #[]
  cf := some (fileOf pool10 2 #[] #[] 1537 4 #[] #[])
  fields := #[]
  methods := #[]
  instanceTypes := #[]
  staticTypes := #[]
  resolved := Array.replicate 8 none
  statics := none }

/-- the primitive byte -/
def k11 : Class := { plain "byte" none with kind := .primitive 'B', accessFlags := 0x411 }
/-- [B -/
def k12 : Class := { plain "[B" (some 0) with kind := .array 11 .byte, interfaces := #[10, 2], accessFlags := 1041 }

/-- the primitive int -/
def k13 : Class := { plain "int" none with kind := .primitive 'I', accessFlags := 0x411 }
/-- [I -/
def k14 : Class := { plain "[I" (some 0) with kind := .array 13 .int, interfaces := #[10, 2], accessFlags := 1041 }

/-- the primitive long -/
def k15 : Class := { plain "long" none with kind := .primitive 'J', accessFlags := 0x411 }
/-- [J -/
def k16 : Class := { plain "[J" (some 0) with kind := .array 15 .long, interfaces := #[10, 2], accessFlags := 1041 }

/-- [Ljava/lang/Integer; -/
def k17 : Class := { plain "[Ljava/lang/Integer;" (some 0) with kind := .array 7 (.object "java/lang/Integer"), interfaces := #[10, 2], accessFlags := 1041 }

/-- [Ljava/lang/Object; -/
def k18 : Class := { plain "[Ljava/lang/Object;" (some 0) with kind := .array 0 (.object "java/lang/Object"), interfaces := #[10, 2], accessFlags := 1041 }

def heap : Heap := #[{ cls := 8, slots := #[.int 0, .int 127, .ref 1, .null, .int 0], vm := .statics 8 },
  { cls := 17, slots := #[.ref 2, .ref 3, .ref 4, .ref 5, .ref 6, .ref 7, .ref 8, .ref 9, .ref 10, .ref 11, .ref 12, .ref 13, .ref 14, .ref 15, .ref 16, .ref 17, .ref 18, .ref 19, .ref 20, .ref 21, .ref 22, .ref 23, .ref 24, .ref 25, .ref 26, .ref 27, .ref 28, .ref 29, .ref 30, .ref 31, .ref 32, .ref 33, .ref 34, .ref 35, .ref 36, .ref 37, .ref 38, .ref 39, .ref 40, .ref 41, .ref 42, .ref 43, .ref 44, .ref 45, .ref 46, .ref 47, .ref 48, .ref 49, .ref 50, .ref 51, .ref 52, .ref 53, .ref 54, .ref 55, .ref 56, .ref 57, .ref 58, .ref 59, .ref 60, .ref 61, .ref 62, .ref 63, .ref 64, .ref 65, .ref 66, .ref 67, .ref 68, .ref 69, .ref 70, .ref 71, .ref 72, .ref 73, .ref 74, .ref 75, .ref 76, .ref 77, .ref 78, .ref 79, .ref 80, .ref 81, .ref 82, .ref 83, .ref 84, .ref 85, .ref 86, .ref 87, .ref 88, .ref 89, .ref 90, .ref 91, .ref 92, .ref 93, .ref 94, .ref 95, .ref 96, .ref 97, .ref 98, .ref 99, .ref 100, .ref 101, .ref 102, .ref 103, .ref 104, .ref 105, .ref 106, .ref 107, .ref 108, .ref 109, .ref 110, .ref 111, .ref 112, .ref 113, .ref 114, .ref 115, .ref 116, .ref 117, .ref 118, .ref 119, .ref 120, .ref 121, .ref 122, .ref 123, .ref 124, .ref 125, .ref 126, .ref 127, .ref 128, .ref 129, .ref 130, .ref 131, .ref 132, .ref 133, .ref 134, .ref 135, .ref 136, .ref 137, .ref 138, .ref 139, .ref 140, .ref 141, .ref 142, .ref 143, .ref 144, .ref 145, .ref 146, .ref 147, .ref 148, .ref 149, .ref 150, .ref 151, .ref 152, .ref 153, .ref 154, .ref 155, .ref 156, .ref 157, .ref 158, .ref 159, .ref 160, .ref 161, .ref 162, .ref 163, .ref 164, .ref 165, .ref 166, .ref 167, .ref 168, .ref 169, .ref 170, .ref 171, .ref 172, .ref 173, .ref 174, .ref 175, .ref 176, .ref 177, .ref 178, .ref 179, .ref 180, .ref 181, .ref 182, .ref 183, .ref 184, .ref 185, .ref 186, .ref 187, .ref 188, .ref 189, .ref 190, .ref 191, .ref 192, .ref 193, .ref 194, .ref 195, .ref 196, .ref 197, .ref 198, .ref 199, .ref 200, .ref 201, .ref 202, .ref 203, .ref 204, .ref 205, .ref 206, .ref 207, .ref 208, .ref 209, .ref 210, .ref 211, .ref 212, .ref 213, .ref 214, .ref 215, .ref 216, .ref 217, .ref 218, .ref 219, .ref 220, .ref 221, .ref 222, .ref 223, .ref 224, .ref 225, .ref 226, .ref 227, .ref 228, .ref 229, .ref 230, .ref 231, .ref 232, .ref 233, .ref 234, .ref 235, .ref 236, .ref 237, .ref 238, .ref 239, .ref 240, .ref 241, .ref 242, .ref 243, .ref 244, .ref 245, .ref 246, .ref 247, .ref 248, .ref 249, .ref 250, .ref 251, .ref 252, .ref 253, .ref 254, .ref 255, .ref 256, .ref 257], vm := .none },
  { cls := 7, slots := #[.int (-128)], vm := .none },
  { cls := 7, slots := #[.int (-127)], vm := .none },
  { cls := 7, slots := #[.int (-126)], vm := .none },
  { cls := 7, slots := #[.int (-125)], vm := .none },
  { cls := 7, slots := #[.int (-124)], vm := .none },
  { cls := 7, slots := #[.int (-123)], vm := .none },
  { cls := 7, slots := #[.int (-122)], vm := .none },
  { cls := 7, slots := #[.int (-121)], vm := .none },
  { cls := 7, slots := #[.int (-120)], vm := .none },
  { cls := 7, slots := #[.int (-119)], vm := .none },
  { cls := 7, slots := #[.int (-118)], vm := .none },
  { cls := 7, slots := #[.int (-117)], vm := .none },
  { cls := 7, slots := #[.int (-116)], vm := .none },
  { cls := 7, slots := #[.int (-115)], vm := .none },
  { cls := 7, slots := #[.int (-114)], vm := .none },
  { cls := 7, slots := #[.int (-113)], vm := .none },
  { cls := 7, slots := #[.int (-112)], vm := .none },
  { cls := 7, slots := #[.int (-111)], vm := .none },
  { cls := 7, slots := #[.int (-110)], vm := .none },
  { cls := 7, slots := #[.int (-109)], vm := .none },
  { cls := 7, slots := #[.int (-108)], vm := .none },
  { cls := 7, slots := #[.int (-107)], vm := .none },
  { cls := 7, slots := #[.int (-106)], vm := .none },
  { cls := 7, slots := #[.int (-105)], vm := .none },
  { cls := 7, slots := #[.int (-104)], vm := .none },
  { cls := 7, slots := #[.int (-103)], vm := .none },
  { cls := 7, slots := #[.int (-102)], vm := .none },
  { cls := 7, slots := #[.int (-101)], vm := .none },
  { cls := 7, slots := #[.int (-100)], vm := .none },
  { cls := 7, slots := #[.int (-99)], vm := .none },
  { cls := 7, slots := #[.int (-98)], vm := .none },
  { cls := 7, slots := #[.int (-97)], vm := .none },
  { cls := 7, slots := #[.int (-96)], vm := .none },
  { cls := 7, slots := #[.int (-95)], vm := .none },
  { cls := 7, slots := #[.int (-94)], vm := .none },
  { cls := 7, slots := #[.int (-93)], vm := .none },
  { cls := 7, slots := #[.int (-92)], vm := .none },
  { cls := 7, slots := #[.int (-91)], vm := .none },
  { cls := 7, slots := #[.int (-90)], vm := .none },
  { cls := 7, slots := #[.int (-89)], vm := .none },
  { cls := 7, slots := #[.int (-88)], vm := .none },
  { cls := 7, slots := #[.int (-87)], vm := .none },
  { cls := 7, slots := #[.int (-86)], vm := .none },
  { cls := 7, slots := #[.int (-85)], vm := .none },
  { cls := 7, slots := #[.int (-84)], vm := .none },
  { cls := 7, slots := #[.int (-83)], vm := .none },
  { cls := 7, slots := #[.int (-82)], vm := .none },
  { cls := 7, slots := #[.int (-81)], vm := .none },
  { cls := 7, slots := #[.int (-80)], vm := .none },
  { cls := 7, slots := #[.int (-79)], vm := .none },
  { cls := 7, slots := #[.int (-78)], vm := .none },
  { cls := 7, slots := #[.int (-77)], vm := .none },
  { cls := 7, slots := #[.int (-76)], vm := .none },
  { cls := 7, slots := #[.int (-75)], vm := .none },
  { cls := 7, slots := #[.int (-74)], vm := .none },
  { cls := 7, slots := #[.int (-73)], vm := .none },
  { cls := 7, slots := #[.int (-72)], vm := .none },
  { cls := 7, slots := #[.int (-71)], vm := .none },
  { cls := 7, slots := #[.int (-70)], vm := .none },
  { cls := 7, slots := #[.int (-69)], vm := .none },
  { cls := 7, slots := #[.int (-68)], vm := .none },
  { cls := 7, slots := #[.int (-67)], vm := .none },
  { cls := 7, slots := #[.int (-66)], vm := .none },
  { cls := 7, slots := #[.int (-65)], vm := .none },
  { cls := 7, slots := #[.int (-64)], vm := .none },
  { cls := 7, slots := #[.int (-63)], vm := .none },
  { cls := 7, slots := #[.int (-62)], vm := .none },
  { cls := 7, slots := #[.int (-61)], vm := .none },
  { cls := 7, slots := #[.int (-60)], vm := .none },
  { cls := 7, slots := #[.int (-59)], vm := .none },
  { cls := 7, slots := #[.int (-58)], vm := .none },
  { cls := 7, slots := #[.int (-57)], vm := .none },
  { cls := 7, slots := #[.int (-56)], vm := .none },
  { cls := 7, slots := #[.int (-55)], vm := .none },
  { cls := 7, slots := #[.int (-54)], vm := .none },
  { cls := 7, slots := #[.int (-53)], vm := .none },
  { cls := 7, slots := #[.int (-52)], vm := .none },
  { cls := 7, slots := #[.int (-51)], vm := .none },
  { cls := 7, slots := #[.int (-50)], vm := .none },
  { cls := 7, slots := #[.int (-49)], vm := .none },
  { cls := 7, slots := #[.int (-48)], vm := .none },
  { cls := 7, slots := #[.int (-47)], vm := .none },
  { cls := 7, slots := #[.int (-46)], vm := .none },
  { cls := 7, slots := #[.int (-45)], vm := .none },
  { cls := 7, slots := #[.int (-44)], vm := .none },
  { cls := 7, slots := #[.int (-43)], vm := .none },
  { cls := 7, slots := #[.int (-42)], vm := .none },
  { cls := 7, slots := #[.int (-41)], vm := .none },
  { cls := 7, slots := #[.int (-40)], vm := .none },
  { cls := 7, slots := #[.int (-39)], vm := .none },
  { cls := 7, slots := #[.int (-38)], vm := .none },
  { cls := 7, slots := #[.int (-37)], vm := .none },
  { cls := 7, slots := #[.int (-36)], vm := .none },
  { cls := 7, slots := #[.int (-35)], vm := .none },
  { cls := 7, slots := #[.int (-34)], vm := .none },
  { cls := 7, slots := #[.int (-33)], vm := .none },
  { cls := 7, slots := #[.int (-32)], vm := .none },
  { cls := 7, slots := #[.int (-31)], vm := .none },
  { cls := 7, slots := #[.int (-30)], vm := .none },
  { cls := 7, slots := #[.int (-29)], vm := .none },
  { cls := 7, slots := #[.int (-28)], vm := .none },
  { cls := 7, slots := #[.int (-27)], vm := .none },
  { cls := 7, slots := #[.int (-26)], vm := .none },
  { cls := 7, slots := #[.int (-25)], vm := .none },
  { cls := 7, slots := #[.int (-24)], vm := .none },
  { cls := 7, slots := #[.int (-23)], vm := .none },
  { cls := 7, slots := #[.int (-22)], vm := .none },
  { cls := 7, slots := #[.int (-21)], vm := .none },
  { cls := 7, slots := #[.int (-20)], vm := .none },
  { cls := 7, slots := #[.int (-19)], vm := .none },
  { cls := 7, slots := #[.int (-18)], vm := .none },
  { cls := 7, slots := #[.int (-17)], vm := .none },
  { cls := 7, slots := #[.int (-16)], vm := .none },
  { cls := 7, slots := #[.int (-15)], vm := .none },
  { cls := 7, slots := #[.int (-14)], vm := .none },
  { cls := 7, slots := #[.int (-13)], vm := .none },
  { cls := 7, slots := #[.int (-12)], vm := .none },
  { cls := 7, slots := #[.int (-11)], vm := .none },
  { cls := 7, slots := #[.int (-10)], vm := .none },
  { cls := 7, slots := #[.int (-9)], vm := .none },
  { cls := 7, slots := #[.int (-8)], vm := .none },
  { cls := 7, slots := #[.int (-7)], vm := .none },
  { cls := 7, slots := #[.int (-6)], vm := .none },
  { cls := 7, slots := #[.int (-5)], vm := .none },
  { cls := 7, slots := #[.int (-4)], vm := .none },
  { cls := 7, slots := #[.int (-3)], vm := .none },
  { cls := 7, slots := #[.int (-2)], vm := .none },
  { cls := 7, slots := #[.int (-1)], vm := .none },
  { cls := 7, slots := #[.int (0)], vm := .none },
  { cls := 7, slots := #[.int (1)], vm := .none },
  { cls := 7, slots := #[.int (2)], vm := .none },
  { cls := 7, slots := #[.int (3)], vm := .none },
  { cls := 7, slots := #[.int (4)], vm := .none },
  { cls := 7, slots := #[.int (5)], vm := .none },
  { cls := 7, slots := #[.int (6)], vm := .none },
  { cls := 7, slots := #[.int (7)], vm := .none },
  { cls := 7, slots := #[.int (8)], vm := .none },
  { cls := 7, slots := #[.int (9)], vm := .none },
  { cls := 7, slots := #[.int (10)], vm := .none },
  { cls := 7, slots := #[.int (11)], vm := .none },
  { cls := 7, slots := #[.int (12)], vm := .none },
  { cls := 7, slots := #[.int (13)], vm := .none },
  { cls := 7, slots := #[.int (14)], vm := .none },
  { cls := 7, slots := #[.int (15)], vm := .none },
  { cls := 7, slots := #[.int (16)], vm := .none },
  { cls := 7, slots := #[.int (17)], vm := .none },
  { cls := 7, slots := #[.int (18)], vm := .none },
  { cls := 7, slots := #[.int (19)], vm := .none },
  { cls := 7, slots := #[.int (20)], vm := .none },
  { cls := 7, slots := #[.int (21)], vm := .none },
  { cls := 7, slots := #[.int (22)], vm := .none },
  { cls := 7, slots := #[.int (23)], vm := .none },
  { cls := 7, slots := #[.int (24)], vm := .none },
  { cls := 7, slots := #[.int (25)], vm := .none },
  { cls := 7, slots := #[.int (26)], vm := .none },
  { cls := 7, slots := #[.int (27)], vm := .none },
  { cls := 7, slots := #[.int (28)], vm := .none },
  { cls := 7, slots := #[.int (29)], vm := .none },
  { cls := 7, slots := #[.int (30)], vm := .none },
  { cls := 7, slots := #[.int (31)], vm := .none },
  { cls := 7, slots := #[.int (32)], vm := .none },
  { cls := 7, slots := #[.int (33)], vm := .none },
  { cls := 7, slots := #[.int (34)], vm := .none },
  { cls := 7, slots := #[.int (35)], vm := .none },
  { cls := 7, slots := #[.int (36)], vm := .none },
  { cls := 7, slots := #[.int (37)], vm := .none },
  { cls := 7, slots := #[.int (38)], vm := .none },
  { cls := 7, slots := #[.int (39)], vm := .none },
  { cls := 7, slots := #[.int (40)], vm := .none },
  { cls := 7, slots := #[.int (41)], vm := .none },
  { cls := 7, slots := #[.int (42)], vm := .none },
  { cls := 7, slots := #[.int (43)], vm := .none },
  { cls := 7, slots := #[.int (44)], vm := .none },
  { cls := 7, slots := #[.int (45)], vm := .none },
  { cls := 7, slots := #[.int (46)], vm := .none },
  { cls := 7, slots := #[.int (47)], vm := .none },
  { cls := 7, slots := #[.int (48)], vm := .none },
  { cls := 7, slots := #[.int (49)], vm := .none },
  { cls := 7, slots := #[.int (50)], vm := .none },
  { cls := 7, slots := #[.int (51)], vm := .none },
  { cls := 7, slots := #[.int (52)], vm := .none },
  { cls := 7, slots := #[.int (53)], vm := .none },
  { cls := 7, slots := #[.int (54)], vm := .none },
  { cls := 7, slots := #[.int (55)], vm := .none },
  { cls := 7, slots := #[.int (56)], vm := .none },
  { cls := 7, slots := #[.int (57)], vm := .none },
  { cls := 7, slots := #[.int (58)], vm := .none },
  { cls := 7, slots := #[.int (59)], vm := .none },
  { cls := 7, slots := #[.int (60)], vm := .none },
  { cls := 7, slots := #[.int (61)], vm := .none },
  { cls := 7, slots := #[.int (62)], vm := .none },
  { cls := 7, slots := #[.int (63)], vm := .none },
  { cls := 7, slots := #[.int (64)], vm := .none },
  { cls := 7, slots := #[.int (65)], vm := .none },
  { cls := 7, slots := #[.int (66)], vm := .none },
  { cls := 7, slots := #[.int (67)], vm := .none },
  { cls := 7, slots := #[.int (68)], vm := .none },
  { cls := 7, slots := #[.int (69)], vm := .none },
  { cls := 7, slots := #[.int (70)], vm := .none },
  { cls := 7, slots := #[.int (71)], vm := .none },
  { cls := 7, slots := #[.int (72)], vm := .none },
  { cls := 7, slots := #[.int (73)], vm := .none },
  { cls := 7, slots := #[.int (74)], vm := .none },
  { cls := 7, slots := #[.int (75)], vm := .none },
  { cls := 7, slots := #[.int (76)], vm := .none },
  { cls := 7, slots := #[.int (77)], vm := .none },
  { cls := 7, slots := #[.int (78)], vm := .none },
  { cls := 7, slots := #[.int (79)], vm := .none },
  { cls := 7, slots := #[.int (80)], vm := .none },
  { cls := 7, slots := #[.int (81)], vm := .none },
  { cls := 7, slots := #[.int (82)], vm := .none },
  { cls := 7, slots := #[.int (83)], vm := .none },
  { cls := 7, slots := #[.int (84)], vm := .none },
  { cls := 7, slots := #[.int (85)], vm := .none },
  { cls := 7, slots := #[.int (86)], vm := .none },
  { cls := 7, slots := #[.int (87)], vm := .none },
  { cls := 7, slots := #[.int (88)], vm := .none },
  { cls := 7, slots := #[.int (89)], vm := .none },
  { cls := 7, slots := #[.int (90)], vm := .none },
  { cls := 7, slots := #[.int (91)], vm := .none },
  { cls := 7, slots := #[.int (92)], vm := .none },
  { cls := 7, slots := #[.int (93)], vm := .none },
  { cls := 7, slots := #[.int (94)], vm := .none },
  { cls := 7, slots := #[.int (95)], vm := .none },
  { cls := 7, slots := #[.int (96)], vm := .none },
  { cls := 7, slots := #[.int (97)], vm := .none },
  { cls := 7, slots := #[.int (98)], vm := .none },
  { cls := 7, slots := #[.int (99)], vm := .none },
  { cls := 7, slots := #[.int (100)], vm := .none },
  { cls := 7, slots := #[.int (101)], vm := .none },
  { cls := 7, slots := #[.int (102)], vm := .none },
  { cls := 7, slots := #[.int (103)], vm := .none },
  { cls := 7, slots := #[.int (104)], vm := .none },
  { cls := 7, slots := #[.int (105)], vm := .none },
  { cls := 7, slots := #[.int (106)], vm := .none },
  { cls := 7, slots := #[.int (107)], vm := .none },
  { cls := 7, slots := #[.int (108)], vm := .none },
  { cls := 7, slots := #[.int (109)], vm := .none },
  { cls := 7, slots := #[.int (110)], vm := .none },
  { cls := 7, slots := #[.int (111)], vm := .none },
  { cls := 7, slots := #[.int (112)], vm := .none },
  { cls := 7, slots := #[.int (113)], vm := .none },
  { cls := 7, slots := #[.int (114)], vm := .none },
  { cls := 7, slots := #[.int (115)], vm := .none },
  { cls := 7, slots := #[.int (116)], vm := .none },
  { cls := 7, slots := #[.int (117)], vm := .none },
  { cls := 7, slots := #[.int (118)], vm := .none },
  { cls := 7, slots := #[.int (119)], vm := .none },
  { cls := 7, slots := #[.int (120)], vm := .none },
  { cls := 7, slots := #[.int (121)], vm := .none },
  { cls := 7, slots := #[.int (122)], vm := .none },
  { cls := 7, slots := #[.int (123)], vm := .none },
  { cls := 7, slots := #[.int (124)], vm := .none },
  { cls := 7, slots := #[.int (125)], vm := .none },
  { cls := 7, slots := #[.int (126)], vm := .none },
  { cls := 7, slots := #[.int (127)], vm := .none }]
def classes : Array Class := #[k0, k1, k2, k3, k4, k5, k6, k7, k8, k9, k10, k11, k12, k13, k14, k15, k16, k17, k18]
def interned : List (Array UInt16 × Addr) := []
def slotsUsed : Nat := 517
def theMethod : MethodId := ⟨1, 1⟩
def args0 : Array Value := #[.long 3, .long 4, .long 5, .long 6, .int 9]
def aboutOver (below : List Frame) : State where
  vm := { classes := classes, interned := interned.toArray }
  heap := heap
  slotsUsed := slotsUsed
  threads := #[{ frames := .invoking theMethod args0 :: below }]
def below0 : List Frame := [.native { method := ⟨0, 0⟩, args := #[] }]
def about1 : State := aboutOver below0
def p0 : Program := .bare "" "" ""
def e0 : Env := launch0.env 0 0 0
theorem w_frames : about1.frames = Frame.invoking theMethod args0 :: below0 := rfl
set_option maxRecDepth 65536 in
theorem w_args : argsFit about1.vm theMethod args0 = true := by decide +kernel
set_option maxRecDepth 65536 in
theorem w_heap : heapFits about1 = true := by decide +kernel
set_option maxRecDepth 65536 in
theorem w_runnable : about1.curStatus? = some .runnable := by decide +kernel
set_option maxRecDepth 65536 in
theorem w_alone : about1.alone = true := by decide +kernel
set_option maxRecDepth 65536 in
theorem w_named : about1.methodNamed? x = some theMethod := by decide +kernel
set_option maxRecDepth 65536 in
theorem w_hears : about1.hears theMethod below0 = true := by decide +kernel
set_option maxRecDepth 65536 in
theorem w_ripe : about1.ripe theMethod args0 below0 = true := by decide +kernel
theorem w_running : about1.status = .running := rfl
set_option maxRecDepth 65536 in
theorem w_room : about1.hasRoom e0.platform room_1 = true :=
  launch0.hasRoom_least _ room_1 (by decide +kernel) (by decide +kernel) (by decide +kernel) (by decide +kernel) (by decide +kernel) (by decide +kernel)
theorem allAtoms_all (ts : List Jvm.Cond) (a : Array Jvm.Value) (st : Jvm.State) : (allAtoms ts).before a st = ts.all (fun c => c.before a st) := by
  induction ts with
  | nil => rfl
  | cons c t ih =>
    show (Jvm.Cond.and c (allAtoms t)).before a st = _
    rw [Jvm.Cond.before_and, ih, List.all_cons]
def words1 : List Jvm.Cond := Jvm.Cond.code x code maxLocals ret :: tables_1
/-- a 'code' word, met by the world's own term for the bytes: nothing is compared byte by byte -/
theorem code_word {y : MethodName} {bytes : ByteArray} {mx : Nat} {rt : Option FieldType} {a : Array Value} {s : State} {m : MethodId} {meth : Method} {c : Code} (h1 : s.methodNamed? y = some m) (h2 : s.vm.method? m = some meth) (h3 : meth.code = some c) (h4 : c.code = bytes)
    (h5 : (c.maxLocals == mx && c.exceptionTable.isEmpty && decide (c.maxStack ≤ mostOperands) && decide (meth.sig.returnType = rt) && !meth.locks && decide (parseMethodDescriptor y.desc = some meth.sig)) = true) : (Jvm.Cond.code y bytes mx rt).before a s = true := by
  simp only [Bool.and_eq_true, beq_iff_eq, Bool.not_eq_true', decide_eq_true_eq] at h5
  obtain ⟨⟨⟨⟨⟨g1, g2⟩, g3⟩, g4⟩, g5⟩, g6⟩ := h5
  simp [Cond.before, Cond.holds, Cond.value, h1, h2, h3, h4, g1, g2, g3, g4, g5, g6]
def isCode : Jvm.Cond → Bool
  | .code _ _ _ _ => true
  | _ => false
theorem all_split {L : List Jvm.Cond} {P : Jvm.Cond → Bool} (h1 : L.all (fun c => isCode c || P c) = true) (h2 : ∀ c ∈ L.filter isCode, P c = true) : L.all P = true := by
  refine List.all_eq_true.mpr fun c hc => ?_
  have h := List.all_eq_true.mp h1 c hc
  rcases Bool.eq_false_or_eq_true (isCode c) with hi | hi
  · exact h2 c (List.mem_filter.mpr ⟨hc, hi⟩)
  · simpa [hi] using h
set_option maxRecDepth 65536 in
theorem w_c0 : (Jvm.Cond.code x code maxLocals ret).before args0 about1 = true := code_word (m := ⟨1, 1⟩) (meth := k1m1) (c := k1c1) (by decide +kernel) rfl rfl rfl (by decide +kernel)
set_option maxRecDepth 65536 in
theorem w_c1 : (Jvm.Cond.code ({ cls := "java/lang/Integer", name := "valueOf", desc := "(I)Ljava/lang/Integer;" } : Jvm.MethodName) jdk_33_method_22_code (1 : Nat) (Option.some (Jvm.ClassFile.FieldType.object "java/lang/Integer"))).before args0 about1 = true := code_word (m := ⟨7, 0⟩) (meth := k7m0) (c := k7c0) (by decide +kernel) rfl rfl rfl (by decide +kernel)
set_option maxRecDepth 65536 in
theorem w_c2 : (Jvm.Cond.code ({ cls := "com/example/meldbook/meldbook/verdict/OffsetQueue", name := "<init>", desc := "()V" } : Jvm.MethodName) prog_136_method_1_code (1 : Nat) (Option.none : Option Jvm.ClassFile.FieldType)).before args0 about1 = true := code_word (m := ⟨9, 0⟩) (meth := k9m0) (c := k9c0) (by decide +kernel) rfl rfl rfl (by decide +kernel)
set_option maxRecDepth 65536 in
theorem w_c3 : (Jvm.Cond.code ({ cls := "java/lang/Object", name := "<init>", desc := "()V" } : Jvm.MethodName) object_method_1_code (1 : Nat) (Option.none : Option Jvm.ClassFile.FieldType)).before args0 about1 = true := code_word (m := ⟨0, 0⟩) (meth := k0m0) (c := k0c0) (by decide +kernel) rfl rfl rfl (by decide +kernel)
set_option maxRecDepth 65536 in
theorem w_c4 : (Jvm.Cond.code ({ cls := "com/example/meldbook/meldbook/verdict/OffsetQueue", name := "add", desc := "(Ljava/lang/Object;JJ)V" } : Jvm.MethodName) prog_136_method_3_code (6 : Nat) (Option.none : Option Jvm.ClassFile.FieldType)).before args0 about1 = true := code_word (m := ⟨9, 1⟩) (meth := k9m1) (c := k9c1) (by decide +kernel) rfl rfl rfl (by decide +kernel)
set_option maxRecDepth 65536 in
theorem w_c5 : (Jvm.Cond.code ({ cls := "com/example/meldbook/meldbook/verdict/OffsetQueue", name := "remove", desc := "()V" } : Jvm.MethodName) prog_136_method_8_code (1 : Nat) (Option.none : Option Jvm.ClassFile.FieldType)).before args0 about1 = true := code_word (m := ⟨9, 6⟩) (meth := k9m6) (c := k9c6) (by decide +kernel) rfl rfl rfl (by decide +kernel)
set_option maxRecDepth 65536 in
theorem w_c6 : (Jvm.Cond.code ({ cls := "com/example/meldbook/meldbook/verdict/OffsetQueue", name := "isEmpty", desc := "()Z" } : Jvm.MethodName) prog_136_method_4_code (1 : Nat) (Option.some Jvm.ClassFile.FieldType.boolean)).before args0 about1 = true := code_word (m := ⟨9, 2⟩) (meth := k9m2) (c := k9c2) (by decide +kernel) rfl rfl rfl (by decide +kernel)
set_option maxRecDepth 65536 in
theorem w_c7 : (Jvm.Cond.code ({ cls := "com/example/meldbook/meldbook/verdict/OffsetQueue", name := "first", desc := "()J" } : Jvm.MethodName) prog_136_method_6_code (1 : Nat) (Option.some Jvm.ClassFile.FieldType.long)).before args0 about1 = true := code_word (m := ⟨9, 4⟩) (meth := k9m4) (c := k9c4) (by decide +kernel) rfl rfl rfl (by decide +kernel)
set_option maxRecDepth 65536 in
theorem w_c8 : (Jvm.Cond.code ({ cls := "com/example/meldbook/meldbook/verdict/OffsetQueue", name := "second", desc := "()J" } : Jvm.MethodName) prog_136_method_7_code (1 : Nat) (Option.some Jvm.ClassFile.FieldType.long)).before args0 about1 = true := code_word (m := ⟨9, 5⟩) (meth := k9m5) (c := k9c5) (by decide +kernel) rfl rfl rfl (by decide +kernel)
set_option maxRecDepth 65536 in
theorem w_c9 : (Jvm.Cond.code ({ cls := "com/example/meldbook/meldbook/verdict/OffsetQueue", name := "kind", desc := "()Ljava/lang/Object;" } : Jvm.MethodName) prog_136_method_5_code (1 : Nat) (Option.some (Jvm.ClassFile.FieldType.object "java/lang/Object"))).before args0 about1 = true := code_word (m := ⟨9, 3⟩) (meth := k9m3) (c := k9c3) (by decide +kernel) rfl rfl rfl (by decide +kernel)
set_option maxRecDepth 65536 in
theorem w_c10 : (Jvm.Cond.code ({ cls := "java/lang/Integer", name := "intValue", desc := "()I" } : Jvm.MethodName) jdk_33_method_27_code (1 : Nat) (Option.some Jvm.ClassFile.FieldType.int)).before args0 about1 = true := code_word (m := ⟨7, 2⟩) (meth := k7m2) (c := k7c2) (by decide +kernel) rfl rfl rfl (by decide +kernel)
set_option maxRecDepth 65536 in
theorem w_c11 : (Jvm.Cond.code ({ cls := "java/lang/Integer", name := "<init>", desc := "(I)V" } : Jvm.MethodName) jdk_33_method_23_code (2 : Nat) (Option.none : Option Jvm.ClassFile.FieldType)).before args0 about1 = true := code_word (m := ⟨7, 1⟩) (meth := k7m1) (c := k7c1) (by decide +kernel) rfl rfl rfl (by decide +kernel)
set_option maxRecDepth 65536 in
theorem w_c12 : (Jvm.Cond.code ({ cls := "java/lang/Number", name := "<init>", desc := "()V" } : Jvm.MethodName) jdk_18_method_1_code (1 : Nat) (Option.none : Option Jvm.ClassFile.FieldType)).before args0 about1 = true := code_word (m := ⟨3, 0⟩) (meth := k3m0) (c := k3c0) (by decide +kernel) rfl rfl rfl (by decide +kernel)
def codes1 : List Jvm.Cond := [Jvm.Cond.code x code maxLocals ret, Jvm.Cond.code ({ cls := "java/lang/Integer", name := "valueOf", desc := "(I)Ljava/lang/Integer;" } : Jvm.MethodName) jdk_33_method_22_code (1 : Nat) (Option.some (Jvm.ClassFile.FieldType.object "java/lang/Integer")), Jvm.Cond.code ({ cls := "com/example/meldbook/meldbook/verdict/OffsetQueue", name := "<init>", desc := "()V" } : Jvm.MethodName) prog_136_method_1_code (1 : Nat) (Option.none : Option Jvm.ClassFile.FieldType), Jvm.Cond.code ({ cls := "java/lang/Object", name := "<init>", desc := "()V" } : Jvm.MethodName) object_method_1_code (1 : Nat) (Option.none : Option Jvm.ClassFile.FieldType), Jvm.Cond.code ({ cls := "com/example/meldbook/meldbook/verdict/OffsetQueue", name := "add", desc := "(Ljava/lang/Object;JJ)V" } : Jvm.MethodName) prog_136_method_3_code (6 : Nat) (Option.none : Option Jvm.ClassFile.FieldType), Jvm.Cond.code ({ cls := "com/example/meldbook/meldbook/verdict/OffsetQueue", name := "remove", desc := "()V" } : Jvm.MethodName) prog_136_method_8_code (1 : Nat) (Option.none : Option Jvm.ClassFile.FieldType), Jvm.Cond.code ({ cls := "com/example/meldbook/meldbook/verdict/OffsetQueue", name := "isEmpty", desc := "()Z" } : Jvm.MethodName) prog_136_method_4_code (1 : Nat) (Option.some Jvm.ClassFile.FieldType.boolean), Jvm.Cond.code ({ cls := "com/example/meldbook/meldbook/verdict/OffsetQueue", name := "first", desc := "()J" } : Jvm.MethodName) prog_136_method_6_code (1 : Nat) (Option.some Jvm.ClassFile.FieldType.long), Jvm.Cond.code ({ cls := "com/example/meldbook/meldbook/verdict/OffsetQueue", name := "second", desc := "()J" } : Jvm.MethodName) prog_136_method_7_code (1 : Nat) (Option.some Jvm.ClassFile.FieldType.long), Jvm.Cond.code ({ cls := "com/example/meldbook/meldbook/verdict/OffsetQueue", name := "kind", desc := "()Ljava/lang/Object;" } : Jvm.MethodName) prog_136_method_5_code (1 : Nat) (Option.some (Jvm.ClassFile.FieldType.object "java/lang/Object")), Jvm.Cond.code ({ cls := "java/lang/Integer", name := "intValue", desc := "()I" } : Jvm.MethodName) jdk_33_method_27_code (1 : Nat) (Option.some Jvm.ClassFile.FieldType.int), Jvm.Cond.code ({ cls := "java/lang/Integer", name := "<init>", desc := "(I)V" } : Jvm.MethodName) jdk_33_method_23_code (2 : Nat) (Option.none : Option Jvm.ClassFile.FieldType), Jvm.Cond.code ({ cls := "java/lang/Number", name := "<init>", desc := "()V" } : Jvm.MethodName) jdk_18_method_1_code (1 : Nat) (Option.none : Option Jvm.ClassFile.FieldType)]
set_option maxRecDepth 65536 in
theorem codes_eq : words1.filter isCode = codes1 := rfl
theorem w_codes : ∀ c ∈ words1.filter isCode, c.before args0 about1 = true := by
  rw [codes_eq]
  intro c hc
  simp only [codes1, List.mem_cons, List.not_mem_nil, or_false] at hc
  rcases hc with rfl | rfl | rfl | rfl | rfl | rfl | rfl | rfl | rfl | rfl | rfl | rfl | rfl
  · exact w_c0
  · exact w_c1
  · exact w_c2
  · exact w_c3
  · exact w_c4
  · exact w_c5
  · exact w_c6
  · exact w_c7
  · exact w_c8
  · exact w_c9
  · exact w_c10
  · exact w_c11
  · exact w_c12
set_option maxRecDepth 65536 in
theorem w_t1 : (words1.take 24).all (fun c => isCode c || c.before args0 about1) = true := by decide +kernel
set_option maxRecDepth 65536 in
theorem w_t2 : ((words1.drop 24).take 24).all (fun c => isCode c || c.before args0 about1) = true := by decide +kernel
set_option maxRecDepth 65536 in
theorem w_t3 : (((words1.drop 24).drop 24).take 24).all (fun c => isCode c || c.before args0 about1) = true := by decide +kernel
set_option maxRecDepth 65536 in
theorem w_t4 : (((words1.drop 24).drop 24).drop 24).all (fun c => isCode c || c.before args0 about1) = true := by decide +kernel
theorem w_tables : (allAtoms (Jvm.Cond.code x code maxLocals ret :: tables_1)).before args0 about1 = true := by
  rw [allAtoms_all]
  show words1.all (fun c => c.before args0 about1) = true
  refine all_split ?_ w_codes
  rw [← List.take_append_drop 24 words1, List.all_append, w_t1, ← List.take_append_drop 24 (words1.drop 24), List.all_append, w_t2, ← List.take_append_drop 24 ((words1.drop 24).drop 24), List.all_append, w_t3, w_t4]
  rfl
set_option maxRecDepth 65536 in
theorem w_rest : rest_1_c.before args0 about1 = true := by decide +kernel
set_option maxRecDepth 65536 in
theorem w_case : (Jvm.Cond.and given_1 narrow_1).before args0 about1 = true := by decide +kernel
theorem w_applies : (headSpec (Jvm.Cond.code x code maxLocals ret :: tables_1) room_1).applies x e0.platform about1 = true :=
  (Spec.applies_iff w_frames).mpr ⟨w_running, w_runnable, w_alone, w_named, w_hears, w_ripe, w_room, w_tables⟩
theorem atStart : AtStart classFile x code maxLocals ret World_1 tables_1 room_1 Calls_1 rest_1 Pre_1 launch0 p0 e0 about1 theMethod args0 below0 :=
  ⟨lists_1, trivial, launch0.admits_env _ _ _, launch0.least_env, fairChoices_fair.cas, fairChoices_fair.clock, w_frames, w_args, w_heap, w_applies, trivial, w_rest, w_case⟩
end start1
theorem witness_1 : WitnessClaimed_1 := ⟨start1.p0, start1.e0, start1.about1, start1.theMethod, start1.args0, start1.below0, start1.atStart⟩
end Jvm.Pilot.@@N@@
