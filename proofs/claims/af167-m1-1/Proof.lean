import JvmDerived
import JvmDerived.Pilot.@@N@@Statement
import JvmDerived.Pilot.@@N@@Code
set_option linter.unusedVariables false
set_option linter.unusedSimpArgs false
namespace Jvm.Pilot.@@N@@
open Jvm Jvm.ClassFile Sem Op Lib Jvm.Free Jvm.Stand Jvm.LawKit Jvm.RoadKit Bundle Jvm.Pilot.@@N@@.Jvm.D
section OwnKit
variable {p : Program} {l : Launch} {e : Env} {R : Room} {s : State} {m : MethodId} {args : Array Value} {below : List Frame} {meth : Method} {c : Code} {T : State} {locs : List Loc} {cells slots : Nat} {Z : State} {a0 : Array Value} {h h' : Heap}
/-- the run from t comes to the method's end, where Q holds -/
def own_Go (p : Program) (e : Env) (below : List Frame) (s : State) (Q : Option Value → Heap → List Loc → Prop) (k n : Nat) (t : State) : Prop :=
  ∃ s₂ o, Steps p.tables e below t s₂ ∧ s₂.status = .running ∧ Ended s₂ below o ∧ ∃ v L, o = .returned v ∧ Q v s₂.heap L ∧ FrameEnd s o s₂ L k n
theorem own_go {Q : Option Value → Heap → List Loc → Prop} {k n : Nat} {t t' : State} (st : ∀ u, Steps p.tables e below t' u → Steps p.tables e below t u) (G : own_Go p e below s Q k n t') : own_Go p e below s Q k n t := by
  obtain ⟨s2, o, h1, r⟩ := G
  exact ⟨s2, o, st _ h1, r⟩
theorem own_ret {Q : Option Value → Heap → List Loc → Prop} {k n : Nat} (X : Stand p l e R s m args below meth c T locs cells slots) (hx : p.tables.exec = Jvm.exec) (hlk : meth.locks = false) {pc : Nat} {Ls : Array Slot} {w : Value} {t : FieldType} {i : Instr} {rest : List Value} (hret : meth.sig.returnType = some t) (hn : narrow t w = w)
    (hi : (i = .ireturn ∧ (t = .int ∨ t = .boolean ∨ t = .byte ∨ t = .char ∨ t = .short) ∧ ∃ z, w = .int z) ∨ (i = .lreturn ∧ t = .long ∧ ∃ z, w = .long z) ∨ (i = .dreturn ∧ t = .double ∧ ∃ z, w = .double z) ∨ (i = .freturn ∧ t = .float ∧ ∃ z, w = .float z) ∨ (i = .areturn ∧ t.isReference = true ∧ w.isRef = true))
    (hd : decode c.code pc = .ok (i, 1)) (hk : cells ≤ k) (hs : slots ≤ n) (hq : Q (some w) T.heap locs) : own_Go p e below s Q k n (T.setTop (mkF m pc Ls (w :: rest))) := by
  obtain ⟨fs, hr, hrun, hended, hW, hsame⟩ := X.leave (v := some w) (fun q => by rw [hret] at q; cases q) hlk
  exact ⟨_, _, retOut X hx hret hn hi hd hr, hrun, hended, _, _, rfl, hq, ⟨_, rfl⟩, hW, hsame.mono hk hs⟩
theorem own_retI {Q : Option Value → Heap → List Loc → Prop} {k n : Nat} (X : Stand p l e R s m args below meth c T locs cells slots) (hx : p.tables.exec = Jvm.exec) (hlk : meth.locks = false) {pc : Nat} {Ls : Array Slot} {z : Int32} {rest : List Value} (hret : meth.sig.returnType = some .int)
    (hd : decode c.code pc = .ok (.ireturn, 1)) (hk : cells ≤ k) (hs : slots ≤ n) (hq : Q (some (.int z)) T.heap locs) : own_Go p e below s Q k n (T.setTop (mkF m pc Ls (.int z :: rest))) :=
  own_ret X hx hlk hret rfl (Or.inl ⟨rfl, Or.inl rfl, z, rfl⟩) hd hk hs hq
theorem own_retZ {Q : Option Value → Heap → List Loc → Prop} {k n : Nat} (X : Stand p l e R s m args below meth c T locs cells slots) (hx : p.tables.exec = Jvm.exec) (hlk : meth.locks = false) {pc : Nat} {Ls : Array Slot} {z : Int32} {rest : List Value} (hret : meth.sig.returnType = some .boolean)
    (hd : decode c.code pc = .ok (.ireturn, 1)) (hz : z = 0 ∨ z = 1) (hk : cells ≤ k) (hs : slots ≤ n) (hq : Q (some (.int z)) T.heap locs) : own_Go p e below s Q k n (T.setTop (mkF m pc Ls (.int z :: rest))) :=
  own_ret X hx hlk hret (by rcases hz with rfl | rfl <;> rfl) (Or.inl ⟨rfl, Or.inr (Or.inl rfl), z, rfl⟩) hd hk hs hq
theorem own_retJ {Q : Option Value → Heap → List Loc → Prop} {k n : Nat} (X : Stand p l e R s m args below meth c T locs cells slots) (hx : p.tables.exec = Jvm.exec) (hlk : meth.locks = false) {pc : Nat} {Ls : Array Slot} {z : Int64} {rest : List Value} (hret : meth.sig.returnType = some .long)
    (hd : decode c.code pc = .ok (.lreturn, 1)) (hk : cells ≤ k) (hs : slots ≤ n) (hq : Q (some (.long z)) T.heap locs) : own_Go p e below s Q k n (T.setTop (mkF m pc Ls (.long z :: rest))) :=
  own_ret X hx hlk hret rfl (Or.inr (Or.inl ⟨rfl, rfl, z, rfl⟩)) hd hk hs hq
theorem own_retR {Q : Option Value → Heap → List Loc → Prop} {k n : Nat} (X : Stand p l e R s m args below meth c T locs cells slots) (hx : p.tables.exec = Jvm.exec) (hlk : meth.locks = false) {pc : Nat} {Ls : Array Slot} {w : Value} {t : FieldType} {rest : List Value} (hret : meth.sig.returnType = some t) (ht : t.isReference = true) (hw : w.isRef = true) (hnr : narrow t w = w)
    (hd : decode c.code pc = .ok (.areturn, 1)) (hk : cells ≤ k) (hs : slots ≤ n) (hq : Q (some w) T.heap locs) : own_Go p e below s Q k n (T.setTop (mkF m pc Ls (w :: rest))) :=
  own_ret X hx hlk hret hnr (Or.inr (Or.inr (Or.inr (Or.inr ⟨rfl, ht, hw⟩)))) hd hk hs hq
theorem own_retV {Q : Option Value → Heap → List Loc → Prop} {k n : Nat} (X : Stand p l e R s m args below meth c T locs cells slots) (hx : p.tables.exec = Jvm.exec) (hlk : meth.locks = false) {pc : Nat} {Ls : Array Slot} (hret : meth.sig.returnType = none)
    (hd : decode c.code pc = .ok (.return_, 1)) (hk : cells ≤ k) (hs : slots ≤ n) (hq : Q none T.heap locs) : own_Go p e below s Q k n (T.setTop (mkF m pc Ls [])) := by
  obtain ⟨fs, hr, hrun, hended, hW, hsame⟩ := X.leave (v := none) (fun _ => rfl) hlk
  exact ⟨_, _, X.returnOut hx hret hd hr, hrun, hended, _, _, rfl, hq, ⟨_, rfl⟩, hW, hsame.mono hk hs⟩
/-- a body's contract: handed as', at a heap h0, it ends as Q says -/
abbrev own_Met (l : Launch) (Z : State) (y : MethodName) (bytes : ByteArray) (maxL : Nat) (ret : Option FieldType) (rm : Room) (ws : List Jvm.Cond) (as' : Array Value) (h0 : Heap) (Q : Option Value → Heap → List Loc → Prop) : Prop :=
  MetFree l y (head1 (Jvm.Cond.code y bytes maxL ret :: ws) rm) (fun a U => a = as' ∧ Z.Warmed39 U.vm ∧ U.heap = h0) (fun _ _ _ _ _ => True) (fun _ U o U' => ∃ v L, o = .returned v ∧ Q v U'.heap L ∧ FrameEnd U o U' L rm.cells rm.slots)
theorem own_enter {y : MethodName} {bytes : ByteArray} {maxL : Nat} {ret : Option FieldType} {rm : Room} {ws : List Jvm.Cond} {as' : Array Value} {h0 : Heap} {Q : Option Value → Heap → List Loc → Prop} (hpl : plainFor y = true)
    (body : ∀ (p : Program) (e : Env) (s : State) (m : MethodId) (below : List Frame) (meth : Method) (c : Code) (s₁ : State), p.tables.exec = Jvm.exec → c.code = bytes → c.maxLocals = maxL → s.vm.findClass y.cls = some m.cls → meth.name = y.name → meth.locks = false → meth.sig.returnType = ret → Z.Warmed39 s.vm →
      Stand p l e rm s m as' below meth c s₁ [] 0 0 → s₁.heap = h0 → own_Go p e below s Q rm.cells rm.slots (s₁.setTop (entryFrame m as' maxL))) : own_Met l Z y bytes maxL ret rm ws as' h0 Q := by
  refine MetFree.of_bodySF hpl hisR ?_
  intro p e s m args below meth c s₁ Bd hml0 hP hK
  obtain ⟨rfl, hZ, hh⟩ := hP
  exact body p e s m below meth c s₁ Bd.exec Bd.bytes hml0 (findClass_of_methodNamed Bd.named) (name_of_methodNamed Bd.named Bd.method).1 Bd.notSynchronized Bd.returns hZ (Stand.of_body Bd) (by rw [← hh, Bd.state]; rfl)
/-- a static call by the callee's contract -/
theorem own_static {Q Q' : Option Value → Heap → List Loc → Prop} {k n : Nat} (X : Stand p l e R s m args below meth c T locs cells slots) (hx : p.tables.exec = Jvm.exec) (hZ : Z.Warmed39 s.vm) {own : String} {index : Nat} {y : MethodName} {bytes : ByteArray} {maxL : Nat} {ret : Option FieldType} {rm : Room}
    (hown : s.vm.findClass own = some m.cls) (w1 : (Cond.methodLink own index y).before a0 Z = true) (w2 : (Cond.static y).before a0 Z = true) (w3 : (Cond.initialized y.cls).before a0 Z = true) (w4 : (Cond.code y bytes maxL ret).before a0 Z = true)
    (hy : y.cls ≠ "java/lang/invoke/MethodHandle" ∧ y.cls ≠ "java/lang/invoke/VarHandle") (eT : T.heap = h) {argsL rest : List Value} (hM : own_Met l Z y bytes maxL ret rm [] argsL.toArray h Q) (W : Nat) (hf : rm.frames + 1 ≤ R.frames) (hl : W + (maxL + 11) + rm.locals ≤ R.locals) (hc : cells + rm.cells ≤ R.cells) (hsl : slots + rm.slots ≤ R.slots)
    {pc pc' : Nat} {Ls : Array Slot} {st : List Value} (hsize : Ls.size = c.maxLocals) {ps : List FieldType} {rt : Option FieldType} (hdesc : parseMethodDescriptor y.desc = some ⟨ps, rt⟩) (hlen : argsL.length = ps.length) (hst : st = argsL.reverse ++ rest) (hW : (rest.map fun v => v.category).sum ≤ W) (hd : decode c.code pc = .ok (.invokestatic index, 3)) (hpc : pc + 3 = pc')
    (go : ∀ (v : Option Value) (T' : State) (L : List Loc), Stand p l e R s m args below meth c T' (locs ++ L) (cells + rm.cells) (slots + rm.slots) → Q v T'.heap L → own_Go p e below s Q' k n (T'.setTop (mkF m pc' Ls (v.toList ++ rest)))) : own_Go p e below s Q' k n (T.setTop (mkF m pc Ls st)) := by
  subst hpc
  obtain ⟨v, _, ⟨T', L', k', n'⟩, -, X', ⟨L, hQ, hl', hk', hn'⟩, stp⟩ := Jvm.LawKit.callS X hx hown (mvT hZ w1) (mvT hZ w2) (mvT hZ w3) (mvT hZ w4) hy (backOf (W := W) hM hZ w4 w3 hf hl) (g := mkF m pc Ls st) rfl hsize (argsL := argsL) (rest := rest) (lenOf hdesc hlen) hst (by show 2 * 0 + _ ≤ _; omega) hd (fun _ _ => ⟨rfl, eT, hc, hsl⟩)
  dsimp only [Pt.U, Pt.locs, Pt.cells, Pt.slots] at X' hl' hk' hn' stp hQ
  subst hl' hk' hn'
  exact own_go stp (go v T' L X' hQ)
/-- a constructor by its contract -/
theorem own_init {Q Q' : Option Value → Heap → List Loc → Prop} {k n : Nat} (X : Stand p l e R s m args below meth c T locs cells slots) (hx : p.tables.exec = Jvm.exec) (hZ : Z.Warmed39 s.vm) {own : String} {index : Nat} {y : MethodName} {bytes : ByteArray} {maxL : Nat} {rm : Room} (hyi : y.name = "<init>")
    (hown : s.vm.findClass own = some m.cls) (w1 : (Cond.methodLink own index y).before a0 Z = true) (w2 : (Cond.instanceMethod y).before a0 Z = true) (w3 : (Cond.initialized y.cls).before a0 Z = true) (w4 : (Cond.code y bytes maxL none).before a0 Z = true)
    (hy : y.cls ≠ "java/lang/invoke/MethodHandle" ∧ y.cls ≠ "java/lang/invoke/VarHandle") (eT : T.heap = h) {a : Addr} {argsL rest : List Value} (hM : own_Met l Z y bytes maxL none rm [] (.ref a :: argsL).toArray h Q) (W : Nat) (hf : rm.frames + 1 ≤ R.frames) (hl : W + (maxL + 11) + rm.locals ≤ R.locals) (hc : cells + rm.cells ≤ R.cells) (hsl : slots + rm.slots ≤ R.slots)
    {pc pc' : Nat} {Ls : Array Slot} {st : List Value} (hsize : Ls.size = c.maxLocals) {ps : List FieldType} {rt : Option FieldType} (hdesc : parseMethodDescriptor y.desc = some ⟨ps, rt⟩) (hlen : argsL.length = ps.length) (hst : st = argsL.reverse ++ .ref a :: rest) (hW : (rest.map fun v => v.category).sum ≤ W) (hd : decode c.code pc = .ok (.invokespecial index, 3)) (hpc : pc + 3 = pc')
    (go : ∀ (v : Option Value) (T' : State) (L : List Loc), Stand p l e R s m args below meth c T' (locs ++ L) (cells + rm.cells) (slots + rm.slots) → Q v T'.heap L → own_Go p e below s Q' k n (T'.setTop (mkF m pc' Ls (v.toList ++ rest)))) : own_Go p e below s Q' k n (T.setTop (mkF m pc Ls st)) := by
  subst hpc
  obtain ⟨v, _, ⟨T', L', k', n'⟩, -, X', ⟨L, hQ, hl', hk', hn'⟩, stp⟩ := X.specialBack hx hyi hown (mvT hZ w1) (mvT hZ w2) (mvT hZ w4) hy (backOf (W := W) hM hZ w4 w3 hf hl) (g := mkF m pc Ls st) rfl hsize (Steps.refl _) (a := a) (argsL := argsL) (rest := rest) (lenOf hdesc hlen) hst (by show 2 * 0 + _ ≤ _; omega) hd (fun _ _ => ⟨rfl, eT, hc, hsl⟩)
  dsimp only [Pt.U, Pt.locs, Pt.cells, Pt.slots] at X' hl' hk' hn' stp hQ
  subst hl' hk' hn'
  exact own_go (fun _ q => stp.trans q) (go v T' L X' hQ)
/-- an instance method by its contract: the receiver is exactly of the class C, which selects z -/
theorem own_virtual {Q Q' : Option Value → Heap → List Loc → Prop} {k n : Nat} (X : Stand p l e R s m args below meth c T locs cells slots) (hx : p.tables.exec = Jvm.exec) (hZ : Z.Warmed39 s.vm) {own C : String} {index : Nat} {y : MethodName} {bytes : ByteArray} {maxL : Nat} {ret : Option FieldType} {rm : Room}
    (hown : s.vm.findClass own = some m.cls) (w1 : (Cond.methodLink own index y).before a0 Z = true) (w2 : (Cond.declares y).before a0 Z = true) (w3 : (Cond.selects C y y).before a0 Z = true) (w5 : (Cond.instanceMethod y).before a0 Z = true) (w6 : (Cond.initialized y.cls).before a0 Z = true) (w4 : (Cond.code y bytes maxL ret).before a0 Z = true)
    (hy : y.cls ≠ "java/lang/invoke/MethodHandle" ∧ y.cls ≠ "java/lang/invoke/VarHandle") (eT : T.heap = h) {a : Addr} (E : Exa Z h a C) {argsL rest : List Value} (hM : own_Met l Z y bytes maxL ret rm [] (.ref a :: argsL).toArray h Q) (W : Nat) (hf : rm.frames + 1 ≤ R.frames) (hl : W + (maxL + 11) + rm.locals ≤ R.locals) (hc : cells + rm.cells ≤ R.cells) (hsl : slots + rm.slots ≤ R.slots)
    {pc pc' : Nat} {Ls : Array Slot} {st : List Value} (hsize : Ls.size = c.maxLocals) {ps : List FieldType} {rt : Option FieldType} (hdesc : parseMethodDescriptor y.desc = some ⟨ps, rt⟩) (hlen : argsL.length = ps.length) (hst : st = argsL.reverse ++ .ref a :: rest) (hW : (rest.map fun v => v.category).sum ≤ W) (hd : decode c.code pc = .ok (.invokevirtual index, 3)) (hpc : pc + 3 = pc')
    (go : ∀ (v : Option Value) (T' : State) (L : List Loc), Stand p l e R s m args below meth c T' (locs ++ L) (cells + rm.cells) (slots + rm.slots) → Q v T'.heap L → own_Go p e below s Q' k n (T'.setTop (mkF m pc' Ls (v.toList ++ rest)))) : own_Go p e below s Q' k n (T.setTop (mkF m pc Ls st)) := by
  subst hpc
  obtain ⟨cq, kq, qa, qb, qc⟩ := isOf hZ eT E
  obtain ⟨v, _, ⟨T', L', k', n'⟩, -, X', ⟨L, hQ, hl', hk', hn'⟩, stp⟩ := X.virtualBack hx (z := y) hown (mvT hZ w1) (mvT hZ w2) (notFace_of_selects (args := #[]) (mvT hZ w3)) (mvT hZ w3) (mvT hZ w5) hy (backOf (W := W) hM hZ w4 w6 hf hl) qa qc (g := mkF m pc Ls st) rfl hsize (Steps.refl _) (argsL := argsL) (rest := rest) (lenOf hdesc hlen) hst (by show 2 * 0 + _ ≤ _; omega) hd (fun _ _ => ⟨rfl, eT, hc, hsl⟩)
  dsimp only [Pt.U, Pt.locs, Pt.cells, Pt.slots] at X' hl' hk' hn' stp hQ
  subst hl' hk' hn'
  exact own_go (fun _ q => stp.trans q) (go v T' L X' hQ)
/-- an array of n places that hold F 0, F 1 .. -/
def own_Ar (Z : State) (h : Heap) (a : Addr) (ty : FieldType) (n : Nat) (F : Nat → Value) : Prop := n < 2 ^ 31 ∧ ∃ c : Cell, Arr Z h a c ty ∧ c.slots.size = n ∧ ∀ j, j < n → c.slots[j]? = some (F j)
section ArFacts
variable {a b : Addr} {ty : FieldType} {F G : Nat → Value} {nn : Nat} {sl : Nat} {v : Value} {ws : List Addr}
theorem own_Ar.lt (A : own_Ar Z h a ty nn F) : a < h.size := by obtain ⟨-, c, A, -⟩ := A; exact A.lt
theorem own_Ar.ext (A : own_Ar Z h a ty nn F) (E : Ext h h') : own_Ar Z h' a ty nn F := by obtain ⟨q, c, A, r⟩ := A; exact ⟨q, c, A.ext E, r⟩
theorem own_Ar.other (A : own_Ar Z h a ty nn F) (W : Wr h h' b sl v) (q : a ≠ b) : own_Ar Z h' a ty nn F := by obtain ⟨q0, c, A, r⟩ := A; exact ⟨q0, c, A.other W q, r⟩
theorem own_Ar.keep (A : own_Ar Z h a ty nn F) (K : Keep h h' ws) (q : a ∉ ws) : own_Ar Z h' a ty nn F := by obtain ⟨q0, c, A, r⟩ := A; exact ⟨q0, c, ⟨K.2.1 a c A.1 q, A.2⟩, r⟩
theorem own_Ar.eqv (A : own_Ar Z h a ty nn F) (q : ∀ j, j < nn → F j = G j) : own_Ar Z h a ty nn G := by obtain ⟨q0, c, A, r, r2⟩ := A; exact ⟨q0, c, A, r, fun j hj => by rw [r2 j hj, q j hj]⟩
theorem own_Ar.set (A : own_Ar Z h a ty nn F) (W : Wr h h' a sl v) : own_Ar Z h' a ty nn (fun j => if j = sl then v else F j) := by
  obtain ⟨q0, c, A, r, r2⟩ := A
  refine ⟨q0, _, A.same W, by rw [sz_set]; exact r, fun j hj => ?_⟩
  by_cases q : j = sl
  · subst q
    simp [Cell.setSlot, r, hj]
  · have q' : sl ≠ j := fun x => q x.symm
    simp only [if_neg q]
    rw [← r2 j hj]
    simp [Cell.setSlot, Array.getElem?_setIfInBounds, q']
theorem own_Ar.new {k : ClassId} {z : Int32} (A : Arr Z h a (newA k ty z) ty) (q : ¬ z < 0) (hz : z.toNatClampNeg = nn) : own_Ar Z h a ty nn (fun _ => defaultValue ty) := by
  subst hz
  refine ⟨(back32 q).2, _, A, sz_new _ _ _, fun j hj => ?_⟩
  simp [newA, hj]
end ArFacts
theorem own_inb {c : Cell} {n i : Nat} {z : Int32} (hs : c.slots.size = n) (hz : z.toInt = (i : Int)) (hi : i < n) : ¬ (z < 0 ∨ c.slots.size ≤ z.toNatClampNeg) ∧ z.toNatClampNeg = i := by
  have h1 : z.toNatClampNeg = i := by rw [Int32.toNatClampNeg, hz]; rfl
  refine ⟨?_, h1⟩
  rintro (q | q)
  · rw [Int32.lt_iff_toInt_lt, hz] at q
    have : (0 : Int32).toInt = 0 := rfl
    omega
  · rw [h1, hs] at q
    omega
theorem own_lt {x y : Int32} (q : x.toInt < y.toInt) : x < y := Int32.lt_iff_toInt_lt.mpr q
theorem own_nlt {x y : Int32} (q : y.toInt ≤ x.toInt) : ¬ x < y := fun r => by rw [Int32.lt_iff_toInt_lt] at r; omega
theorem own_ltI {x y : Int32} (q : x < y) : x.toInt < y.toInt := Int32.lt_iff_toInt_lt.mp q
theorem own_nltI {x y : Int32} (q : ¬ x < y) : y.toInt ≤ x.toInt := by rw [Int32.lt_iff_toInt_lt] at q; omega
theorem own_eq {x y : Int32} (q : x.toInt = y.toInt) : x = y := Int32.toInt_inj.mp q
theorem own_ne {x y : Int32} (q : x.toInt ≠ y.toInt) : ¬ x = y := fun r => q (by rw [r])
theorem own_neI {x y : Int32} (q : ¬ x = y) : x.toInt ≠ y.toInt := fun r => q (own_eq r)
/-- the read of an int out of an array -/
theorem own_iaload {Q : Option Value → Heap → List Loc → Prop} {k n : Nat} (X : Stand p l e R s m args below meth c T locs cells slots) (hx : p.tables.exec = Jvm.exec) (hZ : Z.Warmed39 s.vm) (eT : T.heap = h) {a : Addr} {nn i : Nat} {F : Nat → Value} {x z : Int32} (A : own_Ar Z h a .int nn F) (hz : z.toInt = (i : Int)) (hi : i < nn) (hF : F i = .int x)
    {pc pc' : Nat} {Ls : Array Slot} {rest : List Value} (hd : decode c.code pc = .ok (.iaload, 1)) (hpc : pc + 1 = pc') (go : own_Go p e below s Q k n (T.setTop (mkF m pc' Ls (.int x :: rest)))) : own_Go p e below s Q k n (T.setTop (mkF m pc Ls (.int z :: .ref a :: rest))) := by
  subst hpc
  obtain ⟨-, c, A, r, r2⟩ := A
  obtain ⟨q1, q2⟩ := own_inb r hz hi
  exact own_go (X.iaload hx (j := z) (v := .int x) (by rw [eT]; exact A.1) (State.isArrayOf_alike hZ.alike A.2.1) A.2.2 q1 (by rw [q2, r2 i hi, hF]) (g := mkF m pc Ls (.int z :: .ref a :: rest)) rfl rfl hd) go
theorem own_laload {Q : Option Value → Heap → List Loc → Prop} {k n : Nat} (X : Stand p l e R s m args below meth c T locs cells slots) (hx : p.tables.exec = Jvm.exec) (hZ : Z.Warmed39 s.vm) (eT : T.heap = h) {a : Addr} {nn i : Nat} {F : Nat → Value} {x : Int64} {z : Int32} (A : own_Ar Z h a .long nn F) (hz : z.toInt = (i : Int)) (hi : i < nn) (hF : F i = .long x)
    {pc pc' : Nat} {Ls : Array Slot} {rest : List Value} (hd : decode c.code pc = .ok (.laload, 1)) (hpc : pc + 1 = pc') (go : own_Go p e below s Q k n (T.setTop (mkF m pc' Ls (.long x :: rest)))) : own_Go p e below s Q k n (T.setTop (mkF m pc Ls (.int z :: .ref a :: rest))) := by
  subst hpc
  obtain ⟨-, c, A, r, r2⟩ := A
  obtain ⟨q1, q2⟩ := own_inb r hz hi
  exact own_go (X.laload hx (j := z) (v := .long x) (by rw [eT]; exact A.1) (State.isArrayOf_alike hZ.alike A.2.1) A.2.2 q1 (by rw [q2, r2 i hi, hF]) (g := mkF m pc Ls (.int z :: .ref a :: rest)) rfl rfl hd) go
theorem own_iastore {Q : Option Value → Heap → List Loc → Prop} {k n : Nat} (X : Stand p l e R s m args below meth c T locs cells slots) (hx : p.tables.exec = Jvm.exec) (hZ : Z.Warmed39 s.vm) (eT : T.heap = h) {a : Addr} {nn i : Nat} {F : Nat → Value} {x z : Int32} (A : own_Ar Z h a .int nn F) (hz : z.toInt = (i : Int)) (hi : i < nn)
    {pc pc' : Nat} {Ls : Array Slot} {rest : List Value} (hd : decode c.code pc = .ok (.iastore, 1)) (hpc : pc + 1 = pc') (go : ∀ T' h', Stand p l e R s m args below meth c T' (locs ++ [⟨a, i⟩]) cells slots → T'.heap = h' → Wr h h' a i (.int x) → own_Ar Z h' a .int nn (fun j => if j = i then .int x else F j) → own_Go p e below s Q k n (T'.setTop (mkF m pc' Ls rest))) : own_Go p e below s Q k n (T.setTop (mkF m pc Ls (.int x :: .int z :: .ref a :: rest))) := by
  subst hpc
  have A' := A
  obtain ⟨-, c, A, r, r2⟩ := A
  obtain ⟨q1, q2⟩ := own_inb r hz hi
  obtain ⟨T', h', X', e', W', st⟩ := stI X hx hZ eT A (j := z) (x := x) q1 (g := mkF m pc Ls (.int x :: .int z :: .ref a :: rest)) rfl rfl hd
  rw [q2] at X' W'
  exact own_go st (go T' h' X' e' W' (A'.set W'))
theorem own_lastore {Q : Option Value → Heap → List Loc → Prop} {k n : Nat} (X : Stand p l e R s m args below meth c T locs cells slots) (hx : p.tables.exec = Jvm.exec) (hZ : Z.Warmed39 s.vm) (eT : T.heap = h) {a : Addr} {nn i : Nat} {F : Nat → Value} {x : Int64} {z : Int32} (A : own_Ar Z h a .long nn F) (hz : z.toInt = (i : Int)) (hi : i < nn)
    {pc pc' : Nat} {Ls : Array Slot} {rest : List Value} (hd : decode c.code pc = .ok (.lastore, 1)) (hpc : pc + 1 = pc') (go : ∀ T' h', Stand p l e R s m args below meth c T' (locs ++ [⟨a, i⟩]) cells slots → T'.heap = h' → Wr h h' a i (.long x) → own_Ar Z h' a .long nn (fun j => if j = i then .long x else F j) → own_Go p e below s Q k n (T'.setTop (mkF m pc' Ls rest))) : own_Go p e below s Q k n (T.setTop (mkF m pc Ls (.long x :: .int z :: .ref a :: rest))) := by
  subst hpc
  have A' := A
  obtain ⟨-, c, A, r, r2⟩ := A
  obtain ⟨q1, q2⟩ := own_inb r hz hi
  obtain ⟨T', h', X', e', W', st⟩ := stJ X hx hZ eT A (j := z) (x := x) q1 (g := mkF m pc Ls (.long x :: .int z :: .ref a :: rest)) rfl rfl hd
  rw [q2] at X' W'
  exact own_go st (go T' h' X' e' W' (A'.set W'))
theorem own_length {Q : Option Value → Heap → List Loc → Prop} {k n : Nat} (X : Stand p l e R s m args below meth c T locs cells slots) (hx : p.tables.exec = Jvm.exec) (hZ : Z.Warmed39 s.vm) (eT : T.heap = h) {a : Addr} {nn : Nat} {ty : FieldType} {F : Nat → Value} {z : Int32} (A : own_Ar Z h a ty nn F) (hz : z.toInt = (nn : Int))
    {pc pc' : Nat} {Ls : Array Slot} {rest : List Value} (hd : decode c.code pc = .ok (.arraylength, 1)) (hpc : pc + 1 = pc') (go : own_Go p e below s Q k n (T.setTop (mkF m pc' Ls (.int z :: rest)))) : own_Go p e below s Q k n (T.setTop (mkF m pc Ls (.ref a :: rest))) := by
  subst hpc
  obtain ⟨q, c, A, r, r2⟩ := A
  have hz' : c.slots.size.toInt32 = z := own_eq (by rw [r, hz]; exact len_toInt q)
  subst hz'
  exact own_go (X.arraylength hx (by rw [eT]; exact A.1) (State.isArrayOf_alike hZ.alike A.2.1) (g := mkF m pc Ls (.ref a :: rest)) rfl rfl hd) go
end OwnKit
theorem pd_0 : parseMethodDescriptor "([III)I" = some ⟨[(.array .int), .int, .int], some .int⟩ := by decide +kernel
theorem pd_1 : parseMethodDescriptor "([IIIII)Z" = some ⟨[(.array .int), .int, .int, .int, .int], some .boolean⟩ := by decide +kernel

theorem own_inc {z : Int32} {i : Nat} (h : z.toInt = (i : Int)) (hi : i < 1000000) : (z + (1 : Int32)).toInt = ((i + 1 : Nat) : Int) := by
  have h1 := c_iadd z 1
  have h2 := rng32 (z + 1)
  have e1 : (1 : Int32).toInt = 1 := rfl
  rw [h, e1] at h1
  omega
def own_B (f : Nat → Int32) (sk : Int32) (i k : Nat) : Prop := k < i ∧ (k : Int) ≠ sk.toInt ∧ ∀ j, j < i → (j : Int) ≠ sk.toInt → (j < k → (f k).toInt < (f j).toInt) ∧ (f k).toInt ≤ (f j).toInt
def own_P (f : Nat → Int32) (sk : Int32) (i : Nat) (r : Int32) : Prop := (r.toInt = -1 ∧ ∀ j, j < i → (j : Int) = sk.toInt) ∨ ∃ k : Nat, r.toInt = (k : Int) ∧ own_B f sk i k
theorem own_P0 (f : Nat → Int32) (sk : Int32) : own_P f sk 0 (-1) := Or.inl ⟨rfl, fun j hj => absurd hj (Nat.not_lt_zero j)⟩
theorem own_Pk {f : Nat → Int32} {sk : Int32} {i : Nat} {r : Int32} (h : own_P f sk i r) (hr : ¬ r < (0 : Int32)) : ∃ k : Nat, r.toInt = (k : Int) ∧ own_B f sk i k := by
  rcases h with ⟨h, -⟩ | h
  · have := own_nltI hr
    have e0 : (0 : Int32).toInt = 0 := rfl
    omega
  · exact h
theorem own_Ps {f : Nat → Int32} {sk : Int32} {i : Nat} {r z : Int32} (h : own_P f sk i r) (hz : z.toInt = (i : Int)) (hs : z = sk) : own_P f sk (i + 1) r := by
  subst hs
  rcases h with ⟨h, g⟩ | ⟨k, h, g1, g2, g3⟩
  · refine Or.inl ⟨h, fun j hj => ?_⟩
    by_cases q : j = i
    · omega
    · exact g j (by omega)
  · refine Or.inr ⟨k, h, by omega, g2, fun j hj hn => ?_⟩
    by_cases q : j = i
    · subst q; exact absurd hz.symm hn
    · exact g3 j (by omega) hn
theorem own_Pa {f : Nat → Int32} {sk : Int32} {i : Nat} {r z : Int32} (h : own_P f sk i r) (hz : z.toInt = (i : Int)) (hs : ¬ z = sk) (hr : r < (0 : Int32)) : own_P f sk (i + 1) z := by
  have hr' := own_ltI hr
  have e0 : (0 : Int32).toInt = 0 := rfl
  rcases h with ⟨h, g⟩ | ⟨k, h, -⟩
  · refine Or.inr ⟨i, hz, by omega, fun q => own_neI hs (by omega), fun j hj hn => ?_⟩
    by_cases q : j = i
    · subst q; exact ⟨fun u => absurd u (Nat.lt_irrefl _), Int.le_refl _⟩
    · exact absurd (g j (by omega)) hn
  · omega
theorem own_Pb {f : Nat → Int32} {sk : Int32} {i q : Nat} {z : Int32} (h : own_B f sk i q) (hz : z.toInt = (i : Int)) (hs : ¬ z = sk) (hl : f i < f q) : own_P f sk (i + 1) z := by
  obtain ⟨g1, g2, g3⟩ := h
  have hl' := own_ltI hl
  refine Or.inr ⟨i, hz, by omega, fun u => own_neI hs (by omega), fun j hj hn => ?_⟩
  by_cases u : j = i
  · subst u; exact ⟨fun u => absurd u (Nat.lt_irrefl _), Int.le_refl _⟩
  · have := (g3 j (by omega) hn).2
    exact ⟨fun _ => by omega, by omega⟩
theorem own_Pc {f : Nat → Int32} {sk : Int32} {i q : Nat} {r : Int32} (h : own_B f sk i q) (hr : r.toInt = (q : Int)) (hl : ¬ f i < f q) : own_P f sk (i + 1) r := by
  obtain ⟨g1, g2, g3⟩ := h
  have hl' := own_nltI hl
  refine Or.inr ⟨q, hr, by omega, g2, fun j hj hn => ?_⟩
  by_cases u : j = i
  · subst u; exact ⟨fun u => absurd u (by omega), hl'⟩
  · exact g3 j (by omega) hn
theorem own_F1 {f : Nat → Int32} {sk r z ct : Int32} {n q i : Nat} (h : own_B f sk n q) (hz : z.toInt = (i : Int)) (hr : r.toInt = (q : Int)) (hl : z < ct) (hs : ¬ z = sk) (hp : z < r) : (f q).toInt < (f i).toInt := by
  have := own_ltI hp
  have g1 := h.1
  exact (h.2.2 i (by omega) (fun u => own_neI hs (by omega))).1 (by omega)
theorem own_F2 {f : Nat → Int32} {sk z : Int32} {n q i : Nat} (h : own_B f sk n q) (hz : z.toInt = (i : Int)) (hs : ¬ z = sk) (hi : i < n) : (f q).toInt ≤ (f i).toInt := (h.2.2 i hi (fun u => own_neI hs (by omega))).2
theorem own_got {f : Nat → Int32} {sk r : Int32} {n : Nat} (h : own_P f sk n r) (hn : 1 ≤ n) (h1 : -1 ≤ sk.toInt) (h2 : sk.toInt < n) (h3 : n = 1 → sk.toInt = -1) : ∃ k : Nat, r.toInt = (k : Int) ∧ own_B f sk n k := by
  rcases h with ⟨-, g⟩ | h
  · have a := g 0 (by omega)
    by_cases q : n = 1
    · have := h3 q; omega
    · have := g 1 (by omega); omega
  · exact h
def own_f (a b c d : Int32) (j : Nat) : Int32 := if j = 0 then a else if j = 1 then b else if j = 2 then c else d
theorem own_fill (a b c d : Int32) : ∀ j, j < 4 → (fun j => if j = 3 then Value.int d else (if j = 2 then Value.int c else (if j = 1 then Value.int b else (if j = 0 then Value.int a else defaultValue (newarray.typeOf .int))))) j = (fun j => Value.int (own_f a b c d j)) j := fun j hj => by
  have : j = 0 ∨ j = 1 ∨ j = 2 ∨ j = 3 := by omega
  rcases this with rfl | rfl | rfl | rfl <;> rfl
theorem own_cnt (x : Int32) : ∃ n : Nat, ((1 : Int32) + (x &&& (3 : Int32))).toInt = (n : Int) ∧ 1 ≤ n ∧ n ≤ 4 := by
  have h1 := c_and x 3 (by decide)
  have h2 := c_iadd 1 (x &&& 3)
  have h3 := rng32 (1 + (x &&& 3))
  have e1 : (1 : Int32).toInt = 1 := rfl
  have e3 : (3 : Int32).toInt = 3 := rfl
  exact ⟨(1 + (x &&& 3)).toInt.toNat, by omega, by omega, by omega⟩
theorem own_nz (x : Int32) : ((1 : Int32) + (x &&& (3 : Int32))) + (1 : Int32) ≠ 0 := by
  obtain ⟨n, h, h1, h4⟩ := own_cnt x
  have h2 := c_iadd (1 + (x &&& 3)) 1
  have h3 := rng32 ((1 + (x &&& 3)) + 1)
  have e1 : (1 : Int32).toInt = 1 := rfl
  have e0 : (0 : Int32).toInt = 0 := rfl
  exact own_ne (by omega)
theorem own_skip (x : Int32) (n : Nat) (h : ((1 : Int32) + (x &&& (3 : Int32))).toInt = (n : Int)) (h1 : 1 ≤ n) (h4 : n ≤ 4) :
    -1 ≤ (((((x.toUInt32 >>> ((2 : Int32) &&& 31).toUInt32).toInt32) &&& (7 : Int32)) % (((1 : Int32) + (x &&& (3 : Int32))) + (1 : Int32))) - (1 : Int32)).toInt ∧ (((((x.toUInt32 >>> ((2 : Int32) &&& 31).toUInt32).toInt32) &&& (7 : Int32)) % (((1 : Int32) + (x &&& (3 : Int32))) + (1 : Int32))) - (1 : Int32)).toInt < n := by
  have e1 : (1 : Int32).toInt = 1 := rfl
  have e7 : (7 : Int32).toInt = 7 := rfl
  have h2 := c_iadd (1 + (x &&& 3)) 1
  have h3 := rng32 ((1 + (x &&& 3)) + 1)
  have g := c_and ((x.toUInt32 >>> ((2 : Int32) &&& 31).toUInt32).toInt32) 7 (by decide)
  have r := (c_iremV (((x.toUInt32 >>> ((2 : Int32) &&& 31).toUInt32).toInt32) &&& 7) ((1 + (x &&& 3)) + 1)).1 (by omega) (by omega)
  have u := c_isub ((((x.toUInt32 >>> ((2 : Int32) &&& 31).toUInt32).toInt32) &&& 7) % ((1 + (x &&& 3)) + 1)) 1
  have v := rng32 (((((x.toUInt32 >>> ((2 : Int32) &&& 31).toUInt32).toInt32) &&& 7) % ((1 + (x &&& 3)) + 1)) - 1)
  omega
theorem d1_0 : decode prog_42_method_8_code 0 = .ok (.iconst (-1), 1) := by decide +kernel
theorem d1_1 : decode prog_42_method_8_code 1 = .ok (.istore_n 3, 1) := by decide +kernel
theorem d1_2 : decode prog_42_method_8_code 2 = .ok (.iconst 0, 1) := by decide +kernel
theorem d1_3 : decode prog_42_method_8_code 3 = .ok (.istore 4, 2) := by decide +kernel
theorem d1_5 : decode prog_42_method_8_code 5 = .ok (.iload 4, 2) := by decide +kernel
theorem d1_7 : decode prog_42_method_8_code 7 = .ok (.iload_n 1, 1) := by decide +kernel
theorem d1_8 : decode prog_42_method_8_code 8 = .ok (.if_icmp .ge 32, 3) := by decide +kernel
theorem d1_11 : decode prog_42_method_8_code 11 = .ok (.iload 4, 2) := by decide +kernel
theorem d1_13 : decode prog_42_method_8_code 13 = .ok (.iload_n 2, 1) := by decide +kernel
theorem d1_14 : decode prog_42_method_8_code 14 = .ok (.if_icmp .eq 20, 3) := by decide +kernel
theorem d1_17 : decode prog_42_method_8_code 17 = .ok (.iload_n 3, 1) := by decide +kernel
theorem d1_18 : decode prog_42_method_8_code 18 = .ok (.ifCond .lt 13, 3) := by decide +kernel
theorem d1_21 : decode prog_42_method_8_code 21 = .ok (.aload_n 0, 1) := by decide +kernel
theorem d1_22 : decode prog_42_method_8_code 22 = .ok (.iload 4, 2) := by decide +kernel
theorem d1_24 : decode prog_42_method_8_code 24 = .ok (.iaload, 1) := by decide +kernel
theorem d1_25 : decode prog_42_method_8_code 25 = .ok (.aload_n 0, 1) := by decide +kernel
theorem d1_26 : decode prog_42_method_8_code 26 = .ok (.iload_n 3, 1) := by decide +kernel
theorem d1_27 : decode prog_42_method_8_code 27 = .ok (.iaload, 1) := by decide +kernel
theorem d1_28 : decode prog_42_method_8_code 28 = .ok (.if_icmp .ge 6, 3) := by decide +kernel
theorem d1_31 : decode prog_42_method_8_code 31 = .ok (.iload 4, 2) := by decide +kernel
theorem d1_33 : decode prog_42_method_8_code 33 = .ok (.istore_n 3, 1) := by decide +kernel
theorem d1_34 : decode prog_42_method_8_code 34 = .ok (.iinc 4 1, 3) := by decide +kernel
theorem d1_37 : decode prog_42_method_8_code 37 = .ok (.goto (-32), 3) := by decide +kernel
theorem d1_40 : decode prog_42_method_8_code 40 = .ok (.iload_n 3, 1) := by decide +kernel
theorem d1_41 : decode prog_42_method_8_code 41 = .ok (.ireturn, 1) := by decide +kernel
def Q1 (Z : State) (a : Addr) (f : Nat → Int32) (ct : Int32) (sk : Int32) (n : Nat) (h0 : Heap) (n0 : Nat) (v : Option Value) (h : Heap) (L : List Loc) : Prop := ∃ r : Int32, v = some (.int r) ∧ Fr n0 L ∧ h = h0 ∧ own_P f sk n r
theorem ef_1 (m : MethodId) (x0 : Addr) (x1 : Int32) (x2 : Int32) : entryFrame m #[(.ref x0), (.int x1), (.int x2)] 5 = mkF m 0 #[.val (.ref x0), .val (.int x1), .val (.int x2), .unset, .unset] [] := by first | (simp [entryFrame, mkF, argsToLocals, Value.category]; done) | rfl
set_option maxRecDepth 65536 in
set_option maxHeartbeats 40000000 in
theorem rm1 (l : Launch) (Z : State) (a0 : Array Value) (hw : ∀ d ∈ tables_1, d.before a0 Z = true) (ws : List Jvm.Cond) (a : Addr) (f : Nat → Int32) (ct : Int32) (sk : Int32) (n : Nat) (h0 : Heap) (n0 : Nat) (Z0 : n0 ≤ h0.size) (A : own_Ar Z h0 a .int 4 (fun j => .int (f j))) (hct : ct.toInt = (n : Int)) (hn : n ≤ 4) :
    own_Met l Z (⟨"com/example/hyperrelay/hyperrelay/domain/pfsp/Schedule", "firstLeast", "([III)I"⟩ : MethodName) prog_42_method_8_code 5 (some .int) ({ frames := 0, cells := 0, slots := 0, locals := 0 } : Room) ws #[(.ref a), (.int ct), (.int sk)] h0 (Q1 Z a f ct sk n h0 n0) := by
  refine own_enter (plainFor_of_name (by first | (simp [plainName, overriddenIn]; done) | decide +kernel)) ?_
  intro p e s m below meth c s₁ hx hby hml hown hnm hlk hret hZ X0 e0
  have N0 := Fr.nil n0
  refine own_go (fun _ q => castTop (ef_1 m a ct sk) q) ?_
  show own_Go _ _ _ _ _ _ _ (s₁.setTop (mkF m 0 #[.val (.ref a), .val (.int ct), .val (.int sk), .unset, .unset] []))
  refine own_go (fun _ q => XS.iconst X0.here hx rfl (hb hby d1_0) q) ?_
  show own_Go _ _ _ _ _ _ _ (s₁.setTop (mkF m 1 #[.val (.ref a), .val (.int ct), .val (.int sk), .unset, .unset] [(.int (-1 : Int32))]))
  refine own_go (fun _ q => XS.istoreN X0.here hx rfl (hb hby d1_1) rfl (l' := #[.val (.ref a), .val (.int ct), .val (.int sk), .val (.int (-1 : Int32)), .unset]) rfl q) ?_
  show own_Go _ _ _ _ _ _ _ (s₁.setTop (mkF m 2 #[.val (.ref a), .val (.int ct), .val (.int sk), .val (.int (-1 : Int32)), .unset] []))
  refine own_go (fun _ q => XS.iconst X0.here hx rfl (hb hby d1_2) q) ?_
  show own_Go _ _ _ _ _ _ _ (s₁.setTop (mkF m 3 #[.val (.ref a), .val (.int ct), .val (.int sk), .val (.int (-1 : Int32)), .unset] [(.int (0 : Int32))]))
  refine own_go (fun _ q => XS.istore X0.here hx rfl (hb hby d1_3) rfl (l' := #[.val (.ref a), .val (.int ct), .val (.int sk), .val (.int (-1 : Int32)), .val (.int (0 : Int32))]) rfl q) ?_
  show own_Go _ _ _ _ _ _ _ (s₁.setTop (mkF m 5 #[.val (.ref a), .val (.int ct), .val (.int sk), .val (.int (-1 : Int32)), .val (.int (0 : Int32))] []))
  have loop : ∀ (k i : Nat) (zi r : Int32), i + k = n → zi.toInt = (i : Int) → own_P f sk i r → own_Go p e below s (Q1 Z a f ct sk n h0 n0) 0 0 (s₁.setTop (mkF m 5 #[.val (.ref a), .val (.int ct), .val (.int sk), .val (.int r), .val (.int zi)] [])) := by
    intro k
    induction k with
    | zero =>
      intro i zi r hik hzi hP
      refine own_go (fun _ q => XS.iload X0.here hx rfl (hb hby d1_5) rfl q) ?_
      show own_Go _ _ _ _ _ _ _ (s₁.setTop (mkF m 7 #[.val (.ref a), .val (.int ct), .val (.int sk), .val (.int r), .val (.int zi)] [(.int zi)]))
      refine own_go (fun _ q => XS.iloadN X0.here hx rfl (hb hby d1_7) rfl q) ?_
      show own_Go _ _ _ _ _ _ _ (s₁.setTop (mkF m 8 #[.val (.ref a), .val (.int ct), .val (.int sk), .val (.int r), .val (.int zi)] [(.int ct), (.int zi)]))
      refine own_go (fun _ q => XS.icmpYes X0.here hx rfl (pc0 := 8) (pc' := 40) rfl (hb hby d1_8) rfl (flt (own_nlt (x := zi) (y := ct) (by omega))).2.1 (by decide) (by decide) q) ?_
      show own_Go _ _ _ _ _ _ _ (s₁.setTop (mkF m 40 #[.val (.ref a), .val (.int ct), .val (.int sk), .val (.int r), .val (.int zi)] []))
      refine own_go (fun _ q => XS.iloadN X0.here hx rfl (hb hby d1_40) rfl q) ?_
      show own_Go _ _ _ _ _ _ _ (s₁.setTop (mkF m 41 #[.val (.ref a), .val (.int ct), .val (.int sk), .val (.int r), .val (.int zi)] [(.int r)]))
      obtain rfl : i = n := by omega
      exact own_retI X0 hx hlk hret (hb hby d1_41) (by decide) (by decide) ⟨r, rfl, N0, e0, hP⟩
    | succ k ih =>
      intro i zi r hik hzi hP
      refine own_go (fun _ q => XS.iload X0.here hx rfl (hb hby d1_5) rfl q) ?_
      show own_Go _ _ _ _ _ _ _ (s₁.setTop (mkF m 7 #[.val (.ref a), .val (.int ct), .val (.int sk), .val (.int r), .val (.int zi)] [(.int zi)]))
      refine own_go (fun _ q => XS.iloadN X0.here hx rfl (hb hby d1_7) rfl q) ?_
      show own_Go _ _ _ _ _ _ _ (s₁.setTop (mkF m 8 #[.val (.ref a), .val (.int ct), .val (.int sk), .val (.int r), .val (.int zi)] [(.int ct), (.int zi)]))
      refine own_go (fun _ q => XS.icmpNo X0.here hx rfl (hb hby d1_8) rfl (tlt (own_lt (x := zi) (y := ct) (by omega))).2.1 q) ?_
      show own_Go _ _ _ _ _ _ _ (s₁.setTop (mkF m 11 #[.val (.ref a), .val (.int ct), .val (.int sk), .val (.int r), .val (.int zi)] []))
      refine own_go (fun _ q => XS.iload X0.here hx rfl (hb hby d1_11) rfl q) ?_
      show own_Go _ _ _ _ _ _ _ (s₁.setTop (mkF m 13 #[.val (.ref a), .val (.int ct), .val (.int sk), .val (.int r), .val (.int zi)] [(.int zi)]))
      refine own_go (fun _ q => XS.iloadN X0.here hx rfl (hb hby d1_13) rfl q) ?_
      show own_Go _ _ _ _ _ _ _ (s₁.setTop (mkF m 14 #[.val (.ref a), .val (.int ct), .val (.int sk), .val (.int r), .val (.int zi)] [(.int sk), (.int zi)]))
      by_cases hsk : zi = sk
      · refine own_go (fun _ q => XS.icmpYes X0.here hx rfl (pc0 := 14) (pc' := 34) rfl (hb hby d1_14) rfl (teq hsk).1 (by decide) (by decide) q) ?_
        show own_Go _ _ _ _ _ _ _ (s₁.setTop (mkF m 34 #[.val (.ref a), .val (.int ct), .val (.int sk), .val (.int r), .val (.int zi)] []))
        refine own_go (fun _ q => XS.iinc X0.here hx rfl (hb hby d1_34) rfl (l' := #[.val (.ref a), .val (.int ct), .val (.int sk), .val (.int r), .val (.int (zi + (1 : Int32)))]) rfl q) ?_
        show own_Go _ _ _ _ _ _ _ (s₁.setTop (mkF m 37 #[.val (.ref a), .val (.int ct), .val (.int sk), .val (.int r), .val (.int (zi + (1 : Int32)))] []))
        refine own_go (fun _ q => XS.goto X0.here hx rfl (pc0 := 37) (pc' := 5) rfl (hb hby d1_37) (by decide) (by decide) q) ?_
        show own_Go _ _ _ _ _ _ _ (s₁.setTop (mkF m 5 #[.val (.ref a), .val (.int ct), .val (.int sk), .val (.int r), .val (.int (zi + (1 : Int32)))] []))
        exact ih (i + 1) _ _ (by omega) (own_inc hzi (by omega)) (own_Ps hP hzi hsk)
      · refine own_go (fun _ q => XS.icmpNo X0.here hx rfl (hb hby d1_14) rfl (feq hsk).1 q) ?_
        show own_Go _ _ _ _ _ _ _ (s₁.setTop (mkF m 17 #[.val (.ref a), .val (.int ct), .val (.int sk), .val (.int r), .val (.int zi)] []))
        refine own_go (fun _ q => XS.iloadN X0.here hx rfl (hb hby d1_17) rfl q) ?_
        show own_Go _ _ _ _ _ _ _ (s₁.setTop (mkF m 18 #[.val (.ref a), .val (.int ct), .val (.int sk), .val (.int r), .val (.int zi)] [(.int r)]))
        by_cases hlt : r < (0 : Int32)
        · refine own_go (fun _ q => XS.ifYes X0.here hx rfl (pc0 := 18) (pc' := 31) rfl (hb hby d1_18) rfl ((if0 _ _).trans (tlt hlt).1) (by decide) (by decide) q) ?_
          show own_Go _ _ _ _ _ _ _ (s₁.setTop (mkF m 31 #[.val (.ref a), .val (.int ct), .val (.int sk), .val (.int r), .val (.int zi)] []))
          refine own_go (fun _ q => XS.iload X0.here hx rfl (hb hby d1_31) rfl q) ?_
          show own_Go _ _ _ _ _ _ _ (s₁.setTop (mkF m 33 #[.val (.ref a), .val (.int ct), .val (.int sk), .val (.int r), .val (.int zi)] [(.int zi)]))
          refine own_go (fun _ q => XS.istoreN X0.here hx rfl (hb hby d1_33) rfl (l' := #[.val (.ref a), .val (.int ct), .val (.int sk), .val (.int zi), .val (.int zi)]) rfl q) ?_
          show own_Go _ _ _ _ _ _ _ (s₁.setTop (mkF m 34 #[.val (.ref a), .val (.int ct), .val (.int sk), .val (.int zi), .val (.int zi)] []))
          refine own_go (fun _ q => XS.iinc X0.here hx rfl (hb hby d1_34) rfl (l' := #[.val (.ref a), .val (.int ct), .val (.int sk), .val (.int zi), .val (.int (zi + (1 : Int32)))]) rfl q) ?_
          show own_Go _ _ _ _ _ _ _ (s₁.setTop (mkF m 37 #[.val (.ref a), .val (.int ct), .val (.int sk), .val (.int zi), .val (.int (zi + (1 : Int32)))] []))
          refine own_go (fun _ q => XS.goto X0.here hx rfl (pc0 := 37) (pc' := 5) rfl (hb hby d1_37) (by decide) (by decide) q) ?_
          show own_Go _ _ _ _ _ _ _ (s₁.setTop (mkF m 5 #[.val (.ref a), .val (.int ct), .val (.int sk), .val (.int zi), .val (.int (zi + (1 : Int32)))] []))
          exact ih (i + 1) _ _ (by omega) (own_inc hzi (by omega)) (own_Pa hP hzi hsk hlt)
        · refine own_go (fun _ q => XS.ifNo X0.here hx rfl (hb hby d1_18) rfl ((if0 _ _).trans (flt hlt).1) q) ?_
          show own_Go _ _ _ _ _ _ _ (s₁.setTop (mkF m 21 #[.val (.ref a), .val (.int ct), .val (.int sk), .val (.int r), .val (.int zi)] []))
          obtain ⟨q, hq, hB⟩ := own_Pk hP hlt
          have hqi : q < i := hB.1
          refine own_go (fun _ q => XS.aloadN X0.here hx rfl (hb hby d1_21) rfl rfl q) ?_
          show own_Go _ _ _ _ _ _ _ (s₁.setTop (mkF m 22 #[.val (.ref a), .val (.int ct), .val (.int sk), .val (.int r), .val (.int zi)] [(.ref a)]))
          refine own_go (fun _ q => XS.iload X0.here hx rfl (hb hby d1_22) rfl q) ?_
          show own_Go _ _ _ _ _ _ _ (s₁.setTop (mkF m 24 #[.val (.ref a), .val (.int ct), .val (.int sk), .val (.int r), .val (.int zi)] [(.int zi), (.ref a)]))
          refine own_iaload X0 hx hZ e0 A hzi (by omega) rfl (hb hby d1_24) rfl ?_
          show own_Go _ _ _ _ _ _ _ (s₁.setTop (mkF m 25 #[.val (.ref a), .val (.int ct), .val (.int sk), .val (.int r), .val (.int zi)] [(.int (f i))]))
          refine own_go (fun _ q => XS.aloadN X0.here hx rfl (hb hby d1_25) rfl rfl q) ?_
          show own_Go _ _ _ _ _ _ _ (s₁.setTop (mkF m 26 #[.val (.ref a), .val (.int ct), .val (.int sk), .val (.int r), .val (.int zi)] [(.ref a), (.int (f i))]))
          refine own_go (fun _ q => XS.iloadN X0.here hx rfl (hb hby d1_26) rfl q) ?_
          show own_Go _ _ _ _ _ _ _ (s₁.setTop (mkF m 27 #[.val (.ref a), .val (.int ct), .val (.int sk), .val (.int r), .val (.int zi)] [(.int r), (.ref a), (.int (f i))]))
          refine own_iaload X0 hx hZ e0 A hq (by omega) rfl (hb hby d1_27) rfl ?_
          show own_Go _ _ _ _ _ _ _ (s₁.setTop (mkF m 28 #[.val (.ref a), .val (.int ct), .val (.int sk), .val (.int r), .val (.int zi)] [(.int (f q)), (.int (f i))]))
          by_cases hless : (f i) < (f q)
          · refine own_go (fun _ q => XS.icmpNo X0.here hx rfl (hb hby d1_28) rfl (tlt hless).2.1 q) ?_
            show own_Go _ _ _ _ _ _ _ (s₁.setTop (mkF m 31 #[.val (.ref a), .val (.int ct), .val (.int sk), .val (.int r), .val (.int zi)] []))
            refine own_go (fun _ q => XS.iload X0.here hx rfl (hb hby d1_31) rfl q) ?_
            show own_Go _ _ _ _ _ _ _ (s₁.setTop (mkF m 33 #[.val (.ref a), .val (.int ct), .val (.int sk), .val (.int r), .val (.int zi)] [(.int zi)]))
            refine own_go (fun _ q => XS.istoreN X0.here hx rfl (hb hby d1_33) rfl (l' := #[.val (.ref a), .val (.int ct), .val (.int sk), .val (.int zi), .val (.int zi)]) rfl q) ?_
            show own_Go _ _ _ _ _ _ _ (s₁.setTop (mkF m 34 #[.val (.ref a), .val (.int ct), .val (.int sk), .val (.int zi), .val (.int zi)] []))
            refine own_go (fun _ q => XS.iinc X0.here hx rfl (hb hby d1_34) rfl (l' := #[.val (.ref a), .val (.int ct), .val (.int sk), .val (.int zi), .val (.int (zi + (1 : Int32)))]) rfl q) ?_
            show own_Go _ _ _ _ _ _ _ (s₁.setTop (mkF m 37 #[.val (.ref a), .val (.int ct), .val (.int sk), .val (.int zi), .val (.int (zi + (1 : Int32)))] []))
            refine own_go (fun _ q => XS.goto X0.here hx rfl (pc0 := 37) (pc' := 5) rfl (hb hby d1_37) (by decide) (by decide) q) ?_
            show own_Go _ _ _ _ _ _ _ (s₁.setTop (mkF m 5 #[.val (.ref a), .val (.int ct), .val (.int sk), .val (.int zi), .val (.int (zi + (1 : Int32)))] []))
            exact ih (i + 1) _ _ (by omega) (own_inc hzi (by omega)) (own_Pb hB hzi hsk hless)
          · refine own_go (fun _ q => XS.icmpYes X0.here hx rfl (pc0 := 28) (pc' := 34) rfl (hb hby d1_28) rfl (flt hless).2.1 (by decide) (by decide) q) ?_
            show own_Go _ _ _ _ _ _ _ (s₁.setTop (mkF m 34 #[.val (.ref a), .val (.int ct), .val (.int sk), .val (.int r), .val (.int zi)] []))
            refine own_go (fun _ q => XS.iinc X0.here hx rfl (hb hby d1_34) rfl (l' := #[.val (.ref a), .val (.int ct), .val (.int sk), .val (.int r), .val (.int (zi + (1 : Int32)))]) rfl q) ?_
            show own_Go _ _ _ _ _ _ _ (s₁.setTop (mkF m 37 #[.val (.ref a), .val (.int ct), .val (.int sk), .val (.int r), .val (.int (zi + (1 : Int32)))] []))
            refine own_go (fun _ q => XS.goto X0.here hx rfl (pc0 := 37) (pc' := 5) rfl (hb hby d1_37) (by decide) (by decide) q) ?_
            show own_Go _ _ _ _ _ _ _ (s₁.setTop (mkF m 5 #[.val (.ref a), .val (.int ct), .val (.int sk), .val (.int r), .val (.int (zi + (1 : Int32)))] []))
            exact ih (i + 1) _ _ (by omega) (own_inc hzi (by omega)) (own_Pc hB hq hless)
  exact loop n 0 _ _ (by omega) rfl (own_P0 f sk)
theorem d2_0 : decode method_3_code 0 = .ok (.iload 4, 2) := by decide +kernel
theorem d2_2 : decode method_3_code 2 = .ok (.iload_n 1, 1) := by decide +kernel
theorem d2_3 : decode method_3_code 3 = .ok (.if_icmp .ge 9, 3) := by decide +kernel
theorem d2_6 : decode method_3_code 6 = .ok (.iload 4, 2) := by decide +kernel
theorem d2_8 : decode method_3_code 8 = .ok (.iload_n 2, 1) := by decide +kernel
theorem d2_9 : decode method_3_code 9 = .ok (.if_icmp .ne 5, 3) := by decide +kernel
theorem d2_12 : decode method_3_code 12 = .ok (.iconst 1, 1) := by decide +kernel
theorem d2_13 : decode method_3_code 13 = .ok (.ireturn, 1) := by decide +kernel
theorem d2_14 : decode method_3_code 14 = .ok (.iload 4, 2) := by decide +kernel
theorem d2_16 : decode method_3_code 16 = .ok (.iload_n 3, 1) := by decide +kernel
theorem d2_17 : decode method_3_code 17 = .ok (.if_icmp .ge 19, 3) := by decide +kernel
theorem d2_20 : decode method_3_code 20 = .ok (.aload_n 0, 1) := by decide +kernel
theorem d2_21 : decode method_3_code 21 = .ok (.iload_n 3, 1) := by decide +kernel
theorem d2_22 : decode method_3_code 22 = .ok (.iaload, 1) := by decide +kernel
theorem d2_23 : decode method_3_code 23 = .ok (.aload_n 0, 1) := by decide +kernel
theorem d2_24 : decode method_3_code 24 = .ok (.iload 4, 2) := by decide +kernel
theorem d2_26 : decode method_3_code 26 = .ok (.iaload, 1) := by decide +kernel
theorem d2_27 : decode method_3_code 27 = .ok (.if_icmp .ge 7, 3) := by decide +kernel
theorem d2_30 : decode method_3_code 30 = .ok (.iconst 1, 1) := by decide +kernel
theorem d2_31 : decode method_3_code 31 = .ok (.goto 4, 3) := by decide +kernel
theorem d2_34 : decode method_3_code 34 = .ok (.iconst 0, 1) := by decide +kernel
theorem d2_35 : decode method_3_code 35 = .ok (.ireturn, 1) := by decide +kernel
theorem d2_36 : decode method_3_code 36 = .ok (.aload_n 0, 1) := by decide +kernel
theorem d2_37 : decode method_3_code 37 = .ok (.iload_n 3, 1) := by decide +kernel
theorem d2_38 : decode method_3_code 38 = .ok (.iaload, 1) := by decide +kernel
theorem d2_39 : decode method_3_code 39 = .ok (.aload_n 0, 1) := by decide +kernel
theorem d2_40 : decode method_3_code 40 = .ok (.iload 4, 2) := by decide +kernel
theorem d2_42 : decode method_3_code 42 = .ok (.iaload, 1) := by decide +kernel
theorem d2_43 : decode method_3_code 43 = .ok (.if_icmp .gt 7, 3) := by decide +kernel
theorem d2_46 : decode method_3_code 46 = .ok (.iconst 1, 1) := by decide +kernel
theorem d2_47 : decode method_3_code 47 = .ok (.goto 4, 3) := by decide +kernel
theorem d2_50 : decode method_3_code 50 = .ok (.iconst 0, 1) := by decide +kernel
theorem d2_51 : decode method_3_code 51 = .ok (.ireturn, 1) := by decide +kernel
def Q2 (Z : State) (a : Addr) (f : Nat → Int32) (ct : Int32) (sk : Int32) (r : Int32) (z : Int32) (n : Nat) (q : Nat) (i : Nat) (h0 : Heap) (n0 : Nat) (v : Option Value) (h : Heap) (L : List Loc) : Prop := v = some (.int 1) ∧ Fr n0 L ∧ h = h0
theorem ef_2 (m : MethodId) (x0 : Addr) (x1 : Int32) (x2 : Int32) (x3 : Int32) (x4 : Int32) : entryFrame m #[(.ref x0), (.int x1), (.int x2), (.int x3), (.int x4)] 5 = mkF m 0 #[.val (.ref x0), .val (.int x1), .val (.int x2), .val (.int x3), .val (.int x4)] [] := by first | (simp [entryFrame, mkF, argsToLocals, Value.category]; done) | rfl
set_option maxRecDepth 65536 in
set_option maxHeartbeats 40000000 in
theorem rm2 (l : Launch) (Z : State) (a0 : Array Value) (hw : ∀ d ∈ tables_1, d.before a0 Z = true) (ws : List Jvm.Cond) (a : Addr) (f : Nat → Int32) (ct : Int32) (sk : Int32) (r : Int32) (z : Int32) (n : Nat) (q : Nat) (i : Nat) (h0 : Heap) (n0 : Nat) (Z0 : n0 ≤ h0.size) (A : own_Ar Z h0 a .int 4 (fun j => .int (f j))) (hct : ct.toInt = (n : Int)) (hn : n ≤ 4) (hr : r.toInt = (q : Int)) (hz : z.toInt = (i : Int)) (hi : i < 4) (hB : own_B f sk n q) :
    own_Met l Z (⟨"com/example/hyperrelay/hyperrelay/domain/pfsp/ScheduleFirstLeastPinLaw", "fine", "([IIIII)Z"⟩ : MethodName) method_3_code 5 (some .boolean) ({ frames := 0, cells := 0, slots := 0, locals := 0 } : Room) ws #[(.ref a), (.int ct), (.int sk), (.int r), (.int z)] h0 (Q2 Z a f ct sk r z n q i h0 n0) := by
  refine own_enter (plainFor_of_name (by first | (simp [plainName, overriddenIn]; done) | decide +kernel)) ?_
  intro p e s m below meth c s₁ hx hby hml hown hnm hlk hret hZ X0 e0
  have N0 := Fr.nil n0
  refine own_go (fun _ q => castTop (ef_2 m a ct sk r z) q) ?_
  have hqn : q < n := hB.1
  show own_Go _ _ _ _ _ _ _ (s₁.setTop (mkF m 0 #[.val (.ref a), .val (.int ct), .val (.int sk), .val (.int r), .val (.int z)] []))
  refine own_go (fun _ q => XS.iload X0.here hx rfl (hb hby d2_0) rfl q) ?_
  show own_Go _ _ _ _ _ _ _ (s₁.setTop (mkF m 2 #[.val (.ref a), .val (.int ct), .val (.int sk), .val (.int r), .val (.int z)] [(.int z)]))
  refine own_go (fun _ q => XS.iloadN X0.here hx rfl (hb hby d2_2) rfl q) ?_
  show own_Go _ _ _ _ _ _ _ (s₁.setTop (mkF m 3 #[.val (.ref a), .val (.int ct), .val (.int sk), .val (.int r), .val (.int z)] [(.int ct), (.int z)]))
  by_cases hlt : z < ct
  · refine own_go (fun _ q => XS.icmpNo X0.here hx rfl (hb hby d2_3) rfl (tlt hlt).2.1 q) ?_
    show own_Go _ _ _ _ _ _ _ (s₁.setTop (mkF m 6 #[.val (.ref a), .val (.int ct), .val (.int sk), .val (.int r), .val (.int z)] []))
    refine own_go (fun _ q => XS.iload X0.here hx rfl (hb hby d2_6) rfl q) ?_
    show own_Go _ _ _ _ _ _ _ (s₁.setTop (mkF m 8 #[.val (.ref a), .val (.int ct), .val (.int sk), .val (.int r), .val (.int z)] [(.int z)]))
    refine own_go (fun _ q => XS.iloadN X0.here hx rfl (hb hby d2_8) rfl q) ?_
    show own_Go _ _ _ _ _ _ _ (s₁.setTop (mkF m 9 #[.val (.ref a), .val (.int ct), .val (.int sk), .val (.int r), .val (.int z)] [(.int sk), (.int z)]))
    by_cases hsk : z = sk
    · refine own_go (fun _ q => XS.icmpNo X0.here hx rfl (hb hby d2_9) rfl (teq hsk).2 q) ?_
      show own_Go _ _ _ _ _ _ _ (s₁.setTop (mkF m 12 #[.val (.ref a), .val (.int ct), .val (.int sk), .val (.int r), .val (.int z)] []))
      refine own_go (fun _ q => XS.iconst X0.here hx rfl (hb hby d2_12) q) ?_
      show own_Go _ _ _ _ _ _ _ (s₁.setTop (mkF m 13 #[.val (.ref a), .val (.int ct), .val (.int sk), .val (.int r), .val (.int z)] [(.int (1 : Int32))]))
      exact own_retZ X0 hx hlk hret (hb hby d2_13) (by decide) (by decide) (by decide) ⟨rfl, N0, e0⟩
    · refine own_go (fun _ q => XS.icmpYes X0.here hx rfl (pc0 := 9) (pc' := 14) rfl (hb hby d2_9) rfl (feq hsk).2 (by decide) (by decide) q) ?_
      show own_Go _ _ _ _ _ _ _ (s₁.setTop (mkF m 14 #[.val (.ref a), .val (.int ct), .val (.int sk), .val (.int r), .val (.int z)] []))
      refine own_go (fun _ q => XS.iload X0.here hx rfl (hb hby d2_14) rfl q) ?_
      show own_Go _ _ _ _ _ _ _ (s₁.setTop (mkF m 16 #[.val (.ref a), .val (.int ct), .val (.int sk), .val (.int r), .val (.int z)] [(.int z)]))
      refine own_go (fun _ q => XS.iloadN X0.here hx rfl (hb hby d2_16) rfl q) ?_
      show own_Go _ _ _ _ _ _ _ (s₁.setTop (mkF m 17 #[.val (.ref a), .val (.int ct), .val (.int sk), .val (.int r), .val (.int z)] [(.int r), (.int z)]))
      by_cases hpr : z < r
      · refine own_go (fun _ q => XS.icmpNo X0.here hx rfl (hb hby d2_17) rfl (tlt hpr).2.1 q) ?_
        show own_Go _ _ _ _ _ _ _ (s₁.setTop (mkF m 20 #[.val (.ref a), .val (.int ct), .val (.int sk), .val (.int r), .val (.int z)] []))
        refine own_go (fun _ q => XS.aloadN X0.here hx rfl (hb hby d2_20) rfl rfl q) ?_
        show own_Go _ _ _ _ _ _ _ (s₁.setTop (mkF m 21 #[.val (.ref a), .val (.int ct), .val (.int sk), .val (.int r), .val (.int z)] [(.ref a)]))
        refine own_go (fun _ q => XS.iloadN X0.here hx rfl (hb hby d2_21) rfl q) ?_
        show own_Go _ _ _ _ _ _ _ (s₁.setTop (mkF m 22 #[.val (.ref a), .val (.int ct), .val (.int sk), .val (.int r), .val (.int z)] [(.int r), (.ref a)]))
        refine own_iaload X0 hx hZ e0 A hr (by omega) rfl (hb hby d2_22) rfl ?_
        show own_Go _ _ _ _ _ _ _ (s₁.setTop (mkF m 23 #[.val (.ref a), .val (.int ct), .val (.int sk), .val (.int r), .val (.int z)] [(.int (f q))]))
        refine own_go (fun _ q => XS.aloadN X0.here hx rfl (hb hby d2_23) rfl rfl q) ?_
        show own_Go _ _ _ _ _ _ _ (s₁.setTop (mkF m 24 #[.val (.ref a), .val (.int ct), .val (.int sk), .val (.int r), .val (.int z)] [(.ref a), (.int (f q))]))
        refine own_go (fun _ q => XS.iload X0.here hx rfl (hb hby d2_24) rfl q) ?_
        show own_Go _ _ _ _ _ _ _ (s₁.setTop (mkF m 26 #[.val (.ref a), .val (.int ct), .val (.int sk), .val (.int r), .val (.int z)] [(.int z), (.ref a), (.int (f q))]))
        refine own_iaload X0 hx hZ e0 A hz (by omega) rfl (hb hby d2_26) rfl ?_
        show own_Go _ _ _ _ _ _ _ (s₁.setTop (mkF m 27 #[.val (.ref a), .val (.int ct), .val (.int sk), .val (.int r), .val (.int z)] [(.int (f i)), (.int (f q))]))
        refine own_go (fun _ q => XS.icmpNo X0.here hx rfl (hb hby d2_27) rfl (tlt (own_lt (own_F1 hB hz hr hlt hsk hpr))).2.1 q) ?_
        show own_Go _ _ _ _ _ _ _ (s₁.setTop (mkF m 30 #[.val (.ref a), .val (.int ct), .val (.int sk), .val (.int r), .val (.int z)] []))
        refine own_go (fun _ q => XS.iconst X0.here hx rfl (hb hby d2_30) q) ?_
        show own_Go _ _ _ _ _ _ _ (s₁.setTop (mkF m 31 #[.val (.ref a), .val (.int ct), .val (.int sk), .val (.int r), .val (.int z)] [(.int (1 : Int32))]))
        refine own_go (fun _ q => XS.goto X0.here hx rfl (pc0 := 31) (pc' := 35) rfl (hb hby d2_31) (by decide) (by decide) q) ?_
        show own_Go _ _ _ _ _ _ _ (s₁.setTop (mkF m 35 #[.val (.ref a), .val (.int ct), .val (.int sk), .val (.int r), .val (.int z)] [(.int (1 : Int32))]))
        exact own_retZ X0 hx hlk hret (hb hby d2_35) (by decide) (by decide) (by decide) ⟨rfl, N0, e0⟩
      · refine own_go (fun _ q => XS.icmpYes X0.here hx rfl (pc0 := 17) (pc' := 36) rfl (hb hby d2_17) rfl (flt hpr).2.1 (by decide) (by decide) q) ?_
        show own_Go _ _ _ _ _ _ _ (s₁.setTop (mkF m 36 #[.val (.ref a), .val (.int ct), .val (.int sk), .val (.int r), .val (.int z)] []))
        refine own_go (fun _ q => XS.aloadN X0.here hx rfl (hb hby d2_36) rfl rfl q) ?_
        show own_Go _ _ _ _ _ _ _ (s₁.setTop (mkF m 37 #[.val (.ref a), .val (.int ct), .val (.int sk), .val (.int r), .val (.int z)] [(.ref a)]))
        refine own_go (fun _ q => XS.iloadN X0.here hx rfl (hb hby d2_37) rfl q) ?_
        show own_Go _ _ _ _ _ _ _ (s₁.setTop (mkF m 38 #[.val (.ref a), .val (.int ct), .val (.int sk), .val (.int r), .val (.int z)] [(.int r), (.ref a)]))
        refine own_iaload X0 hx hZ e0 A hr (by omega) rfl (hb hby d2_38) rfl ?_
        show own_Go _ _ _ _ _ _ _ (s₁.setTop (mkF m 39 #[.val (.ref a), .val (.int ct), .val (.int sk), .val (.int r), .val (.int z)] [(.int (f q))]))
        refine own_go (fun _ q => XS.aloadN X0.here hx rfl (hb hby d2_39) rfl rfl q) ?_
        show own_Go _ _ _ _ _ _ _ (s₁.setTop (mkF m 40 #[.val (.ref a), .val (.int ct), .val (.int sk), .val (.int r), .val (.int z)] [(.ref a), (.int (f q))]))
        refine own_go (fun _ q => XS.iload X0.here hx rfl (hb hby d2_40) rfl q) ?_
        show own_Go _ _ _ _ _ _ _ (s₁.setTop (mkF m 42 #[.val (.ref a), .val (.int ct), .val (.int sk), .val (.int r), .val (.int z)] [(.int z), (.ref a), (.int (f q))]))
        refine own_iaload X0 hx hZ e0 A hz (by omega) rfl (hb hby d2_42) rfl ?_
        show own_Go _ _ _ _ _ _ _ (s₁.setTop (mkF m 43 #[.val (.ref a), .val (.int ct), .val (.int sk), .val (.int r), .val (.int z)] [(.int (f i)), (.int (f q))]))
        refine own_go (fun _ q => XS.icmpNo X0.here hx rfl (hb hby d2_43) rfl (flt (own_nlt (own_F2 hB hz hsk (by have := own_ltI hlt; omega)))).2.2.1 q) ?_
        show own_Go _ _ _ _ _ _ _ (s₁.setTop (mkF m 46 #[.val (.ref a), .val (.int ct), .val (.int sk), .val (.int r), .val (.int z)] []))
        refine own_go (fun _ q => XS.iconst X0.here hx rfl (hb hby d2_46) q) ?_
        show own_Go _ _ _ _ _ _ _ (s₁.setTop (mkF m 47 #[.val (.ref a), .val (.int ct), .val (.int sk), .val (.int r), .val (.int z)] [(.int (1 : Int32))]))
        refine own_go (fun _ q => XS.goto X0.here hx rfl (pc0 := 47) (pc' := 51) rfl (hb hby d2_47) (by decide) (by decide) q) ?_
        show own_Go _ _ _ _ _ _ _ (s₁.setTop (mkF m 51 #[.val (.ref a), .val (.int ct), .val (.int sk), .val (.int r), .val (.int z)] [(.int (1 : Int32))]))
        exact own_retZ X0 hx hlk hret (hb hby d2_51) (by decide) (by decide) (by decide) ⟨rfl, N0, e0⟩
  · refine own_go (fun _ q => XS.icmpYes X0.here hx rfl (pc0 := 3) (pc' := 12) rfl (hb hby d2_3) rfl (flt hlt).2.1 (by decide) (by decide) q) ?_
    show own_Go _ _ _ _ _ _ _ (s₁.setTop (mkF m 12 #[.val (.ref a), .val (.int ct), .val (.int sk), .val (.int r), .val (.int z)] []))
    refine own_go (fun _ q => XS.iconst X0.here hx rfl (hb hby d2_12) q) ?_
    show own_Go _ _ _ _ _ _ _ (s₁.setTop (mkF m 13 #[.val (.ref a), .val (.int ct), .val (.int sk), .val (.int r), .val (.int z)] [(.int (1 : Int32))]))
    exact own_retZ X0 hx hlk hret (hb hby d2_13) (by decide) (by decide) (by decide) ⟨rfl, N0, e0⟩
def Q0 (Z : State) (p0 : Int32) (p1 : Int32) (p2 : Int32) (p3 : Int32) (p4 : Int32) (h0 : Heap) (n0 : Nat) (v : Option Value) (h : Heap) (L : List Loc) : Prop := v = some (.int 1) ∧ Fr n0 L
theorem ef_0 (m : MethodId) (x0 : Int32) (x1 : Int32) (x2 : Int32) (x3 : Int32) (x4 : Int32) : entryFrame m #[(.int x0), (.int x1), (.int x2), (.int x3), (.int x4)] maxLocals = mkF m 0 #[.val (.int x0), .val (.int x1), .val (.int x2), .val (.int x3), .val (.int x4), .unset, .unset, .unset, .unset] [] := by first | (simp [entryFrame, mkF, argsToLocals, Value.category, maxLocals]; done) | rfl
set_option maxRecDepth 65536 in
set_option maxHeartbeats 40000000 in
theorem rm0 (l : Launch) (Z : State) (a0 : Array Value) (hw : ∀ d ∈ tables_1, d.before a0 Z = true) (ws : List Jvm.Cond) (p0 : Int32) (p1 : Int32) (p2 : Int32) (p3 : Int32) (p4 : Int32) (h0 : Heap) (n0 : Nat) (Z0 : n0 ≤ h0.size)  :
    own_Met l Z x code maxLocals ret room_1 ws #[(.int p0), (.int p1), (.int p2), (.int p3), (.int p4)] h0 (Q0 Z p0 p1 p2 p3 p4 h0 n0) := by
  refine own_enter (plainFor_of_name (by first | (simp [plainName, overriddenIn]; done) | decide +kernel)) ?_
  intro p e s m below meth c s₁ hx hby hml hown hnm hlk hret hZ X0 e0
  have N0 := Fr.nil n0
  refine own_go (fun _ q => castTop (ef_0 m p0 p1 p2 p3 p4) q) ?_
  show own_Go _ _ _ _ _ _ _ (s₁.setTop (mkF m 0 #[.val (.int p0), .val (.int p1), .val (.int p2), .val (.int p3), .val (.int p4), .unset, .unset, .unset, .unset] []))
  refine own_go (fun _ q => XS.iconst X0.here hx rfl (hb hby at_0) q) ?_
  show own_Go _ _ _ _ _ _ _ (s₁.setTop (mkF m 1 #[.val (.int p0), .val (.int p1), .val (.int p2), .val (.int p3), .val (.int p4), .unset, .unset, .unset, .unset] [(.int (4 : Int32))]))
  obtain ⟨T1, h1, k1, X1, e1, E1, Aw1, st1⟩ := newP X0 hx hZ (hw _ (List.mem_of_getElem? (i := 0) rfl)) e0 (g := (mkF m 1 #[.val (.int p0), .val (.int p1), .val (.int p2), .val (.int p3), .val (.int p4), .unset, .unset, .unset, .unset] [(.int (4 : Int32))])) rfl (hb hby at_1) rfl (by decide) (cap := 4) (by decide) (by decide) (by decide) (by decide)
  obtain ⟨b1, g1⟩ : ∃ z, z = h0.size := ⟨_, rfl⟩
  rw [← g1] at Aw1 st1
  have A1 := own_Ar.new (nn := 4) Aw1 (by decide) rfl
  have G1 : n0 ≤ b1 := by have := Z0; omega
  have Z1 : n0 ≤ h1.size := Nat.le_trans Z0 E1.1
  refine own_go st1 ?_
  show own_Go _ _ _ _ _ _ _ (T1.setTop (mkF m 3 #[.val (.int p0), .val (.int p1), .val (.int p2), .val (.int p3), .val (.int p4), .unset, .unset, .unset, .unset] [(.ref b1)]))
  have G1 : n0 ≤ b1 := Nat.le_trans Z0 (Nat.le_of_eq g1.symm)
  refine own_go (fun _ q => XS.dup X1.here hx rfl (hb hby at_3) rfl rfl q) ?_
  show own_Go _ _ _ _ _ _ _ (T1.setTop (mkF m 4 #[.val (.int p0), .val (.int p1), .val (.int p2), .val (.int p3), .val (.int p4), .unset, .unset, .unset, .unset] [(.ref b1), (.ref b1)]))
  refine own_go (fun _ q => XS.iconst X1.here hx rfl (hb hby at_4) q) ?_
  show own_Go _ _ _ _ _ _ _ (T1.setTop (mkF m 5 #[.val (.int p0), .val (.int p1), .val (.int p2), .val (.int p3), .val (.int p4), .unset, .unset, .unset, .unset] [(.int (0 : Int32)), (.ref b1), (.ref b1)]))
  refine own_go (fun _ q => XS.iloadN X1.here hx rfl (hb hby at_5) rfl q) ?_
  show own_Go _ _ _ _ _ _ _ (T1.setTop (mkF m 6 #[.val (.int p0), .val (.int p1), .val (.int p2), .val (.int p3), .val (.int p4), .unset, .unset, .unset, .unset] [(.int p0), (.int (0 : Int32)), (.ref b1), (.ref b1)]))
  refine own_iastore X1 hx hZ e1 (i := 0) A1 rfl (by decide) (hb hby at_6) rfl ?_
  intro T2 h2 X2 e2 W2 A2
  have N2 := Fr.snoc X2 N0 G1
  have Z2 : n0 ≤ h2.size := by rw [W2.size]; exact Z1
  show own_Go _ _ _ _ _ _ _ (T2.setTop (mkF m 7 #[.val (.int p0), .val (.int p1), .val (.int p2), .val (.int p3), .val (.int p4), .unset, .unset, .unset, .unset] [(.ref b1)]))
  refine own_go (fun _ q => XS.dup X2.here hx rfl (hb hby at_7) rfl rfl q) ?_
  show own_Go _ _ _ _ _ _ _ (T2.setTop (mkF m 8 #[.val (.int p0), .val (.int p1), .val (.int p2), .val (.int p3), .val (.int p4), .unset, .unset, .unset, .unset] [(.ref b1), (.ref b1)]))
  refine own_go (fun _ q => XS.iconst X2.here hx rfl (hb hby at_8) q) ?_
  show own_Go _ _ _ _ _ _ _ (T2.setTop (mkF m 9 #[.val (.int p0), .val (.int p1), .val (.int p2), .val (.int p3), .val (.int p4), .unset, .unset, .unset, .unset] [(.int (1 : Int32)), (.ref b1), (.ref b1)]))
  refine own_go (fun _ q => XS.iloadN X2.here hx rfl (hb hby at_9) rfl q) ?_
  show own_Go _ _ _ _ _ _ _ (T2.setTop (mkF m 10 #[.val (.int p0), .val (.int p1), .val (.int p2), .val (.int p3), .val (.int p4), .unset, .unset, .unset, .unset] [(.int p1), (.int (1 : Int32)), (.ref b1), (.ref b1)]))
  refine own_iastore X2 hx hZ e2 (i := 1) A2 rfl (by decide) (hb hby at_10) rfl ?_
  intro T3 h3 X3 e3 W3 A3
  have N3 := Fr.snoc X3 N2 G1
  have Z3 : n0 ≤ h3.size := by rw [W3.size]; exact Z2
  show own_Go _ _ _ _ _ _ _ (T3.setTop (mkF m 11 #[.val (.int p0), .val (.int p1), .val (.int p2), .val (.int p3), .val (.int p4), .unset, .unset, .unset, .unset] [(.ref b1)]))
  refine own_go (fun _ q => XS.dup X3.here hx rfl (hb hby at_11) rfl rfl q) ?_
  show own_Go _ _ _ _ _ _ _ (T3.setTop (mkF m 12 #[.val (.int p0), .val (.int p1), .val (.int p2), .val (.int p3), .val (.int p4), .unset, .unset, .unset, .unset] [(.ref b1), (.ref b1)]))
  refine own_go (fun _ q => XS.iconst X3.here hx rfl (hb hby at_12) q) ?_
  show own_Go _ _ _ _ _ _ _ (T3.setTop (mkF m 13 #[.val (.int p0), .val (.int p1), .val (.int p2), .val (.int p3), .val (.int p4), .unset, .unset, .unset, .unset] [(.int (2 : Int32)), (.ref b1), (.ref b1)]))
  refine own_go (fun _ q => XS.iloadN X3.here hx rfl (hb hby at_13) rfl q) ?_
  show own_Go _ _ _ _ _ _ _ (T3.setTop (mkF m 14 #[.val (.int p0), .val (.int p1), .val (.int p2), .val (.int p3), .val (.int p4), .unset, .unset, .unset, .unset] [(.int p2), (.int (2 : Int32)), (.ref b1), (.ref b1)]))
  refine own_iastore X3 hx hZ e3 (i := 2) A3 rfl (by decide) (hb hby at_14) rfl ?_
  intro T4 h4 X4 e4 W4 A4
  have N4 := Fr.snoc X4 N3 G1
  have Z4 : n0 ≤ h4.size := by rw [W4.size]; exact Z3
  show own_Go _ _ _ _ _ _ _ (T4.setTop (mkF m 15 #[.val (.int p0), .val (.int p1), .val (.int p2), .val (.int p3), .val (.int p4), .unset, .unset, .unset, .unset] [(.ref b1)]))
  refine own_go (fun _ q => XS.dup X4.here hx rfl (hb hby at_15) rfl rfl q) ?_
  show own_Go _ _ _ _ _ _ _ (T4.setTop (mkF m 16 #[.val (.int p0), .val (.int p1), .val (.int p2), .val (.int p3), .val (.int p4), .unset, .unset, .unset, .unset] [(.ref b1), (.ref b1)]))
  refine own_go (fun _ q => XS.iconst X4.here hx rfl (hb hby at_16) q) ?_
  show own_Go _ _ _ _ _ _ _ (T4.setTop (mkF m 17 #[.val (.int p0), .val (.int p1), .val (.int p2), .val (.int p3), .val (.int p4), .unset, .unset, .unset, .unset] [(.int (3 : Int32)), (.ref b1), (.ref b1)]))
  refine own_go (fun _ q => XS.iloadN X4.here hx rfl (hb hby at_17) rfl q) ?_
  show own_Go _ _ _ _ _ _ _ (T4.setTop (mkF m 18 #[.val (.int p0), .val (.int p1), .val (.int p2), .val (.int p3), .val (.int p4), .unset, .unset, .unset, .unset] [(.int p3), (.int (3 : Int32)), (.ref b1), (.ref b1)]))
  refine own_iastore X4 hx hZ e4 (i := 3) A4 rfl (by decide) (hb hby at_18) rfl ?_
  intro T5 h5 X5 e5 W5 A5
  have N5 := Fr.snoc X5 N4 G1
  have Z5 : n0 ≤ h5.size := by rw [W5.size]; exact Z4
  show own_Go _ _ _ _ _ _ _ (T5.setTop (mkF m 19 #[.val (.int p0), .val (.int p1), .val (.int p2), .val (.int p3), .val (.int p4), .unset, .unset, .unset, .unset] [(.ref b1)]))
  have A0 : own_Ar Z h5 b1 .int 4 (fun j => .int (own_f p0 p1 p2 p3 j)) := A5.eqv (own_fill p0 p1 p2 p3)
  refine own_go (fun _ q => XS.astore X5.here hx rfl (hb hby at_19) rfl rfl (l' := #[.val (.int p0), .val (.int p1), .val (.int p2), .val (.int p3), .val (.int p4), .val (.ref b1), .unset, .unset, .unset]) rfl q) ?_
  show own_Go _ _ _ _ _ _ _ (T5.setTop (mkF m 21 #[.val (.int p0), .val (.int p1), .val (.int p2), .val (.int p3), .val (.int p4), .val (.ref b1), .unset, .unset, .unset] []))
  refine own_go (fun _ q => XS.iconst X5.here hx rfl (hb hby at_21) q) ?_
  show own_Go _ _ _ _ _ _ _ (T5.setTop (mkF m 22 #[.val (.int p0), .val (.int p1), .val (.int p2), .val (.int p3), .val (.int p4), .val (.ref b1), .unset, .unset, .unset] [(.int (1 : Int32))]))
  refine own_go (fun _ q => XS.iload X5.here hx rfl (hb hby at_22) rfl q) ?_
  show own_Go _ _ _ _ _ _ _ (T5.setTop (mkF m 24 #[.val (.int p0), .val (.int p1), .val (.int p2), .val (.int p3), .val (.int p4), .val (.ref b1), .unset, .unset, .unset] [(.int p4), (.int (1 : Int32))]))
  refine own_go (fun _ q => XS.iconst X5.here hx rfl (hb hby at_24) q) ?_
  show own_Go _ _ _ _ _ _ _ (T5.setTop (mkF m 25 #[.val (.int p0), .val (.int p1), .val (.int p2), .val (.int p3), .val (.int p4), .val (.ref b1), .unset, .unset, .unset] [(.int (3 : Int32)), (.int p4), (.int (1 : Int32))]))
  refine own_go (fun _ q => XS.iand X5.here hx rfl (hb hby at_25) rfl q) ?_
  show own_Go _ _ _ _ _ _ _ (T5.setTop (mkF m 26 #[.val (.int p0), .val (.int p1), .val (.int p2), .val (.int p3), .val (.int p4), .val (.ref b1), .unset, .unset, .unset] [(.int (p4 &&& (3 : Int32))), (.int (1 : Int32))]))
  refine own_go (fun _ q => XS.iadd X5.here hx rfl (hb hby at_26) rfl q) ?_
  show own_Go _ _ _ _ _ _ _ (T5.setTop (mkF m 27 #[.val (.int p0), .val (.int p1), .val (.int p2), .val (.int p3), .val (.int p4), .val (.ref b1), .unset, .unset, .unset] [(.int ((1 : Int32) + (p4 &&& (3 : Int32))))]))
  refine own_go (fun _ q => XS.istore X5.here hx rfl (hb hby at_27) rfl (l' := #[.val (.int p0), .val (.int p1), .val (.int p2), .val (.int p3), .val (.int p4), .val (.ref b1), .val (.int ((1 : Int32) + (p4 &&& (3 : Int32)))), .unset, .unset]) rfl q) ?_
  show own_Go _ _ _ _ _ _ _ (T5.setTop (mkF m 29 #[.val (.int p0), .val (.int p1), .val (.int p2), .val (.int p3), .val (.int p4), .val (.ref b1), .val (.int ((1 : Int32) + (p4 &&& (3 : Int32)))), .unset, .unset] []))
  refine own_go (fun _ q => XS.iload X5.here hx rfl (hb hby at_29) rfl q) ?_
  show own_Go _ _ _ _ _ _ _ (T5.setTop (mkF m 31 #[.val (.int p0), .val (.int p1), .val (.int p2), .val (.int p3), .val (.int p4), .val (.ref b1), .val (.int ((1 : Int32) + (p4 &&& (3 : Int32)))), .unset, .unset] [(.int p4)]))
  refine own_go (fun _ q => XS.iconst X5.here hx rfl (hb hby at_31) q) ?_
  show own_Go _ _ _ _ _ _ _ (T5.setTop (mkF m 32 #[.val (.int p0), .val (.int p1), .val (.int p2), .val (.int p3), .val (.int p4), .val (.ref b1), .val (.int ((1 : Int32) + (p4 &&& (3 : Int32)))), .unset, .unset] [(.int (2 : Int32)), (.int p4)]))
  refine own_go (fun _ q => XS.iushr X5.here hx rfl (hb hby at_32) rfl q) ?_
  show own_Go _ _ _ _ _ _ _ (T5.setTop (mkF m 33 #[.val (.int p0), .val (.int p1), .val (.int p2), .val (.int p3), .val (.int p4), .val (.ref b1), .val (.int ((1 : Int32) + (p4 &&& (3 : Int32)))), .unset, .unset] [(.int ((p4.toUInt32 >>> ((2 : Int32) &&& 31).toUInt32).toInt32))]))
  refine own_go (fun _ q => XS.bipush X5.here hx rfl (hb hby at_33) q) ?_
  show own_Go _ _ _ _ _ _ _ (T5.setTop (mkF m 35 #[.val (.int p0), .val (.int p1), .val (.int p2), .val (.int p3), .val (.int p4), .val (.ref b1), .val (.int ((1 : Int32) + (p4 &&& (3 : Int32)))), .unset, .unset] [(.int (7 : Int32)), (.int ((p4.toUInt32 >>> ((2 : Int32) &&& 31).toUInt32).toInt32))]))
  refine own_go (fun _ q => XS.iand X5.here hx rfl (hb hby at_35) rfl q) ?_
  show own_Go _ _ _ _ _ _ _ (T5.setTop (mkF m 36 #[.val (.int p0), .val (.int p1), .val (.int p2), .val (.int p3), .val (.int p4), .val (.ref b1), .val (.int ((1 : Int32) + (p4 &&& (3 : Int32)))), .unset, .unset] [(.int (((p4.toUInt32 >>> ((2 : Int32) &&& 31).toUInt32).toInt32) &&& (7 : Int32)))]))
  refine own_go (fun _ q => XS.iload X5.here hx rfl (hb hby at_36) rfl q) ?_
  show own_Go _ _ _ _ _ _ _ (T5.setTop (mkF m 38 #[.val (.int p0), .val (.int p1), .val (.int p2), .val (.int p3), .val (.int p4), .val (.ref b1), .val (.int ((1 : Int32) + (p4 &&& (3 : Int32)))), .unset, .unset] [(.int ((1 : Int32) + (p4 &&& (3 : Int32)))), (.int (((p4.toUInt32 >>> ((2 : Int32) &&& 31).toUInt32).toInt32) &&& (7 : Int32)))]))
  refine own_go (fun _ q => XS.iconst X5.here hx rfl (hb hby at_38) q) ?_
  show own_Go _ _ _ _ _ _ _ (T5.setTop (mkF m 39 #[.val (.int p0), .val (.int p1), .val (.int p2), .val (.int p3), .val (.int p4), .val (.ref b1), .val (.int ((1 : Int32) + (p4 &&& (3 : Int32)))), .unset, .unset] [(.int (1 : Int32)), (.int ((1 : Int32) + (p4 &&& (3 : Int32)))), (.int (((p4.toUInt32 >>> ((2 : Int32) &&& 31).toUInt32).toInt32) &&& (7 : Int32)))]))
  refine own_go (fun _ q => XS.iadd X5.here hx rfl (hb hby at_39) rfl q) ?_
  show own_Go _ _ _ _ _ _ _ (T5.setTop (mkF m 40 #[.val (.int p0), .val (.int p1), .val (.int p2), .val (.int p3), .val (.int p4), .val (.ref b1), .val (.int ((1 : Int32) + (p4 &&& (3 : Int32)))), .unset, .unset] [(.int (((1 : Int32) + (p4 &&& (3 : Int32))) + (1 : Int32))), (.int (((p4.toUInt32 >>> ((2 : Int32) &&& 31).toUInt32).toInt32) &&& (7 : Int32)))]))
  refine own_go (fun _ q => iremM X5 hx rfl (hb hby at_40) rfl (own_nz p4) q) ?_
  show own_Go _ _ _ _ _ _ _ (T5.setTop (mkF m 41 #[.val (.int p0), .val (.int p1), .val (.int p2), .val (.int p3), .val (.int p4), .val (.ref b1), .val (.int ((1 : Int32) + (p4 &&& (3 : Int32)))), .unset, .unset] [(.int ((((p4.toUInt32 >>> ((2 : Int32) &&& 31).toUInt32).toInt32) &&& (7 : Int32)) % (((1 : Int32) + (p4 &&& (3 : Int32))) + (1 : Int32))))]))
  refine own_go (fun _ q => XS.iconst X5.here hx rfl (hb hby at_41) q) ?_
  show own_Go _ _ _ _ _ _ _ (T5.setTop (mkF m 42 #[.val (.int p0), .val (.int p1), .val (.int p2), .val (.int p3), .val (.int p4), .val (.ref b1), .val (.int ((1 : Int32) + (p4 &&& (3 : Int32)))), .unset, .unset] [(.int (1 : Int32)), (.int ((((p4.toUInt32 >>> ((2 : Int32) &&& 31).toUInt32).toInt32) &&& (7 : Int32)) % (((1 : Int32) + (p4 &&& (3 : Int32))) + (1 : Int32))))]))
  refine own_go (fun _ q => XS.isub X5.here hx rfl (hb hby at_42) rfl q) ?_
  show own_Go _ _ _ _ _ _ _ (T5.setTop (mkF m 43 #[.val (.int p0), .val (.int p1), .val (.int p2), .val (.int p3), .val (.int p4), .val (.ref b1), .val (.int ((1 : Int32) + (p4 &&& (3 : Int32)))), .unset, .unset] [(.int (((((p4.toUInt32 >>> ((2 : Int32) &&& 31).toUInt32).toInt32) &&& (7 : Int32)) % (((1 : Int32) + (p4 &&& (3 : Int32))) + (1 : Int32))) - (1 : Int32)))]))
  refine own_go (fun _ q => XS.istore X5.here hx rfl (hb hby at_43) rfl (l' := #[.val (.int p0), .val (.int p1), .val (.int p2), .val (.int p3), .val (.int p4), .val (.ref b1), .val (.int ((1 : Int32) + (p4 &&& (3 : Int32)))), .val (.int (((((p4.toUInt32 >>> ((2 : Int32) &&& 31).toUInt32).toInt32) &&& (7 : Int32)) % (((1 : Int32) + (p4 &&& (3 : Int32))) + (1 : Int32))) - (1 : Int32))), .unset]) rfl q) ?_
  show own_Go _ _ _ _ _ _ _ (T5.setTop (mkF m 45 #[.val (.int p0), .val (.int p1), .val (.int p2), .val (.int p3), .val (.int p4), .val (.ref b1), .val (.int ((1 : Int32) + (p4 &&& (3 : Int32)))), .val (.int (((((p4.toUInt32 >>> ((2 : Int32) &&& 31).toUInt32).toInt32) &&& (7 : Int32)) % (((1 : Int32) + (p4 &&& (3 : Int32))) + (1 : Int32))) - (1 : Int32))), .unset] []))
  refine own_go (fun _ q => XS.iload X5.here hx rfl (hb hby at_45) rfl q) ?_
  show own_Go _ _ _ _ _ _ _ (T5.setTop (mkF m 47 #[.val (.int p0), .val (.int p1), .val (.int p2), .val (.int p3), .val (.int p4), .val (.ref b1), .val (.int ((1 : Int32) + (p4 &&& (3 : Int32)))), .val (.int (((((p4.toUInt32 >>> ((2 : Int32) &&& 31).toUInt32).toInt32) &&& (7 : Int32)) % (((1 : Int32) + (p4 &&& (3 : Int32))) + (1 : Int32))) - (1 : Int32))), .unset] [(.int ((1 : Int32) + (p4 &&& (3 : Int32))))]))
  refine own_go (fun _ q => XS.iconst X5.here hx rfl (hb hby at_47) q) ?_
  show own_Go _ _ _ _ _ _ _ (T5.setTop (mkF m 48 #[.val (.int p0), .val (.int p1), .val (.int p2), .val (.int p3), .val (.int p4), .val (.ref b1), .val (.int ((1 : Int32) + (p4 &&& (3 : Int32)))), .val (.int (((((p4.toUInt32 >>> ((2 : Int32) &&& 31).toUInt32).toInt32) &&& (7 : Int32)) % (((1 : Int32) + (p4 &&& (3 : Int32))) + (1 : Int32))) - (1 : Int32))), .unset] [(.int (1 : Int32)), (.int ((1 : Int32) + (p4 &&& (3 : Int32))))]))
  obtain ⟨n, hct, hn1, hn4⟩ := own_cnt p4
  obtain ⟨ct, hcte⟩ : ∃ z, z = ((1 : Int32) + (p4 &&& (3 : Int32))) := ⟨_, rfl⟩
  have hsk0 := own_skip p4 n hct hn1 hn4
  rw [← hcte] at hct hsk0 ⊢
  obtain ⟨sk0, hske⟩ : ∃ z, z = (((((p4.toUInt32 >>> ((2 : Int32) &&& 31).toUInt32).toInt32) &&& (7 : Int32)) % (ct + (1 : Int32))) - (1 : Int32)) := ⟨_, rfl⟩
  rw [← hske] at hsk0 ⊢
  have Z1 : n0 ≤ h5.size := by have := A0.lt; omega
  have join : ∀ sk : Int32, -1 ≤ sk.toInt → sk.toInt < n → (n = 1 → sk.toInt = -1) → own_Go p e below s (Q0 Z p0 p1 p2 p3 p4 h0 n0) room_1.cells room_1.slots (T5.setTop (mkF m 54 #[.val (.int p0), .val (.int p1), .val (.int p2), .val (.int p3), .val (.int p4), .val (.ref b1), .val (.int ct), .val (.int sk), .unset] [])) := by
    intro sk hk1 hk2 hk3
    show own_Go _ _ _ _ _ _ _ (T5.setTop (mkF m 54 #[.val (.int p0), .val (.int p1), .val (.int p2), .val (.int p3), .val (.int p4), .val (.ref b1), .val (.int ct), .val (.int sk), .unset] []))
    refine own_go (fun _ q => XS.aload X5.here hx rfl (hb hby at_54) rfl rfl q) ?_
    show own_Go _ _ _ _ _ _ _ (T5.setTop (mkF m 56 #[.val (.int p0), .val (.int p1), .val (.int p2), .val (.int p3), .val (.int p4), .val (.ref b1), .val (.int ct), .val (.int sk), .unset] [(.ref b1)]))
    refine own_go (fun _ q => XS.iload X5.here hx rfl (hb hby at_56) rfl q) ?_
    show own_Go _ _ _ _ _ _ _ (T5.setTop (mkF m 58 #[.val (.int p0), .val (.int p1), .val (.int p2), .val (.int p3), .val (.int p4), .val (.ref b1), .val (.int ct), .val (.int sk), .unset] [(.int ct), (.ref b1)]))
    refine own_go (fun _ q => XS.iload X5.here hx rfl (hb hby at_58) rfl q) ?_
    show own_Go _ _ _ _ _ _ _ (T5.setTop (mkF m 60 #[.val (.int p0), .val (.int p1), .val (.int p2), .val (.int p3), .val (.int p4), .val (.ref b1), .val (.int ct), .val (.int sk), .unset] [(.int sk), (.int ct), (.ref b1)]))
    refine own_static X5 hx hZ hown (hw _ (List.mem_of_getElem? (i := 1) rfl)) (hw _ (List.mem_of_getElem? (i := 2) rfl)) (hw _ (List.mem_of_getElem? (i := 3) rfl)) (hw _ (List.mem_of_getElem? (i := 4) rfl)) (by decide) e5 (argsL := [(.ref b1), (.int ct), (.int sk)]) (rest := []) (rm1 l Z a0 hw [] b1 (own_f p0 p1 p2 p3) ct sk n h5 n0 Z1 A0 hct hn4) 0 (by decide) (by decide) (by decide) (by decide) (by rw [hml]; rfl) pd_0 rfl rfl (Nat.le_of_eq rfl) (hb hby at_60) rfl ?_
    intro v6 T6 L6 X6 hQ6
    obtain ⟨r, rfl, N6q, e6q, hP⟩ := hQ6
    have N6 := Fr.app N5 N6q
    show own_Go _ _ _ _ _ _ _ (T6.setTop (mkF m 63 #[.val (.int p0), .val (.int p1), .val (.int p2), .val (.int p3), .val (.int p4), .val (.ref b1), .val (.int ct), .val (.int sk), .unset] [(.int r)]))
    obtain ⟨q, hr, hB⟩ := own_got hP hn1 hk1 hk2 hk3
    have hqn : q < n := hB.1
    refine own_go (fun _ q => XS.istore X6.here hx rfl (hb hby at_63) rfl (l' := #[.val (.int p0), .val (.int p1), .val (.int p2), .val (.int p3), .val (.int p4), .val (.ref b1), .val (.int ct), .val (.int sk), .val (.int r)]) rfl q) ?_
    show own_Go _ _ _ _ _ _ _ (T6.setTop (mkF m 65 #[.val (.int p0), .val (.int p1), .val (.int p2), .val (.int p3), .val (.int p4), .val (.ref b1), .val (.int ct), .val (.int sk), .val (.int r)] []))
    refine own_go (fun _ q => XS.iload X6.here hx rfl (hb hby at_65) rfl q) ?_
    show own_Go _ _ _ _ _ _ _ (T6.setTop (mkF m 67 #[.val (.int p0), .val (.int p1), .val (.int p2), .val (.int p3), .val (.int p4), .val (.ref b1), .val (.int ct), .val (.int sk), .val (.int r)] [(.int r)]))
    refine own_go (fun _ q => XS.ifNo X6.here hx rfl (hb hby at_67) rfl ((if0 _ _).trans (flt (own_nlt (x := r) (y := 0) (by show (0 : Int) ≤ _; omega))).1) q) ?_
    show own_Go _ _ _ _ _ _ _ (T6.setTop (mkF m 70 #[.val (.int p0), .val (.int p1), .val (.int p2), .val (.int p3), .val (.int p4), .val (.ref b1), .val (.int ct), .val (.int sk), .val (.int r)] []))
    refine own_go (fun _ q => XS.iload X6.here hx rfl (hb hby at_70) rfl q) ?_
    show own_Go _ _ _ _ _ _ _ (T6.setTop (mkF m 72 #[.val (.int p0), .val (.int p1), .val (.int p2), .val (.int p3), .val (.int p4), .val (.ref b1), .val (.int ct), .val (.int sk), .val (.int r)] [(.int r)]))
    refine own_go (fun _ q => XS.iload X6.here hx rfl (hb hby at_72) rfl q) ?_
    show own_Go _ _ _ _ _ _ _ (T6.setTop (mkF m 74 #[.val (.int p0), .val (.int p1), .val (.int p2), .val (.int p3), .val (.int p4), .val (.ref b1), .val (.int ct), .val (.int sk), .val (.int r)] [(.int ct), (.int r)]))
    refine own_go (fun _ q => XS.icmpNo X6.here hx rfl (hb hby at_74) rfl (tlt (own_lt (x := r) (y := ct) (by omega))).2.1 q) ?_
    show own_Go _ _ _ _ _ _ _ (T6.setTop (mkF m 77 #[.val (.int p0), .val (.int p1), .val (.int p2), .val (.int p3), .val (.int p4), .val (.ref b1), .val (.int ct), .val (.int sk), .val (.int r)] []))
    refine own_go (fun _ q => XS.iload X6.here hx rfl (hb hby at_77) rfl q) ?_
    show own_Go _ _ _ _ _ _ _ (T6.setTop (mkF m 79 #[.val (.int p0), .val (.int p1), .val (.int p2), .val (.int p3), .val (.int p4), .val (.ref b1), .val (.int ct), .val (.int sk), .val (.int r)] [(.int r)]))
    refine own_go (fun _ q => XS.iload X6.here hx rfl (hb hby at_79) rfl q) ?_
    show own_Go _ _ _ _ _ _ _ (T6.setTop (mkF m 81 #[.val (.int p0), .val (.int p1), .val (.int p2), .val (.int p3), .val (.int p4), .val (.ref b1), .val (.int ct), .val (.int sk), .val (.int r)] [(.int sk), (.int r)]))
    refine own_go (fun _ q => XS.icmpYes X6.here hx rfl (pc0 := 81) (pc' := 86) rfl (hb hby at_81) rfl (feq (own_ne (x := r) (y := sk) (fun u => hB.2.1 (by omega)))).2 (by decide) (by decide) q) ?_
    show own_Go _ _ _ _ _ _ _ (T6.setTop (mkF m 86 #[.val (.int p0), .val (.int p1), .val (.int p2), .val (.int p3), .val (.int p4), .val (.ref b1), .val (.int ct), .val (.int sk), .val (.int r)] []))
    refine own_go (fun _ q => XS.aload X6.here hx rfl (hb hby at_86) rfl rfl q) ?_
    show own_Go _ _ _ _ _ _ _ (T6.setTop (mkF m 88 #[.val (.int p0), .val (.int p1), .val (.int p2), .val (.int p3), .val (.int p4), .val (.ref b1), .val (.int ct), .val (.int sk), .val (.int r)] [(.ref b1)]))
    refine own_go (fun _ q => XS.iload X6.here hx rfl (hb hby at_88) rfl q) ?_
    show own_Go _ _ _ _ _ _ _ (T6.setTop (mkF m 90 #[.val (.int p0), .val (.int p1), .val (.int p2), .val (.int p3), .val (.int p4), .val (.ref b1), .val (.int ct), .val (.int sk), .val (.int r)] [(.int ct), (.ref b1)]))
    refine own_go (fun _ q => XS.iload X6.here hx rfl (hb hby at_90) rfl q) ?_
    show own_Go _ _ _ _ _ _ _ (T6.setTop (mkF m 92 #[.val (.int p0), .val (.int p1), .val (.int p2), .val (.int p3), .val (.int p4), .val (.ref b1), .val (.int ct), .val (.int sk), .val (.int r)] [(.int sk), (.int ct), (.ref b1)]))
    refine own_go (fun _ q => XS.iload X6.here hx rfl (hb hby at_92) rfl q) ?_
    show own_Go _ _ _ _ _ _ _ (T6.setTop (mkF m 94 #[.val (.int p0), .val (.int p1), .val (.int p2), .val (.int p3), .val (.int p4), .val (.ref b1), .val (.int ct), .val (.int sk), .val (.int r)] [(.int r), (.int sk), (.int ct), (.ref b1)]))
    refine own_go (fun _ q => XS.iconst X6.here hx rfl (hb hby at_94) q) ?_
    show own_Go _ _ _ _ _ _ _ (T6.setTop (mkF m 95 #[.val (.int p0), .val (.int p1), .val (.int p2), .val (.int p3), .val (.int p4), .val (.ref b1), .val (.int ct), .val (.int sk), .val (.int r)] [(.int (0 : Int32)), (.int r), (.int sk), (.int ct), (.ref b1)]))
    refine own_static X6 hx hZ hown (hw _ (List.mem_of_getElem? (i := 5) rfl)) (hw _ (List.mem_of_getElem? (i := 6) rfl)) (hw _ (List.mem_of_getElem? (i := 7) rfl)) (hw _ (List.mem_of_getElem? (i := 8) rfl)) (by decide) e6q (argsL := [(.ref b1), (.int ct), (.int sk), (.int r), (.int (0 : Int32))]) (rest := []) (rm2 l Z a0 hw [] b1 (own_f p0 p1 p2 p3) ct sk r (0 : Int32) n q 0 h5 n0 Z1 A0 hct hn4 hr rfl (by decide) hB) 0 (by decide) (by decide) (by decide) (by decide) (by rw [hml]; rfl) pd_1 rfl rfl (Nat.le_of_eq rfl) (hb hby at_95) rfl ?_
    intro v7 T7 L7 X7 hQ7
    obtain ⟨rfl, N7q, e7q⟩ := hQ7
    have N7 := Fr.app N6 N7q
    show own_Go _ _ _ _ _ _ _ (T7.setTop (mkF m 98 #[.val (.int p0), .val (.int p1), .val (.int p2), .val (.int p3), .val (.int p4), .val (.ref b1), .val (.int ct), .val (.int sk), .val (.int r)] [(.int (1 : Int32))]))
    refine own_go (fun _ q => XS.ifNo X7.here hx rfl (hb hby at_98) rfl ((if0 _ _).trans (feq (by decide : ¬ ((1 : Int32) = (0 : Int32)))).1) q) ?_
    show own_Go _ _ _ _ _ _ _ (T7.setTop (mkF m 101 #[.val (.int p0), .val (.int p1), .val (.int p2), .val (.int p3), .val (.int p4), .val (.ref b1), .val (.int ct), .val (.int sk), .val (.int r)] []))
    refine own_go (fun _ q => XS.aload X7.here hx rfl (hb hby at_101) rfl rfl q) ?_
    show own_Go _ _ _ _ _ _ _ (T7.setTop (mkF m 103 #[.val (.int p0), .val (.int p1), .val (.int p2), .val (.int p3), .val (.int p4), .val (.ref b1), .val (.int ct), .val (.int sk), .val (.int r)] [(.ref b1)]))
    refine own_go (fun _ q => XS.iload X7.here hx rfl (hb hby at_103) rfl q) ?_
    show own_Go _ _ _ _ _ _ _ (T7.setTop (mkF m 105 #[.val (.int p0), .val (.int p1), .val (.int p2), .val (.int p3), .val (.int p4), .val (.ref b1), .val (.int ct), .val (.int sk), .val (.int r)] [(.int ct), (.ref b1)]))
    refine own_go (fun _ q => XS.iload X7.here hx rfl (hb hby at_105) rfl q) ?_
    show own_Go _ _ _ _ _ _ _ (T7.setTop (mkF m 107 #[.val (.int p0), .val (.int p1), .val (.int p2), .val (.int p3), .val (.int p4), .val (.ref b1), .val (.int ct), .val (.int sk), .val (.int r)] [(.int sk), (.int ct), (.ref b1)]))
    refine own_go (fun _ q => XS.iload X7.here hx rfl (hb hby at_107) rfl q) ?_
    show own_Go _ _ _ _ _ _ _ (T7.setTop (mkF m 109 #[.val (.int p0), .val (.int p1), .val (.int p2), .val (.int p3), .val (.int p4), .val (.ref b1), .val (.int ct), .val (.int sk), .val (.int r)] [(.int r), (.int sk), (.int ct), (.ref b1)]))
    refine own_go (fun _ q => XS.iconst X7.here hx rfl (hb hby at_109) q) ?_
    show own_Go _ _ _ _ _ _ _ (T7.setTop (mkF m 110 #[.val (.int p0), .val (.int p1), .val (.int p2), .val (.int p3), .val (.int p4), .val (.ref b1), .val (.int ct), .val (.int sk), .val (.int r)] [(.int (1 : Int32)), (.int r), (.int sk), (.int ct), (.ref b1)]))
    refine own_static X7 hx hZ hown (hw _ (List.mem_of_getElem? (i := 5) rfl)) (hw _ (List.mem_of_getElem? (i := 6) rfl)) (hw _ (List.mem_of_getElem? (i := 7) rfl)) (hw _ (List.mem_of_getElem? (i := 8) rfl)) (by decide) e7q (argsL := [(.ref b1), (.int ct), (.int sk), (.int r), (.int (1 : Int32))]) (rest := []) (rm2 l Z a0 hw [] b1 (own_f p0 p1 p2 p3) ct sk r (1 : Int32) n q 1 h5 n0 Z1 A0 hct hn4 hr rfl (by decide) hB) 0 (by decide) (by decide) (by decide) (by decide) (by rw [hml]; rfl) pd_1 rfl rfl (Nat.le_of_eq rfl) (hb hby at_110) rfl ?_
    intro v8 T8 L8 X8 hQ8
    obtain ⟨rfl, N8q, e8q⟩ := hQ8
    have N8 := Fr.app N7 N8q
    show own_Go _ _ _ _ _ _ _ (T8.setTop (mkF m 113 #[.val (.int p0), .val (.int p1), .val (.int p2), .val (.int p3), .val (.int p4), .val (.ref b1), .val (.int ct), .val (.int sk), .val (.int r)] [(.int (1 : Int32))]))
    refine own_go (fun _ q => XS.ifNo X8.here hx rfl (hb hby at_113) rfl ((if0 _ _).trans (feq (by decide : ¬ ((1 : Int32) = (0 : Int32)))).1) q) ?_
    show own_Go _ _ _ _ _ _ _ (T8.setTop (mkF m 116 #[.val (.int p0), .val (.int p1), .val (.int p2), .val (.int p3), .val (.int p4), .val (.ref b1), .val (.int ct), .val (.int sk), .val (.int r)] []))
    refine own_go (fun _ q => XS.aload X8.here hx rfl (hb hby at_116) rfl rfl q) ?_
    show own_Go _ _ _ _ _ _ _ (T8.setTop (mkF m 118 #[.val (.int p0), .val (.int p1), .val (.int p2), .val (.int p3), .val (.int p4), .val (.ref b1), .val (.int ct), .val (.int sk), .val (.int r)] [(.ref b1)]))
    refine own_go (fun _ q => XS.iload X8.here hx rfl (hb hby at_118) rfl q) ?_
    show own_Go _ _ _ _ _ _ _ (T8.setTop (mkF m 120 #[.val (.int p0), .val (.int p1), .val (.int p2), .val (.int p3), .val (.int p4), .val (.ref b1), .val (.int ct), .val (.int sk), .val (.int r)] [(.int ct), (.ref b1)]))
    refine own_go (fun _ q => XS.iload X8.here hx rfl (hb hby at_120) rfl q) ?_
    show own_Go _ _ _ _ _ _ _ (T8.setTop (mkF m 122 #[.val (.int p0), .val (.int p1), .val (.int p2), .val (.int p3), .val (.int p4), .val (.ref b1), .val (.int ct), .val (.int sk), .val (.int r)] [(.int sk), (.int ct), (.ref b1)]))
    refine own_go (fun _ q => XS.iload X8.here hx rfl (hb hby at_122) rfl q) ?_
    show own_Go _ _ _ _ _ _ _ (T8.setTop (mkF m 124 #[.val (.int p0), .val (.int p1), .val (.int p2), .val (.int p3), .val (.int p4), .val (.ref b1), .val (.int ct), .val (.int sk), .val (.int r)] [(.int r), (.int sk), (.int ct), (.ref b1)]))
    refine own_go (fun _ q => XS.iconst X8.here hx rfl (hb hby at_124) q) ?_
    show own_Go _ _ _ _ _ _ _ (T8.setTop (mkF m 125 #[.val (.int p0), .val (.int p1), .val (.int p2), .val (.int p3), .val (.int p4), .val (.ref b1), .val (.int ct), .val (.int sk), .val (.int r)] [(.int (2 : Int32)), (.int r), (.int sk), (.int ct), (.ref b1)]))
    refine own_static X8 hx hZ hown (hw _ (List.mem_of_getElem? (i := 5) rfl)) (hw _ (List.mem_of_getElem? (i := 6) rfl)) (hw _ (List.mem_of_getElem? (i := 7) rfl)) (hw _ (List.mem_of_getElem? (i := 8) rfl)) (by decide) e8q (argsL := [(.ref b1), (.int ct), (.int sk), (.int r), (.int (2 : Int32))]) (rest := []) (rm2 l Z a0 hw [] b1 (own_f p0 p1 p2 p3) ct sk r (2 : Int32) n q 2 h5 n0 Z1 A0 hct hn4 hr rfl (by decide) hB) 0 (by decide) (by decide) (by decide) (by decide) (by rw [hml]; rfl) pd_1 rfl rfl (Nat.le_of_eq rfl) (hb hby at_125) rfl ?_
    intro v9 T9 L9 X9 hQ9
    obtain ⟨rfl, N9q, e9q⟩ := hQ9
    have N9 := Fr.app N8 N9q
    show own_Go _ _ _ _ _ _ _ (T9.setTop (mkF m 128 #[.val (.int p0), .val (.int p1), .val (.int p2), .val (.int p3), .val (.int p4), .val (.ref b1), .val (.int ct), .val (.int sk), .val (.int r)] [(.int (1 : Int32))]))
    refine own_go (fun _ q => XS.ifNo X9.here hx rfl (hb hby at_128) rfl ((if0 _ _).trans (feq (by decide : ¬ ((1 : Int32) = (0 : Int32)))).1) q) ?_
    show own_Go _ _ _ _ _ _ _ (T9.setTop (mkF m 131 #[.val (.int p0), .val (.int p1), .val (.int p2), .val (.int p3), .val (.int p4), .val (.ref b1), .val (.int ct), .val (.int sk), .val (.int r)] []))
    refine own_go (fun _ q => XS.aload X9.here hx rfl (hb hby at_131) rfl rfl q) ?_
    show own_Go _ _ _ _ _ _ _ (T9.setTop (mkF m 133 #[.val (.int p0), .val (.int p1), .val (.int p2), .val (.int p3), .val (.int p4), .val (.ref b1), .val (.int ct), .val (.int sk), .val (.int r)] [(.ref b1)]))
    refine own_go (fun _ q => XS.iload X9.here hx rfl (hb hby at_133) rfl q) ?_
    show own_Go _ _ _ _ _ _ _ (T9.setTop (mkF m 135 #[.val (.int p0), .val (.int p1), .val (.int p2), .val (.int p3), .val (.int p4), .val (.ref b1), .val (.int ct), .val (.int sk), .val (.int r)] [(.int ct), (.ref b1)]))
    refine own_go (fun _ q => XS.iload X9.here hx rfl (hb hby at_135) rfl q) ?_
    show own_Go _ _ _ _ _ _ _ (T9.setTop (mkF m 137 #[.val (.int p0), .val (.int p1), .val (.int p2), .val (.int p3), .val (.int p4), .val (.ref b1), .val (.int ct), .val (.int sk), .val (.int r)] [(.int sk), (.int ct), (.ref b1)]))
    refine own_go (fun _ q => XS.iload X9.here hx rfl (hb hby at_137) rfl q) ?_
    show own_Go _ _ _ _ _ _ _ (T9.setTop (mkF m 139 #[.val (.int p0), .val (.int p1), .val (.int p2), .val (.int p3), .val (.int p4), .val (.ref b1), .val (.int ct), .val (.int sk), .val (.int r)] [(.int r), (.int sk), (.int ct), (.ref b1)]))
    refine own_go (fun _ q => XS.iconst X9.here hx rfl (hb hby at_139) q) ?_
    show own_Go _ _ _ _ _ _ _ (T9.setTop (mkF m 140 #[.val (.int p0), .val (.int p1), .val (.int p2), .val (.int p3), .val (.int p4), .val (.ref b1), .val (.int ct), .val (.int sk), .val (.int r)] [(.int (3 : Int32)), (.int r), (.int sk), (.int ct), (.ref b1)]))
    refine own_static X9 hx hZ hown (hw _ (List.mem_of_getElem? (i := 5) rfl)) (hw _ (List.mem_of_getElem? (i := 6) rfl)) (hw _ (List.mem_of_getElem? (i := 7) rfl)) (hw _ (List.mem_of_getElem? (i := 8) rfl)) (by decide) e9q (argsL := [(.ref b1), (.int ct), (.int sk), (.int r), (.int (3 : Int32))]) (rest := []) (rm2 l Z a0 hw [] b1 (own_f p0 p1 p2 p3) ct sk r (3 : Int32) n q 3 h5 n0 Z1 A0 hct hn4 hr rfl (by decide) hB) 0 (by decide) (by decide) (by decide) (by decide) (by rw [hml]; rfl) pd_1 rfl rfl (Nat.le_of_eq rfl) (hb hby at_140) rfl ?_
    intro v10 T10 L10 X10 hQ10
    obtain ⟨rfl, N10q, e10q⟩ := hQ10
    have N10 := Fr.app N9 N10q
    show own_Go _ _ _ _ _ _ _ (T10.setTop (mkF m 143 #[.val (.int p0), .val (.int p1), .val (.int p2), .val (.int p3), .val (.int p4), .val (.ref b1), .val (.int ct), .val (.int sk), .val (.int r)] [(.int (1 : Int32))]))
    refine own_go (fun _ q => XS.ifNo X10.here hx rfl (hb hby at_143) rfl ((if0 _ _).trans (feq (by decide : ¬ ((1 : Int32) = (0 : Int32)))).1) q) ?_
    show own_Go _ _ _ _ _ _ _ (T10.setTop (mkF m 146 #[.val (.int p0), .val (.int p1), .val (.int p2), .val (.int p3), .val (.int p4), .val (.ref b1), .val (.int ct), .val (.int sk), .val (.int r)] []))
    refine own_go (fun _ q => XS.iconst X10.here hx rfl (hb hby at_146) q) ?_
    show own_Go _ _ _ _ _ _ _ (T10.setTop (mkF m 147 #[.val (.int p0), .val (.int p1), .val (.int p2), .val (.int p3), .val (.int p4), .val (.ref b1), .val (.int ct), .val (.int sk), .val (.int r)] [(.int (1 : Int32))]))
    refine own_go (fun _ q => XS.goto X10.here hx rfl (pc0 := 147) (pc' := 151) rfl (hb hby at_147) (by decide) (by decide) q) ?_
    show own_Go _ _ _ _ _ _ _ (T10.setTop (mkF m 151 #[.val (.int p0), .val (.int p1), .val (.int p2), .val (.int p3), .val (.int p4), .val (.ref b1), .val (.int ct), .val (.int sk), .val (.int r)] [(.int (1 : Int32))]))
    exact own_retZ X10 hx hlk hret (hb hby at_151) (by decide) (by decide) (by decide) ⟨rfl, N10⟩
  by_cases hone : ct = (1 : Int32)
  · refine own_go (fun _ q => XS.icmpNo X5.here hx rfl (hb hby at_48) rfl (teq hone).2 q) ?_
    show own_Go _ _ _ _ _ _ _ (T5.setTop (mkF m 51 #[.val (.int p0), .val (.int p1), .val (.int p2), .val (.int p3), .val (.int p4), .val (.ref b1), .val (.int ct), .val (.int sk0), .unset] []))
    refine own_go (fun _ q => XS.iconst X5.here hx rfl (hb hby at_51) q) ?_
    show own_Go _ _ _ _ _ _ _ (T5.setTop (mkF m 52 #[.val (.int p0), .val (.int p1), .val (.int p2), .val (.int p3), .val (.int p4), .val (.ref b1), .val (.int ct), .val (.int sk0), .unset] [(.int (-1 : Int32))]))
    refine own_go (fun _ q => XS.istore X5.here hx rfl (hb hby at_52) rfl (l' := #[.val (.int p0), .val (.int p1), .val (.int p2), .val (.int p3), .val (.int p4), .val (.ref b1), .val (.int ct), .val (.int (-1 : Int32)), .unset]) rfl q) ?_
    show own_Go _ _ _ _ _ _ _ (T5.setTop (mkF m 54 #[.val (.int p0), .val (.int p1), .val (.int p2), .val (.int p3), .val (.int p4), .val (.ref b1), .val (.int ct), .val (.int (-1 : Int32)), .unset] []))
    exact join _ (by decide) (by have : (-1 : Int32).toInt = -1 := rfl; omega) (fun _ => rfl)
  · refine own_go (fun _ q => XS.icmpYes X5.here hx rfl (pc0 := 48) (pc' := 54) rfl (hb hby at_48) rfl (feq hone).2 (by decide) (by decide) q) ?_
    show own_Go _ _ _ _ _ _ _ (T5.setTop (mkF m 54 #[.val (.int p0), .val (.int p1), .val (.int p2), .val (.int p3), .val (.int p4), .val (.ref b1), .val (.int ct), .val (.int sk0), .unset] []))
    exact join _ hsk0.1 hsk0.2 (fun u => absurd (own_eq (by rw [hct, u]; rfl)) hone)
set_option maxRecDepth 65536 in
set_option maxHeartbeats 40000000 in
theorem comes_1 {Post : Tables → Env → Array Value → State → Outcome → State → Prop} (hpost : ∀ tb e args s v u, (limb_1_1.after args s (.returned v) u = true ∧ limb_1_2.after args s (.returned v) u = true ∧ True) → FrameEnd s (.returned v) u (Jvm.fieldLocs frame_1_writes args s ++ Jvm.arrayLocs frame_1_arrays args s ++ Jvm.staticLocs frame_1_statics s) 16 128 → Post tb e args s (.returned v) u) :
    ArmFor flags0 classFile x code maxLocals ret World_1 tables_1 room_1 Calls_1 rest_1 Pre_1 Post := by
  intro l hfl _ _ p e ha hc hk s m args below hf hA hF happ hP
  obtain ⟨hcalls, hrest, hpre⟩ := hP
  obtain ⟨-, -, -, hnamed, -, -, -, hat⟩ := (Spec.applies_iff hf).mp happ
  obtain ⟨hg, hn⟩ := and_e (Cond.before_iff.mp (show (Jvm.Cond.and given_1 narrow_1).before args s = true from hpre))
  obtain ⟨ga1, gb1⟩ := and_e hg
  obtain ⟨ga2, gb2⟩ := and_e gb1
  obtain ⟨ga3, gb3⟩ := and_e gb2
  obtain ⟨ga4, gb4⟩ := and_e gb3
  obtain ⟨ga5, gb5⟩ := and_e gb4
  obtain ⟨w0, w1, w2, w3, w4, rfl⟩ : ∃ w0 w1 w2 w3 w4 : Value, args = #[w0, w1, w2, w3, w4] := by
    have hs : args.size = 5 := by simpa [Cond.value, given_1] using ga1
    obtain ⟨L⟩ := args
    match L, hs with
    | [w0, w1, w2, w3, w4], _ => exact ⟨w0, w1, w2, w3, w4, rfl⟩
  have hw := fun d (hd : d ∈ tables_1) => atoms_spec (ws := Jvm.Cond.code x code maxLocals ret :: tables_1) hat d (List.mem_cons_of_mem _ hd)
  obtain ⟨i0, ei0⟩ := is_v ga2
  obtain rfl : w0 = (.int i0) := Option.some.inj ei0
  obtain ⟨i1, ei1⟩ := is_v ga3
  obtain rfl : w1 = (.int i1) := Option.some.inj ei1
  obtain ⟨i2, ei2⟩ := is_v ga4
  obtain rfl : w2 = (.int i2) := Option.some.inj ei2
  obtain ⟨i3, ei3⟩ := is_v ga5
  obtain rfl : w3 = (.int i3) := Option.some.inj ei3
  obtain ⟨i4, ei4⟩ := is_v gb5
  obtain rfl : w4 = (.int i4) := Option.some.inj ei4
  obtain ⟨n, o, h1, h2, h3, _, L, rfl, ⟨rfl, N⟩, hq⟩ := rm0 l s _ hw tables_1 i0 i1 i2 i3 i4 s.heap s.heap.size (Nat.le_refl _)  p e ha hc hk s m _ below hf ((Spec.applies_iff_loose hf).mp happ).1 ⟨rfl, State.Warmed39.refl s, rfl⟩ trivial
  refine ⟨n, _, h1, h2, h3, hpost _ _ _ _ _ _ ⟨Cond.after_iff.mpr rfl, Cond.after_iff.mpr (eq_i res_at (Term.int_eval (1)) rfl), trivial⟩ ⟨hq.1, hq.2.1, (hq.2.2.sift fun y hy => Or.inr (N y hy)).mono (by decide) (by decide)⟩⟩
theorem main_1_1 : Claimed_1_1 := comes_1 fun _ _ _ _ _ _ h hF => ⟨h.1, hF⟩
theorem main_1_2 : Claimed_1_2 := comes_1 fun _ _ _ _ _ _ h hF => ⟨h.2.1, hF⟩
end Jvm.Pilot.@@N@@
namespace Jvm.Pilot.@@N@@
open Jvm Jvm.ClassFile Sem Op Lib Jvm.Free Jvm.Stand Jvm.Pilot.@@N@@.Jvm.D
/-! MADE BY PROGRAM (witnessworld.py) out of the Statement's table words and the real class files: 9 classes; the members and pool entries that the words name. The judged class is class 1, her method 1. -/
namespace start1
open Jvm.ClassFile
def u (s : String) : CpInfo := .utf8 (stringToUtf16 s)
/-- a pool by its gaps: so many unusable entries, then the entry; so many at the end -/
def gap : Nat → List CpInfo → List CpInfo
  | 0, r => r
  | n + 1, r => .unusable :: gap n r
def poolList (es : List (Nat × CpInfo)) (last : Nat) : List CpInfo := es.foldr (fun e r => gap e.1 (e.2 :: r)) (gap last [])
def pool (es : List (Nat × CpInfo)) (last : Nat) : Array CpInfo := ⟨poolList es last⟩
def fileOf (pool : Array CpInfo) (this : Nat) (attrs : Array Attribute := #[]) (ms : Array MethodInfo := #[]) (fl : Nat := 33) (sup : Nat := 0) (ifs : Array Nat := #[]) (fds : Array FieldInfo := #[]) : ClassFile where
  minorVersion := 0
  majorVersion := 65
  constantPool := pool
  accessFlags := fl
  thisClass := this
  superClass := sup
  interfaces := ifs
  fields := fds
  methods := ms
  attributes := attrs
def plain (name : String) (sup : Option ClassId) : Class where
  name := name
  kind := .ordinary
  loader := none
  accessFlags := 33
  super := sup
  interfaces := #[]
  cf := none
  fields := #[]
  methods := #[]
  instanceTypes := #[]
  staticTypes := #[]
  resolved := #[]
  callSites := []
  init := .initialized
  statics := none
  mirror := none

def pool0 : Array CpInfo := pool [(5, u "<init>"), (0, u "()V"), (1, .class_ 10), (1, u "java/lang/Object")] 113

def k0m0 : Method := { name := "<init>", desc := "()V", sig := { parameters := [], returnType := none }, accessFlags := 1, code := none }
/-- java/lang/Object -/
def k0 : Class := { plain "java/lang/Object" none with
  accessFlags := 33
  interfaces := #[]
  cf := some (fileOf pool0 8 #[] #[{ accessFlags := 1, nameIndex := 5, descriptorIndex := 6, attributes := #[] }] 33 0 #[] #[])
  fields := #[]
  methods := #[k0m0]
  instanceTypes := #[]
  staticTypes := #[]
  resolved := Array.replicate 124 none
  statics := none }

def pool1 : Array CpInfo := pool [(2, .class_ 4), (1, u "java/lang/Object"), (0, u "<init>"), (0, u "()V"), (0, .methodref 8 9), (0, .class_ 10), (0, .nameAndType 11 12), (0, u "com/example/hyperrelay/hyperrelay/domain/pfsp/Schedule"), (0, u "firstLeast"), (0, u "([III)I"), (0, .methodref 14 15), (0, .class_ 16), (0, .nameAndType 17 18), (0, u "com/example/hyperrelay/hyperrelay/domain/pfsp/ScheduleFirstLeastPinLaw"), (0, u "fine"), (0, u "([IIIII)Z"), (2, u "law"), (0, u "(IIIII)Z")] 5

def k1m0 : Method := { name := "<init>", desc := "()V", sig := { parameters := [], returnType := none }, accessFlags := 2, code := none }
def k1c1 : Code := { maxStack := 5, maxLocals := 9, code := code, exceptionTable := #[], attributes := #[] }
def k1m1 : Method := { name := "law", desc := "(IIIII)Z", sig := { parameters := [.int, .int, .int, .int, .int], returnType := some .boolean }, accessFlags := 9, code := some k1c1 }
def k1c2 : Code := { maxStack := 3, maxLocals := 5, code := method_3_code, exceptionTable := #[], attributes := #[] }
def k1m2 : Method := { name := "fine", desc := "([IIIII)Z", sig := { parameters := [(.array .int), .int, .int, .int, .int], returnType := some .boolean }, accessFlags := 10, code := some k1c2 }
/-- com/example/hyperrelay/hyperrelay/domain/pfsp/ScheduleFirstLeastPinLaw -/
def k1 : Class := { plain "com/example/hyperrelay/hyperrelay/domain/pfsp/ScheduleFirstLeastPinLaw" (some 0) with
  accessFlags := 49
  interfaces := #[]
  cf := some (fileOf pool1 14 #[] #[{ accessFlags := 2, nameIndex := 5, descriptorIndex := 6, attributes := #[] }, { accessFlags := 9, nameIndex := 21, descriptorIndex := 22, attributes := #[] }, { accessFlags := 10, nameIndex := 17, descriptorIndex := 18, attributes := #[] }] 49 2 #[] #[])
  fields := #[]
  methods := #[k1m0, k1m1, k1m2]
  instanceTypes := #[]
  staticTypes := #[]
  resolved := Array.replicate 28 none
  statics := none }

def pool2 : Array CpInfo := pool [(2, .class_ 4), (1, u "java/lang/Object"), (9, .class_ 16), (1, u "com/example/hyperrelay/hyperrelay/domain/pfsp/Schedule"), (0, u "_times"), (0, u "[I"), (6, u "_m"), (0, u "I"), (5, u "_heads"), (2, u "_tails"), (2, u "_changed"), (2, u "_order"), (2, u "_length"), (20, u "firstLeast"), (0, u "([III)I")] 22

def k2c0 : Code := { maxStack := 3, maxLocals := 5, code := prog_42_method_8_code, exceptionTable := #[], attributes := #[] }
def k2m0 : Method := { name := "firstLeast", desc := "([III)I", sig := { parameters := [(.array .int), .int, .int], returnType := some .int }, accessFlags := 8, code := some k2c0 }
/-- com/example/hyperrelay/hyperrelay/domain/pfsp/Schedule -/
def k2 : Class := { plain "com/example/hyperrelay/hyperrelay/domain/pfsp/Schedule" (some 0) with
  accessFlags := 48
  interfaces := #[]
  cf := some (fileOf pool2 14 #[] #[{ accessFlags := 8, nameIndex := 65, descriptorIndex := 66, attributes := #[] }] 48 2 #[] #[{ accessFlags := 18, nameIndex := 17, descriptorIndex := 18, attributes := #[] }, { accessFlags := 18, nameIndex := 25, descriptorIndex := 26, attributes := #[] }, { accessFlags := 2, nameIndex := 41, descriptorIndex := 18, attributes := #[] }, { accessFlags := 2, nameIndex := 44, descriptorIndex := 26, attributes := #[] }, { accessFlags := 18, nameIndex := 32, descriptorIndex := 18, attributes := #[] }, { accessFlags := 18, nameIndex := 35, descriptorIndex := 18, attributes := #[] }, { accessFlags := 18, nameIndex := 38, descriptorIndex := 18, attributes := #[] }])
  fields := #[{ name := "_times", type := (.array .int), accessFlags := 18, slot := 0, constantValue := 0 }, { name := "_m", type := .int, accessFlags := 18, slot := 1, constantValue := 0 }, { name := "_order", type := (.array .int), accessFlags := 2, slot := 2, constantValue := 0 }, { name := "_length", type := .int, accessFlags := 2, slot := 3, constantValue := 0 }, { name := "_heads", type := (.array .int), accessFlags := 18, slot := 4, constantValue := 0 }, { name := "_tails", type := (.array .int), accessFlags := 18, slot := 5, constantValue := 0 }, { name := "_changed", type := (.array .int), accessFlags := 18, slot := 6, constantValue := 0 }]
  methods := #[k2m0]
  instanceTypes := #[(.array .int), .int, (.array .int), .int, (.array .int), (.array .int), (.array .int)]
  staticTypes := #[]
  resolved := Array.replicate 89 none
  statics := none }

def pool3 : Array CpInfo := pool [(1, u "java/lang/Cloneable"), (0, .class_ 1), (0, u "java/lang/Object"), (0, .class_ 3)] 3

/-- java/lang/Cloneable -/
def k3 : Class := { plain "java/lang/Cloneable" (some 0) with
  accessFlags := 1537
  interfaces := #[]
  cf := some (fileOf pool3 2 #[] #[] 1537 4 #[] #[])
  fields := #[]
  methods := #[]
  instanceTypes := #[]
  staticTypes := #[]
  resolved := Array.replicate 8 none
  statics := none }

def pool4 : Array CpInfo := pool [(1, u "java/io/Serializable"), (0, .class_ 1), (0, u "java/lang/Object"), (0, .class_ 3)] 3

/-- java/io/Serializable -/
def k4 : Class := { plain "java/io/Serializable" (some 0) with
  accessFlags := 1537
  interfaces := #[]
  cf := some (fileOf pool4 2 #[] #[] 1537 4 #[] #[])
  fields := #[]
  methods := #[]
  instanceTypes := #[]
  staticTypes := #[]
  resolved := Array.replicate 8 none
  statics := none }

/-- the primitive byte -/
def k5 : Class := { plain "byte" none with kind := .primitive 'B', accessFlags := 0x411 }
/-- [B -/
def k6 : Class := { plain "[B" (some 0) with kind := .array 5 .byte, interfaces := #[3, 4], accessFlags := 1041 }

/-- the primitive int -/
def k7 : Class := { plain "int" none with kind := .primitive 'I', accessFlags := 0x411 }
/-- [I -/
def k8 : Class := { plain "[I" (some 0) with kind := .array 7 .int, interfaces := #[3, 4], accessFlags := 1041 }

def heap : Heap := #[]
def classes : Array Class := #[k0, k1, k2, k3, k4, k5, k6, k7, k8]
def interned : List (Array UInt16 × Addr) := []
def slotsUsed : Nat := 0
def theMethod : MethodId := ⟨1, 1⟩
def args0 : Array Value := #[.int 5, .int 6, .int 7, .int 8, .int 9]
def aboutOver (below : List Frame) : State where
  vm := { classes := classes, interned := interned.toArray }
  heap := heap
  slotsUsed := slotsUsed
  threads := #[{ frames := .invoking theMethod args0 :: below }]
def below0 : List Frame := [.native { method := ⟨0, 0⟩, args := #[] }]
def about1 : State := aboutOver below0
def p0 : Program := .bare "" "" ""
def e0 : Env := launch0.env 0 0 0
theorem w_frames : about1.frames = Frame.invoking theMethod args0 :: below0 := rfl
set_option maxRecDepth 65536 in
theorem w_args : argsFit about1.vm theMethod args0 = true := by decide +kernel
set_option maxRecDepth 65536 in
theorem w_heap : heapFits about1 = true := by decide +kernel
set_option maxRecDepth 65536 in
theorem w_runnable : about1.curStatus? = some .runnable := by decide +kernel
set_option maxRecDepth 65536 in
theorem w_alone : about1.alone = true := by decide +kernel
set_option maxRecDepth 65536 in
theorem w_named : about1.methodNamed? x = some theMethod := by decide +kernel
set_option maxRecDepth 65536 in
theorem w_hears : about1.hears theMethod below0 = true := by decide +kernel
set_option maxRecDepth 65536 in
theorem w_ripe : about1.ripe theMethod args0 below0 = true := by decide +kernel
theorem w_running : about1.status = .running := rfl
set_option maxRecDepth 65536 in
theorem w_room : about1.hasRoom e0.platform room_1 = true :=
  launch0.hasRoom_least _ room_1 (by decide +kernel) (by decide +kernel) (by decide +kernel) (by decide +kernel) (by decide +kernel) (by decide +kernel)
theorem allAtoms_all (ts : List Jvm.Cond) (a : Array Jvm.Value) (st : Jvm.State) : (allAtoms ts).before a st = ts.all (fun c => c.before a st) := by
  induction ts with
  | nil => rfl
  | cons c t ih =>
    show (Jvm.Cond.and c (allAtoms t)).before a st = _
    rw [Jvm.Cond.before_and, ih, List.all_cons]
def words1 : List Jvm.Cond := Jvm.Cond.code x code maxLocals ret :: tables_1
/-- a 'code' word, met by the world's own term for the bytes: nothing is compared byte by byte -/
theorem code_word {y : MethodName} {bytes : ByteArray} {mx : Nat} {rt : Option FieldType} {a : Array Value} {s : State} {m : MethodId} {meth : Method} {c : Code} (h1 : s.methodNamed? y = some m) (h2 : s.vm.method? m = some meth) (h3 : meth.code = some c) (h4 : c.code = bytes)
    (h5 : (c.maxLocals == mx && c.exceptionTable.isEmpty && decide (c.maxStack ≤ mostOperands) && decide (meth.sig.returnType = rt) && !meth.locks && decide (parseMethodDescriptor y.desc = some meth.sig)) = true) : (Jvm.Cond.code y bytes mx rt).before a s = true := by
  simp only [Bool.and_eq_true, beq_iff_eq, Bool.not_eq_true', decide_eq_true_eq] at h5
  obtain ⟨⟨⟨⟨⟨g1, g2⟩, g3⟩, g4⟩, g5⟩, g6⟩ := h5
  simp [Cond.before, Cond.holds, Cond.value, h1, h2, h3, h4, g1, g2, g3, g4, g5, g6]
def isCode : Jvm.Cond → Bool
  | .code _ _ _ _ => true
  | _ => false
theorem all_split {L : List Jvm.Cond} {P : Jvm.Cond → Bool} (h1 : L.all (fun c => isCode c || P c) = true) (h2 : ∀ c ∈ L.filter isCode, P c = true) : L.all P = true := by
  refine List.all_eq_true.mpr fun c hc => ?_
  have h := List.all_eq_true.mp h1 c hc
  rcases Bool.eq_false_or_eq_true (isCode c) with hi | hi
  · exact h2 c (List.mem_filter.mpr ⟨hc, hi⟩)
  · simpa [hi] using h
set_option maxRecDepth 65536 in
theorem w_c0 : (Jvm.Cond.code x code maxLocals ret).before args0 about1 = true := code_word (m := ⟨1, 1⟩) (meth := k1m1) (c := k1c1) (by decide +kernel) rfl rfl rfl (by decide +kernel)
set_option maxRecDepth 65536 in
theorem w_c1 : (Jvm.Cond.code ({ cls := "com/example/hyperrelay/hyperrelay/domain/pfsp/Schedule", name := "firstLeast", desc := "([III)I" } : Jvm.MethodName) prog_42_method_8_code (5 : Nat) (Option.some Jvm.ClassFile.FieldType.int)).before args0 about1 = true := code_word (m := ⟨2, 0⟩) (meth := k2m0) (c := k2c0) (by decide +kernel) rfl rfl rfl (by decide +kernel)
set_option maxRecDepth 65536 in
theorem w_c2 : (Jvm.Cond.code ({ cls := "com/example/hyperrelay/hyperrelay/domain/pfsp/ScheduleFirstLeastPinLaw", name := "fine", desc := "([IIIII)Z" } : Jvm.MethodName) method_3_code (5 : Nat) (Option.some Jvm.ClassFile.FieldType.boolean)).before args0 about1 = true := code_word (m := ⟨1, 2⟩) (meth := k1m2) (c := k1c2) (by decide +kernel) rfl rfl rfl (by decide +kernel)
def codes1 : List Jvm.Cond := [Jvm.Cond.code x code maxLocals ret, Jvm.Cond.code ({ cls := "com/example/hyperrelay/hyperrelay/domain/pfsp/Schedule", name := "firstLeast", desc := "([III)I" } : Jvm.MethodName) prog_42_method_8_code (5 : Nat) (Option.some Jvm.ClassFile.FieldType.int), Jvm.Cond.code ({ cls := "com/example/hyperrelay/hyperrelay/domain/pfsp/ScheduleFirstLeastPinLaw", name := "fine", desc := "([IIIII)Z" } : Jvm.MethodName) method_3_code (5 : Nat) (Option.some Jvm.ClassFile.FieldType.boolean)]
set_option maxRecDepth 65536 in
theorem codes_eq : words1.filter isCode = codes1 := rfl
theorem w_codes : ∀ c ∈ words1.filter isCode, c.before args0 about1 = true := by
  rw [codes_eq]
  intro c hc
  simp only [codes1, List.mem_cons, List.not_mem_nil, or_false] at hc
  rcases hc with rfl | rfl | rfl
  · exact w_c0
  · exact w_c1
  · exact w_c2
set_option maxRecDepth 65536 in
theorem w_t1 : words1.all (fun c => isCode c || c.before args0 about1) = true := by decide +kernel
theorem w_tables : (allAtoms (Jvm.Cond.code x code maxLocals ret :: tables_1)).before args0 about1 = true := by
  rw [allAtoms_all]
  show words1.all (fun c => c.before args0 about1) = true
  refine all_split ?_ w_codes
  rw [w_t1]
set_option maxRecDepth 65536 in
theorem w_case : (Jvm.Cond.and given_1 narrow_1).before args0 about1 = true := by decide +kernel
theorem w_applies : (headSpec (Jvm.Cond.code x code maxLocals ret :: tables_1) room_1).applies x e0.platform about1 = true :=
  (Spec.applies_iff w_frames).mpr ⟨w_running, w_runnable, w_alone, w_named, w_hears, w_ripe, w_room, w_tables⟩
theorem atStart : AtStart classFile x code maxLocals ret World_1 tables_1 room_1 Calls_1 rest_1 Pre_1 launch0 p0 e0 about1 theMethod args0 below0 :=
  ⟨lists_1, trivial, launch0.admits_env _ _ _, launch0.least_env, fairChoices_fair.cas, fairChoices_fair.clock, w_frames, w_args, w_heap, w_applies, trivial, trivial, w_case⟩
end start1
theorem witness_1 : WitnessClaimed_1 := ⟨start1.p0, start1.e0, start1.about1, start1.theMethod, start1.args0, start1.below0, start1.atStart⟩
end Jvm.Pilot.@@N@@
