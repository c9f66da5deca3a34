import JvmDerived
import JvmDerived.Pilot.@@N@@Statement
import JvmDerived.Pilot.@@N@@Code
set_option linter.unusedVariables false
set_option linter.unusedSimpArgs false
namespace Jvm.Pilot.@@N@@
open Jvm Jvm.ClassFile Sem Op Lib Jvm.Free Jvm.Stand Jvm.LawKit Jvm.RoadKit Bundle Jvm.Pilot.@@N@@.Jvm.D
section OwnKit
variable {p : Program} {l : Launch} {e : Env} {R : Room} {s : State} {m : MethodId} {args : Array Value} {below : List Frame} {meth : Method} {c : Code} {T : State} {locs : List Loc} {cells slots : Nat} {Z : State} {a0 : Array Value} {h h' : Heap}
/-- the run from t comes to the method's end, where Q holds -/
def own_Go (p : Program) (e : Env) (below : List Frame) (s : State) (Q : Option Value → Heap → List Loc → Prop) (k n : Nat) (t : State) : Prop :=
  ∃ s₂ o, Steps p.tables e below t s₂ ∧ s₂.status = .running ∧ Ended s₂ below o ∧ ∃ v L, o = .returned v ∧ Q v s₂.heap L ∧ FrameEnd s o s₂ L k n
theorem own_go {Q : Option Value → Heap → List Loc → Prop} {k n : Nat} {t t' : State} (st : ∀ u, Steps p.tables e below t' u → Steps p.tables e below t u) (G : own_Go p e below s Q k n t') : own_Go p e below s Q k n t := by
  obtain ⟨s2, o, h1, r⟩ := G
  exact ⟨s2, o, st _ h1, r⟩
theorem own_ret {Q : Option Value → Heap → List Loc → Prop} {k n : Nat} (X : Stand p l e R s m args below meth c T locs cells slots) (hx : p.tables.exec = Jvm.exec) (hlk : meth.locks = false) {pc : Nat} {Ls : Array Slot} {w : Value} {t : FieldType} {i : Instr} {rest : List Value} (hret : meth.sig.returnType = some t) (hn : narrow t w = w)
    (hi : (i = .ireturn ∧ (t = .int ∨ t = .boolean ∨ t = .byte ∨ t = .char ∨ t = .short) ∧ ∃ z, w = .int z) ∨ (i = .lreturn ∧ t = .long ∧ ∃ z, w = .long z) ∨ (i = .dreturn ∧ t = .double ∧ ∃ z, w = .double z) ∨ (i = .freturn ∧ t = .float ∧ ∃ z, w = .float z) ∨ (i = .areturn ∧ t.isReference = true ∧ w.isRef = true))
    (hd : decode c.code pc = .ok (i, 1)) (hk : cells ≤ k) (hs : slots ≤ n) (hq : Q (some w) T.heap locs) : own_Go p e below s Q k n (T.setTop (mkF m pc Ls (w :: rest))) := by
  obtain ⟨fs, hr, hrun, hended, hW, hsame⟩ := X.leave (v := some w) (fun q => by rw [hret] at q; cases q) hlk
  exact ⟨_, _, retOut X hx hret hn hi hd hr, hrun, hended, _, _, rfl, hq, ⟨_, rfl⟩, hW, hsame.mono hk hs⟩
theorem own_retI {Q : Option Value → Heap → List Loc → Prop} {k n : Nat} (X : Stand p l e R s m args below meth c T locs cells slots) (hx : p.tables.exec = Jvm.exec) (hlk : meth.locks = false) {pc : Nat} {Ls : Array Slot} {z : Int32} {rest : List Value} (hret : meth.sig.returnType = some .int)
    (hd : decode c.code pc = .ok (.ireturn, 1)) (hk : cells ≤ k) (hs : slots ≤ n) (hq : Q (some (.int z)) T.heap locs) : own_Go p e below s Q k n (T.setTop (mkF m pc Ls (.int z :: rest))) :=
  own_ret X hx hlk hret rfl (Or.inl ⟨rfl, Or.inl rfl, z, rfl⟩) hd hk hs hq
theorem own_retZ {Q : Option Value → Heap → List Loc → Prop} {k n : Nat} (X : Stand p l e R s m args below meth c T locs cells slots) (hx : p.tables.exec = Jvm.exec) (hlk : meth.locks = false) {pc : Nat} {Ls : Array Slot} {z : Int32} {rest : List Value} (hret : meth.sig.returnType = some .boolean)
    (hd : decode c.code pc = .ok (.ireturn, 1)) (hz : z = 0 ∨ z = 1) (hk : cells ≤ k) (hs : slots ≤ n) (hq : Q (some (.int z)) T.heap locs) : own_Go p e below s Q k n (T.setTop (mkF m pc Ls (.int z :: rest))) :=
  own_ret X hx hlk hret (by rcases hz with rfl | rfl <;> rfl) (Or.inl ⟨rfl, Or.inr (Or.inl rfl), z, rfl⟩) hd hk hs hq
theorem own_retJ {Q : Option Value → Heap → List Loc → Prop} {k n : Nat} (X : Stand p l e R s m args below meth c T locs cells slots) (hx : p.tables.exec = Jvm.exec) (hlk : meth.locks = false) {pc : Nat} {Ls : Array Slot} {z : Int64} {rest : List Value} (hret : meth.sig.returnType = some .long)
    (hd : decode c.code pc = .ok (.lreturn, 1)) (hk : cells ≤ k) (hs : slots ≤ n) (hq : Q (some (.long z)) T.heap locs) : own_Go p e below s Q k n (T.setTop (mkF m pc Ls (.long z :: rest))) :=
  own_ret X hx hlk hret rfl (Or.inr (Or.inl ⟨rfl, rfl, z, rfl⟩)) hd hk hs hq
theorem own_retR {Q : Option Value → Heap → List Loc → Prop} {k n : Nat} (X : Stand p l e R s m args below meth c T locs cells slots) (hx : p.tables.exec = Jvm.exec) (hlk : meth.locks = false) {pc : Nat} {Ls : Array Slot} {w : Value} {t : FieldType} {rest : List Value} (hret : meth.sig.returnType = some t) (ht : t.isReference = true) (hw : w.isRef = true) (hnr : narrow t w = w)
    (hd : decode c.code pc = .ok (.areturn, 1)) (hk : cells ≤ k) (hs : slots ≤ n) (hq : Q (some w) T.heap locs) : own_Go p e below s Q k n (T.setTop (mkF m pc Ls (w :: rest))) :=
  own_ret X hx hlk hret hnr (Or.inr (Or.inr (Or.inr (Or.inr ⟨rfl, ht, hw⟩)))) hd hk hs hq
theorem own_retV {Q : Option Value → Heap → List Loc → Prop} {k n : Nat} (X : Stand p l e R s m args below meth c T locs cells slots) (hx : p.tables.exec = Jvm.exec) (hlk : meth.locks = false) {pc : Nat} {Ls : Array Slot} (hret : meth.sig.returnType = none)
    (hd : decode c.code pc = .ok (.return_, 1)) (hk : cells ≤ k) (hs : slots ≤ n) (hq : Q none T.heap locs) : own_Go p e below s Q k n (T.setTop (mkF m pc Ls [])) := by
  obtain ⟨fs, hr, hrun, hended, hW, hsame⟩ := X.leave (v := none) (fun _ => rfl) hlk
  exact ⟨_, _, X.returnOut hx hret hd hr, hrun, hended, _, _, rfl, hq, ⟨_, rfl⟩, hW, hsame.mono hk hs⟩
/-- a body's contract: handed as', at a heap h0, it ends as Q says -/
abbrev own_Met (l : Launch) (Z : State) (y : MethodName) (bytes : ByteArray) (maxL : Nat) (ret : Option FieldType) (rm : Room) (ws : List Jvm.Cond) (as' : Array Value) (h0 : Heap) (Q : Option Value → Heap → List Loc → Prop) : Prop :=
  MetFree l y (head1 (Jvm.Cond.code y bytes maxL ret :: ws) rm) (fun a U => a = as' ∧ Z.Warmed39 U.vm ∧ U.heap = h0) (fun _ _ _ _ _ => True) (fun _ U o U' => ∃ v L, o = .returned v ∧ Q v U'.heap L ∧ FrameEnd U o U' L rm.cells rm.slots)
theorem own_enter {y : MethodName} {bytes : ByteArray} {maxL : Nat} {ret : Option FieldType} {rm : Room} {ws : List Jvm.Cond} {as' : Array Value} {h0 : Heap} {Q : Option Value → Heap → List Loc → Prop} (hpl : plainFor y = true)
    (body : ∀ (p : Program) (e : Env) (s : State) (m : MethodId) (below : List Frame) (meth : Method) (c : Code) (s₁ : State), p.tables.exec = Jvm.exec → c.code = bytes → c.maxLocals = maxL → s.vm.findClass y.cls = some m.cls → meth.name = y.name → meth.locks = false → meth.sig.returnType = ret → Z.Warmed39 s.vm →
      Stand p l e rm s m as' below meth c s₁ [] 0 0 → s₁.heap = h0 → own_Go p e below s Q rm.cells rm.slots (s₁.setTop (entryFrame m as' maxL))) : own_Met l Z y bytes maxL ret rm ws as' h0 Q := by
  refine MetFree.of_bodySF hpl hisR ?_
  intro p e s m args below meth c s₁ Bd hml0 hP hK
  obtain ⟨rfl, hZ, hh⟩ := hP
  exact body p e s m below meth c s₁ Bd.exec Bd.bytes hml0 (findClass_of_methodNamed Bd.named) (name_of_methodNamed Bd.named Bd.method).1 Bd.notSynchronized Bd.returns hZ (Stand.of_body Bd) (by rw [← hh, Bd.state]; rfl)
/-- a static call by the callee's contract -/
theorem own_static {Q Q' : Option Value → Heap → List Loc → Prop} {k n : Nat} (X : Stand p l e R s m args below meth c T locs cells slots) (hx : p.tables.exec = Jvm.exec) (hZ : Z.Warmed39 s.vm) {own : String} {index : Nat} {y : MethodName} {bytes : ByteArray} {maxL : Nat} {ret : Option FieldType} {rm : Room}
    (hown : s.vm.findClass own = some m.cls) (w1 : (Cond.methodLink own index y).before a0 Z = true) (w2 : (Cond.static y).before a0 Z = true) (w3 : (Cond.initialized y.cls).before a0 Z = true) (w4 : (Cond.code y bytes maxL ret).before a0 Z = true)
    (hy : y.cls ≠ "java/lang/invoke/MethodHandle" ∧ y.cls ≠ "java/lang/invoke/VarHandle") (eT : T.heap = h) {argsL rest : List Value} (hM : own_Met l Z y bytes maxL ret rm [] argsL.toArray h Q) (W : Nat) (hf : rm.frames + 1 ≤ R.frames) (hl : W + (maxL + 11) + rm.locals ≤ R.locals) (hc : cells + rm.cells ≤ R.cells) (hsl : slots + rm.slots ≤ R.slots)
    {pc pc' : Nat} {Ls : Array Slot} {st : List Value} (hsize : Ls.size = c.maxLocals) {ps : List FieldType} {rt : Option FieldType} (hdesc : parseMethodDescriptor y.desc = some ⟨ps, rt⟩) (hlen : argsL.length = ps.length) (hst : st = argsL.reverse ++ rest) (hW : (rest.map fun v => v.category).sum ≤ W) (hd : decode c.code pc = .ok (.invokestatic index, 3)) (hpc : pc + 3 = pc')
    (go : ∀ (v : Option Value) (T' : State) (L : List Loc), Stand p l e R s m args below meth c T' (locs ++ L) (cells + rm.cells) (slots + rm.slots) → Q v T'.heap L → own_Go p e below s Q' k n (T'.setTop (mkF m pc' Ls (v.toList ++ rest)))) : own_Go p e below s Q' k n (T.setTop (mkF m pc Ls st)) := by
  subst hpc
  obtain ⟨v, _, ⟨T', L', k', n'⟩, -, X', ⟨L, hQ, hl', hk', hn'⟩, stp⟩ := Jvm.LawKit.callS X hx hown (mvT hZ w1) (mvT hZ w2) (mvT hZ w3) (mvT hZ w4) hy (backOf (W := W) hM hZ w4 w3 hf hl) (g := mkF m pc Ls st) rfl hsize (argsL := argsL) (rest := rest) (lenOf hdesc hlen) hst (by show 2 * 0 + _ ≤ _; omega) hd (fun _ _ => ⟨rfl, eT, hc, hsl⟩)
  dsimp only [Pt.U, Pt.locs, Pt.cells, Pt.slots] at X' hl' hk' hn' stp hQ
  subst hl' hk' hn'
  exact own_go stp (go v T' L X' hQ)
/-- a constructor by its contract -/
theorem own_init {Q Q' : Option Value → Heap → List Loc → Prop} {k n : Nat} (X : Stand p l e R s m args below meth c T locs cells slots) (hx : p.tables.exec = Jvm.exec) (hZ : Z.Warmed39 s.vm) {own : String} {index : Nat} {y : MethodName} {bytes : ByteArray} {maxL : Nat} {rm : Room} (hyi : y.name = "<init>")
    (hown : s.vm.findClass own = some m.cls) (w1 : (Cond.methodLink own index y).before a0 Z = true) (w2 : (Cond.instanceMethod y).before a0 Z = true) (w3 : (Cond.initialized y.cls).before a0 Z = true) (w4 : (Cond.code y bytes maxL none).before a0 Z = true)
    (hy : y.cls ≠ "java/lang/invoke/MethodHandle" ∧ y.cls ≠ "java/lang/invoke/VarHandle") (eT : T.heap = h) {a : Addr} {argsL rest : List Value} (hM : own_Met l Z y bytes maxL none rm [] (.ref a :: argsL).toArray h Q) (W : Nat) (hf : rm.frames + 1 ≤ R.frames) (hl : W + (maxL + 11) + rm.locals ≤ R.locals) (hc : cells + rm.cells ≤ R.cells) (hsl : slots + rm.slots ≤ R.slots)
    {pc pc' : Nat} {Ls : Array Slot} {st : List Value} (hsize : Ls.size = c.maxLocals) {ps : List FieldType} {rt : Option FieldType} (hdesc : parseMethodDescriptor y.desc = some ⟨ps, rt⟩) (hlen : argsL.length = ps.length) (hst : st = argsL.reverse ++ .ref a :: rest) (hW : (rest.map fun v => v.category).sum ≤ W) (hd : decode c.code pc = .ok (.invokespecial index, 3)) (hpc : pc + 3 = pc')
    (go : ∀ (v : Option Value) (T' : State) (L : List Loc), Stand p l e R s m args below meth c T' (locs ++ L) (cells + rm.cells) (slots + rm.slots) → Q v T'.heap L → own_Go p e below s Q' k n (T'.setTop (mkF m pc' Ls (v.toList ++ rest)))) : own_Go p e below s Q' k n (T.setTop (mkF m pc Ls st)) := by
  subst hpc
  obtain ⟨v, _, ⟨T', L', k', n'⟩, -, X', ⟨L, hQ, hl', hk', hn'⟩, stp⟩ := X.specialBack hx hyi hown (mvT hZ w1) (mvT hZ w2) (mvT hZ w4) hy (backOf (W := W) hM hZ w4 w3 hf hl) (g := mkF m pc Ls st) rfl hsize (Steps.refl _) (a := a) (argsL := argsL) (rest := rest) (lenOf hdesc hlen) hst (by show 2 * 0 + _ ≤ _; omega) hd (fun _ _ => ⟨rfl, eT, hc, hsl⟩)
  dsimp only [Pt.U, Pt.locs, Pt.cells, Pt.slots] at X' hl' hk' hn' stp hQ
  subst hl' hk' hn'
  exact own_go (fun _ q => stp.trans q) (go v T' L X' hQ)
/-- an instance method by its contract: the receiver is exactly of the class C, which selects z -/
theorem own_virtual {Q Q' : Option Value → Heap → List Loc → Prop} {k n : Nat} (X : Stand p l e R s m args below meth c T locs cells slots) (hx : p.tables.exec = Jvm.exec) (hZ : Z.Warmed39 s.vm) {own C : String} {index : Nat} {y : MethodName} {bytes : ByteArray} {maxL : Nat} {ret : Option FieldType} {rm : Room}
    (hown : s.vm.findClass own = some m.cls) (w1 : (Cond.methodLink own index y).before a0 Z = true) (w2 : (Cond.declares y).before a0 Z = true) (w3 : (Cond.selects C y y).before a0 Z = true) (w5 : (Cond.instanceMethod y).before a0 Z = true) (w6 : (Cond.initialized y.cls).before a0 Z = true) (w4 : (Cond.code y bytes maxL ret).before a0 Z = true)
    (hy : y.cls ≠ "java/lang/invoke/MethodHandle" ∧ y.cls ≠ "java/lang/invoke/VarHandle") (eT : T.heap = h) {a : Addr} (E : Exa Z h a C) {argsL rest : List Value} (hM : own_Met l Z y bytes maxL ret rm [] (.ref a :: argsL).toArray h Q) (W : Nat) (hf : rm.frames + 1 ≤ R.frames) (hl : W + (maxL + 11) + rm.locals ≤ R.locals) (hc : cells + rm.cells ≤ R.cells) (hsl : slots + rm.slots ≤ R.slots)
    {pc pc' : Nat} {Ls : Array Slot} {st : List Value} (hsize : Ls.size = c.maxLocals) {ps : List FieldType} {rt : Option FieldType} (hdesc : parseMethodDescriptor y.desc = some ⟨ps, rt⟩) (hlen : argsL.length = ps.length) (hst : st = argsL.reverse ++ .ref a :: rest) (hW : (rest.map fun v => v.category).sum ≤ W) (hd : decode c.code pc = .ok (.invokevirtual index, 3)) (hpc : pc + 3 = pc')
    (go : ∀ (v : Option Value) (T' : State) (L : List Loc), Stand p l e R s m args below meth c T' (locs ++ L) (cells + rm.cells) (slots + rm.slots) → Q v T'.heap L → own_Go p e below s Q' k n (T'.setTop (mkF m pc' Ls (v.toList ++ rest)))) : own_Go p e below s Q' k n (T.setTop (mkF m pc Ls st)) := by
  subst hpc
  obtain ⟨cq, kq, qa, qb, qc⟩ := isOf hZ eT E
  obtain ⟨v, _, ⟨T', L', k', n'⟩, -, X', ⟨L, hQ, hl', hk', hn'⟩, stp⟩ := X.virtualBack hx (z := y) hown (mvT hZ w1) (mvT hZ w2) (notFace_of_selects (args := #[]) (mvT hZ w3)) (mvT hZ w3) (mvT hZ w5) hy (backOf (W := W) hM hZ w4 w6 hf hl) qa qc (g := mkF m pc Ls st) rfl hsize (Steps.refl _) (argsL := argsL) (rest := rest) (lenOf hdesc hlen) hst (by show 2 * 0 + _ ≤ _; omega) hd (fun _ _ => ⟨rfl, eT, hc, hsl⟩)
  dsimp only [Pt.U, Pt.locs, Pt.cells, Pt.slots] at X' hl' hk' hn' stp hQ
  subst hl' hk' hn'
  exact own_go (fun _ q => stp.trans q) (go v T' L X' hQ)
/-- an array of n places that hold F 0, F 1 .. -/
def own_Ar (Z : State) (h : Heap) (a : Addr) (ty : FieldType) (n : Nat) (F : Nat → Value) : Prop := n < 2 ^ 31 ∧ ∃ c : Cell, Arr Z h a c ty ∧ c.slots.size = n ∧ ∀ j, j < n → c.slots[j]? = some (F j)
section ArFacts
variable {a b : Addr} {ty : FieldType} {F G : Nat → Value} {nn : Nat} {sl : Nat} {v : Value} {ws : List Addr}
theorem own_Ar.lt (A : own_Ar Z h a ty nn F) : a < h.size := by obtain ⟨-, c, A, -⟩ := A; exact A.lt
theorem own_Ar.ext (A : own_Ar Z h a ty nn F) (E : Ext h h') : own_Ar Z h' a ty nn F := by obtain ⟨q, c, A, r⟩ := A; exact ⟨q, c, A.ext E, r⟩
theorem own_Ar.other (A : own_Ar Z h a ty nn F) (W : Wr h h' b sl v) (q : a ≠ b) : own_Ar Z h' a ty nn F := by obtain ⟨q0, c, A, r⟩ := A; exact ⟨q0, c, A.other W q, r⟩
theorem own_Ar.keep (A : own_Ar Z h a ty nn F) (K : Keep h h' ws) (q : a ∉ ws) : own_Ar Z h' a ty nn F := by obtain ⟨q0, c, A, r⟩ := A; exact ⟨q0, c, ⟨K.2.1 a c A.1 q, A.2⟩, r⟩
theorem own_Ar.eqv (A : own_Ar Z h a ty nn F) (q : ∀ j, j < nn → F j = G j) : own_Ar Z h a ty nn G := by obtain ⟨q0, c, A, r, r2⟩ := A; exact ⟨q0, c, A, r, fun j hj => by rw [r2 j hj, q j hj]⟩
theorem own_Ar.set (A : own_Ar Z h a ty nn F) (W : Wr h h' a sl v) : own_Ar Z h' a ty nn (fun j => if j = sl then v else F j) := by
  obtain ⟨q0, c, A, r, r2⟩ := A
  refine ⟨q0, _, A.same W, by rw [sz_set]; exact r, fun j hj => ?_⟩
  by_cases q : j = sl
  · subst q
    simp [Cell.setSlot, r, hj]
  · have q' : sl ≠ j := fun x => q x.symm
    simp only [if_neg q]
    rw [← r2 j hj]
    simp [Cell.setSlot, Array.getElem?_setIfInBounds, q']
theorem own_Ar.new {k : ClassId} {z : Int32} (A : Arr Z h a (newA k ty z) ty) (q : ¬ z < 0) (hz : z.toNatClampNeg = nn) : own_Ar Z h a ty nn (fun _ => defaultValue ty) := by
  subst hz
  refine ⟨(back32 q).2, _, A, sz_new _ _ _, fun j hj => ?_⟩
  simp [newA, hj]
end ArFacts
theorem own_inb {c : Cell} {n i : Nat} {z : Int32} (hs : c.slots.size = n) (hz : z.toInt = (i : Int)) (hi : i < n) : ¬ (z < 0 ∨ c.slots.size ≤ z.toNatClampNeg) ∧ z.toNatClampNeg = i := by
  have h1 : z.toNatClampNeg = i := by rw [Int32.toNatClampNeg, hz]; rfl
  refine ⟨?_, h1⟩
  rintro (q | q)
  · rw [Int32.lt_iff_toInt_lt, hz] at q
    have : (0 : Int32).toInt = 0 := rfl
    omega
  · rw [h1, hs] at q
    omega
theorem own_lt {x y : Int32} (q : x.toInt < y.toInt) : x < y := Int32.lt_iff_toInt_lt.mpr q
theorem own_nlt {x y : Int32} (q : y.toInt ≤ x.toInt) : ¬ x < y := fun r => by rw [Int32.lt_iff_toInt_lt] at r; omega
theorem own_ltI {x y : Int32} (q : x < y) : x.toInt < y.toInt := Int32.lt_iff_toInt_lt.mp q
theorem own_nltI {x y : Int32} (q : ¬ x < y) : y.toInt ≤ x.toInt := by rw [Int32.lt_iff_toInt_lt] at q; omega
theorem own_eq {x y : Int32} (q : x.toInt = y.toInt) : x = y := Int32.toInt_inj.mp q
theorem own_ne {x y : Int32} (q : x.toInt ≠ y.toInt) : ¬ x = y := fun r => q (by rw [r])
theorem own_neI {x y : Int32} (q : ¬ x = y) : x.toInt ≠ y.toInt := fun r => q (own_eq r)
/-- the read of an int out of an array -/
theorem own_iaload {Q : Option Value → Heap → List Loc → Prop} {k n : Nat} (X : Stand p l e R s m args below meth c T locs cells slots) (hx : p.tables.exec = Jvm.exec) (hZ : Z.Warmed39 s.vm) (eT : T.heap = h) {a : Addr} {nn i : Nat} {F : Nat → Value} {x z : Int32} (A : own_Ar Z h a .int nn F) (hz : z.toInt = (i : Int)) (hi : i < nn) (hF : F i = .int x)
    {pc pc' : Nat} {Ls : Array Slot} {rest : List Value} (hd : decode c.code pc = .ok (.iaload, 1)) (hpc : pc + 1 = pc') (go : own_Go p e below s Q k n (T.setTop (mkF m pc' Ls (.int x :: rest)))) : own_Go p e below s Q k n (T.setTop (mkF m pc Ls (.int z :: .ref a :: rest))) := by
  subst hpc
  obtain ⟨-, c, A, r, r2⟩ := A
  obtain ⟨q1, q2⟩ := own_inb r hz hi
  exact own_go (X.iaload hx (j := z) (v := .int x) (by rw [eT]; exact A.1) (State.isArrayOf_alike hZ.alike A.2.1) A.2.2 q1 (by rw [q2, r2 i hi, hF]) (g := mkF m pc Ls (.int z :: .ref a :: rest)) rfl rfl hd) go
theorem own_laload {Q : Option Value → Heap → List Loc → Prop} {k n : Nat} (X : Stand p l e R s m args below meth c T locs cells slots) (hx : p.tables.exec = Jvm.exec) (hZ : Z.Warmed39 s.vm) (eT : T.heap = h) {a : Addr} {nn i : Nat} {F : Nat → Value} {x : Int64} {z : Int32} (A : own_Ar Z h a .long nn F) (hz : z.toInt = (i : Int)) (hi : i < nn) (hF : F i = .long x)
    {pc pc' : Nat} {Ls : Array Slot} {rest : List Value} (hd : decode c.code pc = .ok (.laload, 1)) (hpc : pc + 1 = pc') (go : own_Go p e below s Q k n (T.setTop (mkF m pc' Ls (.long x :: rest)))) : own_Go p e below s Q k n (T.setTop (mkF m pc Ls (.int z :: .ref a :: rest))) := by
  subst hpc
  obtain ⟨-, c, A, r, r2⟩ := A
  obtain ⟨q1, q2⟩ := own_inb r hz hi
  exact own_go (X.laload hx (j := z) (v := .long x) (by rw [eT]; exact A.1) (State.isArrayOf_alike hZ.alike A.2.1) A.2.2 q1 (by rw [q2, r2 i hi, hF]) (g := mkF m pc Ls (.int z :: .ref a :: rest)) rfl rfl hd) go
theorem own_iastore {Q : Option Value → Heap → List Loc → Prop} {k n : Nat} (X : Stand p l e R s m args below meth c T locs cells slots) (hx : p.tables.exec = Jvm.exec) (hZ : Z.Warmed39 s.vm) (eT : T.heap = h) {a : Addr} {nn i : Nat} {F : Nat → Value} {x z : Int32} (A : own_Ar Z h a .int nn F) (hz : z.toInt = (i : Int)) (hi : i < nn)
    {pc pc' : Nat} {Ls : Array Slot} {rest : List Value} (hd : decode c.code pc = .ok (.iastore, 1)) (hpc : pc + 1 = pc') (go : ∀ T' h', Stand p l e R s m args below meth c T' (locs ++ [⟨a, i⟩]) cells slots → T'.heap = h' → Wr h h' a i (.int x) → own_Ar Z h' a .int nn (fun j => if j = i then .int x else F j) → own_Go p e below s Q k n (T'.setTop (mkF m pc' Ls rest))) : own_Go p e below s Q k n (T.setTop (mkF m pc Ls (.int x :: .int z :: .ref a :: rest))) := by
  subst hpc
  have A' := A
  obtain ⟨-, c, A, r, r2⟩ := A
  obtain ⟨q1, q2⟩ := own_inb r hz hi
  obtain ⟨T', h', X', e', W', st⟩ := stI X hx hZ eT A (j := z) (x := x) q1 (g := mkF m pc Ls (.int x :: .int z :: .ref a :: rest)) rfl rfl hd
  rw [q2] at X' W'
  exact own_go st (go T' h' X' e' W' (A'.set W'))
theorem own_lastore {Q : Option Value → Heap → List Loc → Prop} {k n : Nat} (X : Stand p l e R s m args below meth c T locs cells slots) (hx : p.tables.exec = Jvm.exec) (hZ : Z.Warmed39 s.vm) (eT : T.heap = h) {a : Addr} {nn i : Nat} {F : Nat → Value} {x : Int64} {z : Int32} (A : own_Ar Z h a .long nn F) (hz : z.toInt = (i : Int)) (hi : i < nn)
    {pc pc' : Nat} {Ls : Array Slot} {rest : List Value} (hd : decode c.code pc = .ok (.lastore, 1)) (hpc : pc + 1 = pc') (go : ∀ T' h', Stand p l e R s m args below meth c T' (locs ++ [⟨a, i⟩]) cells slots → T'.heap = h' → Wr h h' a i (.long x) → own_Ar Z h' a .long nn (fun j => if j = i then .long x else F j) → own_Go p e below s Q k n (T'.setTop (mkF m pc' Ls rest))) : own_Go p e below s Q k n (T.setTop (mkF m pc Ls (.long x :: .int z :: .ref a :: rest))) := by
  subst hpc
  have A' := A
  obtain ⟨-, c, A, r, r2⟩ := A
  obtain ⟨q1, q2⟩ := own_inb r hz hi
  obtain ⟨T', h', X', e', W', st⟩ := stJ X hx hZ eT A (j := z) (x := x) q1 (g := mkF m pc Ls (.long x :: .int z :: .ref a :: rest)) rfl rfl hd
  rw [q2] at X' W'
  exact own_go st (go T' h' X' e' W' (A'.set W'))
theorem own_length {Q : Option Value → Heap → List Loc → Prop} {k n : Nat} (X : Stand p l e R s m args below meth c T locs cells slots) (hx : p.tables.exec = Jvm.exec) (hZ : Z.Warmed39 s.vm) (eT : T.heap = h) {a : Addr} {nn : Nat} {ty : FieldType} {F : Nat → Value} {z : Int32} (A : own_Ar Z h a ty nn F) (hz : z.toInt = (nn : Int))
    {pc pc' : Nat} {Ls : Array Slot} {rest : List Value} (hd : decode c.code pc = .ok (.arraylength, 1)) (hpc : pc + 1 = pc') (go : own_Go p e below s Q k n (T.setTop (mkF m pc' Ls (.int z :: rest)))) : own_Go p e below s Q k n (T.setTop (mkF m pc Ls (.ref a :: rest))) := by
  subst hpc
  obtain ⟨q, c, A, r, r2⟩ := A
  have hz' : c.slots.size.toInt32 = z := own_eq (by rw [r, hz]; exact len_toInt q)
  subst hz'
  exact own_go (X.arraylength hx (by rw [eT]; exact A.1) (State.isArrayOf_alike hZ.alike A.2.1) (g := mkF m pc Ls (.ref a :: rest)) rfl rfl hd) go
end OwnKit
theorem pd_0 : parseMethodDescriptor "()V" = some ⟨[], none⟩ := by decide +kernel
theorem pd_1 : parseMethodDescriptor "(DDDD)V" = some ⟨[.double, .double, .double, .double], none⟩ := by decide +kernel
theorem pd_2 : parseMethodDescriptor "()D" = some ⟨[], some .double⟩ := by decide +kernel
section OwnDbl
variable {p : Program} {l : Launch} {e : Env} {R : Room} {s : State} {m : MethodId} {args : Array Value} {below : List Frame} {meth : Method} {c : Code} {T : State} {locs : List Loc} {cells slots : Nat} {Z : State} {a0 : Array Value} {h h' : Heap}
theorem own_dstore (X : Stand p l e R s m args below meth c T locs cells slots) (hx : p.tables.exec = Jvm.exec) {g : JFrame} (hg : g.method = m) {k : Nat} {x : UInt64} {rest : List Value} {l' : Array Slot} (hd : decode c.code g.pc = .ok (.dstore k, 2)) (hs : g.stack = .double x :: rest) (hl : storeLocals g.locals k (.double x) = some l') :
    ∀ target, Steps p.tables e below (T.setTop { g with pc := g.pc + 2, stack := rest, locals := l' }) target → Steps p.tables e below (T.setTop g) target := fun target hr => by
  subst hg
  jvm_step X.here [X.here.top, hx, hd, hs, hl]
  exact hr
theorem own_dstoreN (X : Stand p l e R s m args below meth c T locs cells slots) (hx : p.tables.exec = Jvm.exec) {g : JFrame} (hg : g.method = m) {k : Fin 4} {x : UInt64} {rest : List Value} {l' : Array Slot} (hd : decode c.code g.pc = .ok (.dstore_n k, 1)) (hs : g.stack = .double x :: rest) (hl : storeLocals g.locals k.val (.double x) = some l') :
    ∀ target, Steps p.tables e below (T.setTop { g with pc := g.pc + 1, stack := rest, locals := l' }) target → Steps p.tables e below (T.setTop g) target := fun target hr => by
  subst hg
  jvm_step X.here [X.here.top, hx, hd, hs, hl]
  exact hr
theorem own_dconst0 (X : Stand p l e R s m args below meth c T locs cells slots) (hx : p.tables.exec = Jvm.exec) {g : JFrame} (hg : g.method = m) (hd : decode c.code g.pc = .ok (.dconst 0, 1)) :
    ∀ target, Steps p.tables e below (T.setTop { g with pc := g.pc + 1, stack := .double FP.dconst0 :: g.stack }) target → Steps p.tables e below (T.setTop g) target := fun target hr => by
  subst hg
  jvm_step X.here [X.here.top, hx, hd]
  exact hr
theorem own_dconst1 (X : Stand p l e R s m args below meth c T locs cells slots) (hx : p.tables.exec = Jvm.exec) {g : JFrame} (hg : g.method = m) (hd : decode c.code g.pc = .ok (.dconst 1, 1)) :
    ∀ target, Steps p.tables e below (T.setTop { g with pc := g.pc + 1, stack := .double FP.dconst1 :: g.stack }) target → Steps p.tables e below (T.setTop g) target := fun target hr => by
  subst hg
  jvm_step X.here [X.here.top, hx, hd]
  exact hr
theorem own_i2d (X : Stand p l e R s m args below meth c T locs cells slots) (hx : p.tables.exec = Jvm.exec) {g : JFrame} (hg : g.method = m) {x : Int32} {rest : List Value} (hd : decode c.code g.pc = .ok (.i2d, 1)) (hs : g.stack = .int x :: rest) :
    ∀ target, Steps p.tables e below (T.setTop { g with pc := g.pc + 1, stack := .double (FP.i2d x) :: rest }) target → Steps p.tables e below (T.setTop g) target := fun target hr => by
  subst hg
  jvm_step X.here [X.here.top, hx, hd, hs]
  exact hr
theorem own_l2d (X : Stand p l e R s m args below meth c T locs cells slots) (hx : p.tables.exec = Jvm.exec) {g : JFrame} (hg : g.method = m) {x : Int64} {rest : List Value} (hd : decode c.code g.pc = .ok (.l2d, 1)) (hs : g.stack = .long x :: rest) :
    ∀ target, Steps p.tables e below (T.setTop { g with pc := g.pc + 1, stack := .double (FP.l2d x) :: rest }) target → Steps p.tables e below (T.setTop g) target := fun target hr => by
  subst hg
  jvm_step X.here [X.here.top, hx, hd, hs]
  exact hr
theorem own_dneg (X : Stand p l e R s m args below meth c T locs cells slots) (hx : p.tables.exec = Jvm.exec) {g : JFrame} (hg : g.method = m) {x : UInt64} {rest : List Value} (hd : decode c.code g.pc = .ok (.dneg, 1)) (hs : g.stack = .double x :: rest) :
    ∀ target, Steps p.tables e below (T.setTop { g with pc := g.pc + 1, stack := .double (FP.dneg x) :: rest }) target → Steps p.tables e below (T.setTop g) target := fun target hr => by
  subst hg
  jvm_step X.here [X.here.top, hx, hd, hs]
  exact hr
theorem own_dmul (X : Stand p l e R s m args below meth c T locs cells slots) (hx : p.tables.exec = Jvm.exec) {g : JFrame} (hg : g.method = m) {x y : UInt64} {rest : List Value} (hd : decode c.code g.pc = .ok (.dmul, 1)) (hs : g.stack = .double y :: .double x :: rest) (hr : FP.dmul x y &&& 0x7fffffffffffffff ≤ 0x7ff0000000000000) :
    ∀ target, Steps p.tables e below (T.setTop { g with pc := g.pc + 1, stack := .double (FP.dmul x y) :: rest }) target → Steps p.tables e below (T.setTop g) target := fun target hrest => by
  subst hg
  jvm_step X.here [hx, hd, Op.dmul.wp_number (e := e) (s := T) (f := g) X.here.top hs hr]
  exact hrest
theorem own_dadd (X : Stand p l e R s m args below meth c T locs cells slots) (hx : p.tables.exec = Jvm.exec) {g : JFrame} (hg : g.method = m) {x y : UInt64} {rest : List Value} (hd : decode c.code g.pc = .ok (.dadd, 1)) (hs : g.stack = .double y :: .double x :: rest) (hr : FP.dadd x y &&& 0x7fffffffffffffff ≤ 0x7ff0000000000000) :
    ∀ target, Steps p.tables e below (T.setTop { g with pc := g.pc + 1, stack := .double (FP.dadd x y) :: rest }) target → Steps p.tables e below (T.setTop g) target := fun target hrest => by
  subst hg
  jvm_step X.here [hx, hd, Op.dadd.wp_number (e := e) (s := T) (f := g) X.here.top hs hr]
  exact hrest
theorem own_ddiv (X : Stand p l e R s m args below meth c T locs cells slots) (hx : p.tables.exec = Jvm.exec) {g : JFrame} (hg : g.method = m) {x y : UInt64} {rest : List Value} (hd : decode c.code g.pc = .ok (.ddiv, 1)) (hs : g.stack = .double y :: .double x :: rest) (hr : FP.ddiv x y &&& 0x7fffffffffffffff ≤ 0x7ff0000000000000) :
    ∀ target, Steps p.tables e below (T.setTop { g with pc := g.pc + 1, stack := .double (FP.ddiv x y) :: rest }) target → Steps p.tables e below (T.setTop g) target := fun target hrest => by
  subst hg
  jvm_step X.here [hx, hd, Op.ddiv.wp_number (e := e) (s := T) (f := g) X.here.top hs hr]
  exact hrest
def own_oi : Ordering → Int32
  | .lt => -1
  | .eq => 0
  | .gt => 1
theorem own_dcmp (X : Stand p l e R s m args below meth c T locs cells slots) (hx : p.tables.exec = Jvm.exec) {g : JFrame} (hg : g.method = m) {op : CmpOp} {x y : UInt64} {o : Ordering} {rest : List Value} (hc : FP.dcmp x y = some o) (hd : decode c.code g.pc = .ok (.dcmp op, 1)) (hs : g.stack = .double y :: .double x :: rest) :
    ∀ target, Steps p.tables e below (T.setTop { g with pc := g.pc + 1, stack := .int (own_oi o) :: rest }) target → Steps p.tables e below (T.setTop g) target := fun target hrest => by
  subst hg
  cases o <;>
  · jvm_step X.here [X.here.top, hx, hd, hs, hc]
    exact hrest
theorem own_retD {Q : Option Value → Heap → List Loc → Prop} {k n : Nat} (X : Stand p l e R s m args below meth c T locs cells slots) (hx : p.tables.exec = Jvm.exec) (hlk : meth.locks = false) {pc : Nat} {Ls : Array Slot} {z : UInt64} {rest : List Value} (hret : meth.sig.returnType = some .double)
    (hd : decode c.code pc = .ok (.dreturn, 1)) (hk : cells ≤ k) (hs : slots ≤ n) (hq : Q (some (.double z)) T.heap locs) : own_Go p e below s Q k n (T.setTop (mkF m pc Ls (.double z :: rest))) :=
  own_ret X hx hlk hret rfl (Or.inr (Or.inr (Or.inl ⟨rfl, rfl, z, rfl⟩))) hd hk hs hq
end OwnDbl
section OwnFP
open Jvm.FP.Core
/-- x is the double m / 2, exactly, m a natural -/
def own_H (x : UInt64) (m : Nat) : Prop := ∃ c q, val64 x = .fin false c q ∧ inUnits c q b64.qmin = m * 2 ^ 1073
theorem own_qm : b64.qmin = -1074 := by decide
theorem own_ac1 (c d P Q : Nat) : c * d * (P * Q) = (c * P) * (d * Q) := by ac_rfl
theorem own_ac2 (a P Q : Nat) : (2 * a) * (P * Q) = a * (2 * (P * Q)) := by ac_rfl
theorem own_ac3 (c m P Q : Nat) : ((c * m) * P) * Q = (c * P) * (m * Q) := by ac_rfl
theorem own_ac4 (m d P Q : Nat) : (m * Q) * (d * P) = ((m * d) * P) * Q := by ac_rfl
theorem own_cut {a b n k : Nat} (h : a * 2 ^ (n + k) = b * 2 ^ k) : a * 2 ^ n = b := by
  rw [Nat.pow_add, ← Nat.mul_assoc] at h
  exact Nat.eq_of_mul_eq_mul_right (Nat.two_pow_pos k) h
/-- c * 2^q = m * 2^e, said at the units 2^u -/
theorem own_cross {c m : Nat} {q e : Int} {u : Int} (hq : u ≤ q) (he : u ≤ e) (h : c * 2 ^ (q - u).toNat = m * 2 ^ (e - u).toNat) : c * 2 ^ (q - e).toNat = m * 2 ^ (e - q).toNat := by
  by_cases k : e ≤ q
  · have h1 : (q - u).toNat = (q - e).toNat + (e - u).toNat := by omega
    have h2 : (e - q).toNat = 0 := by omega
    rw [h1] at h
    rw [h2, Nat.pow_zero, Nat.mul_one]
    exact own_cut h
  · have h1 : (e - u).toNat = (e - q).toNat + (q - u).toNat := by omega
    have h2 : (q - e).toNat = 0 := by omega
    rw [h1] at h
    rw [h2, Nat.pow_zero, Nat.mul_one]
    exact (own_cut h.symm).symm
/-- a rounding that is exact: the value m / 2 -/
theorem own_exact {d : Datum} {m : Nat} (hm : m < 2 ^ 53) (h : d = roundRatio b64 false m 1 (-1)) : ∃ c q, d = .fin false c q ∧ inUnits c q b64.qmin = m * 2 ^ 1073 := by
  obtain ⟨c, q, h1, h2⟩ := round_exact good_b64 false (c := m) (q := -1) (by exact hm) (by decide) (by decide)
  refine ⟨c, q, h.trans h1, h2.trans ?_⟩
  show m * 2 ^ ((-1 : Int) - b64.qmin).toNat = _
  rw [own_qm]; rfl
theorem own_H_int {v : UInt64} {i : Int} {n : Nat} (hv : val64 v = round b64 (ofInt i)) (hi : i = (n : Int)) (hn : 2 * n < 2 ^ 53) : own_H v (2 * n) := by
  refine own_exact hn (hv.trans ?_)
  subst hi
  show roundRatio b64 (decide ((n : Int) < 0)) (n : Int).natAbs 1 0 = _
  have e1 : decide ((n : Int) < 0) = false := decide_eq_false (by omega)
  rw [e1]
  refine roundRatio_congr (by decide) (by decide) ?_
  show n * 1 * 2 ^ 1 = 2 * n * 1 * 2 ^ 0
  omega
theorem own_H_fits {x : UInt64} {c : Nat} {q : Int} (h : val64 x = .fin false c q) : b64.qmin ≤ q := by
  have := val64_fits x
  rw [h] at this
  exact this.2.1
theorem own_H_mul {x y : UInt64} {m1 m2 m3 : Nat} (hx : own_H x m1) (hy : own_H y m2) (hm : m1 * m2 = 2 * m3) (h3 : m3 < 2 ^ 53) : own_H (dmul x y) m3 := by
  obtain ⟨c, q, ex, ux⟩ := hx
  obtain ⟨d, r, ey, uy⟩ := hy
  have hq := own_H_fits ex
  have hr := own_H_fits ey
  refine own_exact h3 ?_
  rw [val64_dmul, ex, ey]
  show roundRatio b64 (false != false) (c * d) 1 (q + r) = _
  refine roundRatio_congr (by decide) (by decide) ?_
  rw [Nat.mul_one, Nat.mul_one]
  rw [own_qm] at hq hr ux uy
  refine own_cross (u := -2148) (by omega) (by omega) ?_
  have ux' : c * 2 ^ (q - -1074).toNat = m1 * 2 ^ 1073 := ux
  have uy' : d * 2 ^ (r - -1074).toNat = m2 * 2 ^ 1073 := uy
  have e1 : (q + r - -2148).toNat = (q - -1074).toNat + (r - -1074).toNat := by omega
  have e2 : ((-1 : Int) - -2148).toNat = 1 + (1073 + 1073) := by decide
  rw [e1, e2, Nat.pow_add, Nat.pow_add, Nat.pow_add]
  calc c * d * (2 ^ (q - -1074).toNat * 2 ^ (r - -1074).toNat) = (c * 2 ^ (q - -1074).toNat) * (d * 2 ^ (r - -1074).toNat) := own_ac1 _ _ _ _
    _ = (m1 * 2 ^ 1073) * (m2 * 2 ^ 1073) := by rw [ux', uy']
    _ = (m1 * m2) * (2 ^ 1073 * 2 ^ 1073) := (own_ac1 _ _ _ _).symm
    _ = (2 * m3) * (2 ^ 1073 * 2 ^ 1073) := by rw [hm]
    _ = m3 * (2 ^ 1 * (2 ^ 1073 * 2 ^ 1073)) := by rw [Nat.pow_one]; exact own_ac2 _ _ _
theorem own_H_add {x y : UInt64} {m1 m2 : Nat} (hx : own_H x m1) (hy : own_H y m2) (h3 : m1 + m2 < 2 ^ 53) : own_H (dadd x y) (m1 + m2) := by
  obtain ⟨c, q, ex, ux⟩ := hx
  obtain ⟨d, r, ey, uy⟩ := hy
  have hq := own_H_fits ex
  have hr := own_H_fits ey
  refine own_exact h3 ?_
  rw [val64_dadd, ex, ey]
  obtain ⟨w, hw⟩ : ∃ w, w = min q r := ⟨_, rfl⟩
  have hwq : w ≤ q := by omega
  have hwr : w ≤ r := by omega
  have e0 : sumUnits false c q false d r w = ((inUnits c q w + inUnits d r w : Nat) : Int) := by
    show ((inUnits c q w : Nat) : Int) + ((inUnits d r w : Nat) : Int) = _
    omega
  show roundRatio b64 (sumSign false false (sumUnits false c q false d r (min q r))) (sumUnits false c q false d r (min q r)).natAbs 1 (min q r) = _
  rw [← hw, e0]
  have e1 : sumSign false false ((inUnits c q w + inUnits d r w : Nat) : Int) = false := by
    unfold sumSign
    split
    · rfl
    · exact decide_eq_false (by omega)
  rw [e1, Int.natAbs_natCast]
  refine roundRatio_congr (by decide) (by decide) ?_
  rw [Nat.mul_one, Nat.mul_one]
  rw [own_qm] at hq hr ux uy
  refine own_cross (u := -1074) (by omega) (by omega) ?_
  have m1' := inUnits_move c (q := q) (r := w) (e := -1074) (by omega) hwq
  have m2' := inUnits_move d (q := r) (r := w) (e := -1074) (by omega) hwr
  rw [Nat.add_mul, ← m1', ← m2', ux, uy, ← Nat.add_mul]
  rfl
/-- the quotient of two such numbers, as a rounding of the naturals' ratio -/
theorem own_H_div {x y : UInt64} {m1 m2 : Nat} (hx : own_H x m1) (hy : own_H y m2) (h0 : 0 < m2) : val64 (ddiv x y) = roundRatio b64 false m1 m2 0 := by
  obtain ⟨c, q, ex, ux⟩ := hx
  obtain ⟨d, r, ey, uy⟩ := hy
  have hq := own_H_fits ex
  have hr := own_H_fits ey
  rw [val64_ddiv, ex, ey]
  rw [own_qm] at hq hr ux uy
  have ux' : c * 2 ^ (q - -1074).toNat = m1 * 2 ^ 1073 := ux
  have uy' : d * 2 ^ (r - -1074).toNat = m2 * 2 ^ 1073 := uy
  have hd : d ≠ 0 := by
    intro z
    subst z
    have : 0 < m2 * 2 ^ 1073 := Nat.mul_pos h0 (Nat.two_pow_pos _)
    omega
  show (if d = 0 then (if c = 0 then Datum.nan else .inf (false != false)) else roundRatio b64 (false != false) c d (q - r)) = _
  rw [if_neg hd]
  refine roundRatio_congr (by omega) h0 ?_
  have k : (c * m2) * 2 ^ (q - -1074).toNat = (m1 * d) * 2 ^ (r - -1074).toNat := by
    have : (c * 2 ^ (q - -1074).toNat) * (m2 * 2 ^ 1073) = (m1 * 2 ^ 1073) * (d * 2 ^ (r - -1074).toNat) := by rw [ux', uy']
    have h2 : ((c * m2) * 2 ^ (q - -1074).toNat) * 2 ^ 1073 = ((m1 * d) * 2 ^ (r - -1074).toNat) * 2 ^ 1073 := by
      calc ((c * m2) * 2 ^ (q - -1074).toNat) * 2 ^ 1073 = (c * 2 ^ (q - -1074).toNat) * (m2 * 2 ^ 1073) := own_ac3 _ _ _ _
        _ = (m1 * 2 ^ 1073) * (d * 2 ^ (r - -1074).toNat) := this
        _ = ((m1 * d) * 2 ^ (r - -1074).toNat) * 2 ^ 1073 := own_ac4 _ _ _ _
    exact Nat.eq_of_mul_eq_mul_right (Nat.two_pow_pos _) h2
  have z := own_cross hq hr k
  rw [Int.sub_zero, Int.zero_sub, Int.neg_sub]
  exact z
theorem own_H_nn {x : UInt64} {m : Nat} (h : own_H x m) : val64 x ≠ .nan := by
  obtain ⟨c, q, e, -⟩ := h
  rw [e]; exact fun z => by cases z
theorem own_num {x : UInt64} (h : val64 x ≠ .nan) : x &&& 0x7fffffffffffffff ≤ 0x7ff0000000000000 := by
  have h1 := (ne_nan x).mp h
  rw [UInt64.le_iff_toNat_le, UInt64.toNat_and]
  show x.toNat &&& (2 ^ 63 - 1) ≤ _
  rw [Nat.and_two_pow_sub_one_eq_mod]
  exact h1
theorem own_H_cmp {x y : UInt64} {m1 m2 : Nat} (hx : own_H x m1) (hy : own_H y m2) : dcmp x y = some (compare (m1 : Int) (m2 : Int)) := by
  have fx := val64_fits x
  have fy := val64_fits y
  have nx := own_H_nn hx
  have ny := own_H_nn hy
  show order (val64 x) (val64 y) = _
  rw [order_zval good_b64 fx fy nx ny]
  obtain ⟨c, q, ex, ux⟩ := hx
  obtain ⟨d, r, ey, uy⟩ := hy
  rw [ex, ey]
  show some (compare ((inUnits c q b64.qmin : Nat) : Int) ((inUnits d r b64.qmin : Nat) : Int)) = _
  rw [ux, uy]
  refine congrArg some (compare_congr ?_ ?_)
  · have := Nat.two_pow_pos 1073
    generalize 2 ^ 1073 = P at *
    constructor
    · intro h
      have h' : m1 * P < m2 * P := by omega
      have := Nat.lt_of_mul_lt_mul_right h'
      omega
    · intro h
      have h' : m1 < m2 := by omega
      have := Nat.mul_lt_mul_of_pos_right h' this
      omega
  · have := Nat.two_pow_pos 1073
    generalize 2 ^ 1073 = P at *
    constructor
    · intro h
      have h' : m1 * P = m2 * P := by omega
      have := Nat.eq_of_mul_eq_mul_right this h'
      omega
    · intro h
      have h' : m1 = m2 := by omega
      rw [h']
/-- what is known of the double nearest to b / n, against a double of value v / 2 -/
theorem own_D {x : UInt64} {b n : Nat} (hx : val64 x = roundRatio b64 false b n 0) (hn : 0 < n) : val64 x ≠ .nan ∧ sgn (val64 x) = false := by
  rw [hx]; exact ⟨roundRatio_ne_nan _ _ _ _ _, sgn_roundRatio _ _ _ _ _⟩
theorem own_D_cmp {x y : UInt64} {b n : Nat} (hx : val64 x = roundRatio b64 false b n 0) (hn : 0 < n) (ny : val64 y ≠ .nan) (sy : sgn (val64 y) = false) : dcmp x y = some (compare (zmag b64 (val64 x) : Int) (zmag b64 (val64 y) : Int)) ∧ dcmp y x = some (compare (zmag b64 (val64 y) : Int) (zmag b64 (val64 x) : Int)) := by
  obtain ⟨nx, sx⟩ := own_D hx hn
  have fx := val64_fits x
  have fy := val64_fits y
  constructor
  · show order (val64 x) (val64 y) = _
    rw [order_zval good_b64 fx fy nx ny]
    unfold zval
    rw [sx, sy]; rfl
  · show order (val64 y) (val64 x) = _
    rw [order_zval good_b64 fy fx ny nx]
    unfold zval
    rw [sx, sy]; rfl
/-- b / n at most v / 2^22 (v at most 2^22, in the format): the rounding is at most that -/
theorem own_D_le {x : UInt64} {b n : Nat} {V : Datum} (hx : val64 x = roundRatio b64 false b n 0) (hn : 0 < n) (hV : Jvm.FP.Core.fits b64 V) (nV : V ≠ .nan) (h : b * 2 ^ 1074 ≤ zmag b64 V * n) : zmag b64 (val64 x) ≤ zmag b64 V := by
  rw [hx]
  refine zmag_roundRatio_le good_b64 hn hV nV (e0 := -1074) (by decide) (by decide) ?_
  rw [own_qm]
  show b * 2 ^ 1074 ≤ zmag b64 V * 1 * n
  rw [Nat.mul_one]; exact h
theorem own_D_ge {x : UInt64} {b n : Nat} {V : Datum} (hx : val64 x = roundRatio b64 false b n 0) (hn : 0 < n) (hV : Jvm.FP.Core.fits b64 V) (h : zmag b64 V * n ≤ b * 2 ^ 1074) : zmag b64 V ≤ zmag b64 (val64 x) := by
  rw [hx]
  refine zmag_roundRatio_ge good_b64 hn hV (e0 := -1074) (by decide) (by decide) ?_
  rw [own_qm]
  show zmag b64 V * 1 * n ≤ b * 2 ^ 1074
  rw [Nat.mul_one]; exact h
end OwnFP
section OwnFP2
open Jvm.FP.Core
abbrev own_half : UInt64 := 4602678819172646912
theorem own_H_half : own_H own_half 1 := ⟨4503599627370496, -53, by decide +kernel, by decide +kernel⟩
theorem own_H_one : own_H FP.dconst1 2 := ⟨4503599627370496, -52, by decide +kernel, by decide +kernel⟩
theorem own_H_zero : own_H FP.dconst0 0 := ⟨0, -1074, by decide +kernel, by decide +kernel⟩
theorem own_H_zmag {x : UInt64} {m : Nat} (h : own_H x m) : zmag b64 (val64 x) = m * 2 ^ 1073 ∧ val64 x ≠ .nan ∧ sgn (val64 x) = false := by
  obtain ⟨c, q, e, u⟩ := h
  rw [e]
  exact ⟨u, (fun z => by cases z), rfl⟩
theorem own_p : (2 : Nat) ^ 1074 = 2 ^ 22 * 2 ^ 1052 ∧ (2 : Nat) ^ 1073 = 2 ^ 21 * 2 ^ 1052 ∧ (2 : Nat) ^ 1053 = 2 * 2 ^ 1052 := by
  refine ⟨?_, ?_, ?_⟩
  · rw [← Nat.pow_add]
  · rw [← Nat.pow_add]
  · rw [Nat.pow_succ 2 1052, Nat.mul_comm]
/-- V: the number c * 2^1052 units, c with at most 22 digits; c = v * 2^k fills the format -/
theorem own_V (c k : Nat) (q : Int) (h : 4503599627370496 ≤ c * 2 ^ k ∧ c * 2 ^ k < 9007199254740992) (hq : -1074 ≤ q ∧ q ≤ 971) (hk : (k : Int) + q = -22) : Jvm.FP.Core.fits b64 (.fin false (c * 2 ^ k) q) ∧ zmag b64 (.fin false (c * 2 ^ k) q) = c * 2 ^ 1052 := by
  have e1 : b64.qmax = 971 := by decide
  have e2 : b64.tails = 4503599627370496 := by decide
  refine ⟨⟨h.2, by rw [own_qm]; exact hq.1, by rw [e1]; exact hq.2, Or.inr (by rw [e2]; exact h.1)⟩, ?_⟩
  show c * 2 ^ k * 2 ^ (q - b64.qmin).toNat = _
  rw [own_qm, Nat.mul_assoc, ← Nat.pow_add]
  have : k + (q - -1074).toNat = 1052 := by omega
  rw [this]
theorem own_cmp_lt {x y : Nat} (h : x < y) : compare (x : Int) (y : Int) = .lt := by rw [Int.compare_eq_lt]; omega
theorem own_cmp_gt {x y : Nat} (h : y < x) : compare (x : Int) (y : Int) = .gt := by rw [Int.compare_eq_gt]; omega
theorem own_cmp_eq (x : Nat) : compare (x : Int) (x : Int) = .eq := by rw [Int.compare_eq_eq]
section
variable {x : UInt64} {a b n : Nat}
theorem own_half_lt (hx : val64 x = roundRatio b64 false b n 0) (hn : n = a + b) (h2 : n < 2 ^ 21) (h : b < a) : dcmp x own_half = some .lt := by
  have hn0 : 0 < n := by omega
  obtain ⟨z, ny, sy⟩ := own_H_zmag own_H_half
  rw [(own_D_cmp hx hn0 ny sy).1, z]
  obtain ⟨fV, zV⟩ := own_V 2097151 32 (-54) (by decide) (by decide) (by decide)
  obtain ⟨p1, p2, -⟩ := own_p
  have k := own_D_le hx hn0 fV (fun z => by cases z) (by
    rw [zV, p1]
    generalize 2 ^ 1052 = P
    have : b * 2 ^ 22 ≤ 2097151 * n := by omega
    calc b * (2 ^ 22 * P) = (b * 2 ^ 22) * P := (Nat.mul_assoc _ _ _).symm
      _ ≤ (2097151 * n) * P := Nat.mul_le_mul_right _ this
      _ = 2097151 * P * n := by ac_rfl)
  rw [zV] at k
  have pp := Nat.two_pow_pos 1052
  refine congrArg some (own_cmp_lt ?_)
  rw [p2]
  generalize 2 ^ 1052 = P at *
  omega
theorem own_half_gt (hx : val64 x = roundRatio b64 false b n 0) (hn : n = a + b) (h2 : n < 2 ^ 21) (h : a < b) : dcmp x own_half = some .gt := by
  have hn0 : 0 < n := by omega
  obtain ⟨z, ny, sy⟩ := own_H_zmag own_H_half
  rw [(own_D_cmp hx hn0 ny sy).1, z]
  obtain ⟨fV, zV⟩ := own_V 2097153 31 (-53) (by decide) (by decide) (by decide)
  obtain ⟨p1, p2, -⟩ := own_p
  have k := own_D_ge hx hn0 fV (by
    rw [zV, p1]
    generalize 2 ^ 1052 = P
    have : 2097153 * n ≤ b * 2 ^ 22 := by omega
    calc 2097153 * P * n = (2097153 * n) * P := by ac_rfl
      _ ≤ (b * 2 ^ 22) * P := Nat.mul_le_mul_right _ this
      _ = b * (2 ^ 22 * P) := Nat.mul_assoc _ _ _)
  rw [zV] at k
  have pp := Nat.two_pow_pos 1052
  refine congrArg some (own_cmp_gt ?_)
  rw [p2]
  generalize 2 ^ 1052 = P at *
  omega
theorem own_exH {m : Nat} (hx : val64 x = roundRatio b64 false b n 0) (hn0 : 0 < n) (hm : m < 2 ^ 53) (h : 2 * b = m * n) : own_H x m := by
  refine own_exact hm (hx.trans (roundRatio_congr hn0 (by decide) ?_))
  show b * 1 * 2 ^ 1 = m * n * 2 ^ 0
  omega
theorem own_half_eq (hx : val64 x = roundRatio b64 false b n 0) (hn : n = a + b) (h0 : 0 < n) (h : a = b) : dcmp x own_half = some .eq := by
  rw [own_H_cmp (own_exH hx h0 (m := 1) (by decide) (by omega)) own_H_half]; rfl
theorem own_zero_eq (hx : val64 x = roundRatio b64 false b n 0) (h0 : 0 < n) (h : b = 0) : dcmp x FP.dconst0 = some .eq ∧ dcmp FP.dconst0 x = some .eq := by
  have H := own_exH hx h0 (m := 0) (by decide) (by omega)
  rw [own_H_cmp H own_H_zero, own_H_cmp own_H_zero H]; exact ⟨rfl, rfl⟩
theorem own_zero_gt (hx : val64 x = roundRatio b64 false b n 0) (h0 : 0 < n) (h2 : n < 2 ^ 21) (h : 0 < b) : dcmp x FP.dconst0 = some .gt ∧ dcmp FP.dconst0 x = some .lt := by
  obtain ⟨z, ny, sy⟩ := own_H_zmag own_H_zero
  rw [(own_D_cmp hx h0 ny sy).1, (own_D_cmp hx h0 ny sy).2, z]
  obtain ⟨fV, zV⟩ := own_V 2 51 (-73) (by decide) (by decide) (by decide)
  obtain ⟨p1, p2, -⟩ := own_p
  have k := own_D_ge hx h0 fV (by
    rw [zV, p1]
    generalize 2 ^ 1052 = P
    have : 2 * n ≤ b * 2 ^ 22 := by omega
    calc 2 * P * n = (2 * n) * P := by ac_rfl
      _ ≤ (b * 2 ^ 22) * P := Nat.mul_le_mul_right _ this
      _ = b * (2 ^ 22 * P) := Nat.mul_assoc _ _ _)
  rw [zV] at k
  have pp := Nat.two_pow_pos 1052
  have : 0 * 2 ^ 1073 < zmag b64 (val64 x) := by
    rw [Nat.zero_mul]
    generalize 2 ^ 1052 = P at *
    omega
  exact ⟨congrArg some (own_cmp_gt this), congrArg some (own_cmp_lt this)⟩
theorem own_one_eq (hx : val64 x = roundRatio b64 false b n 0) (h0 : 0 < n) (h : b = n) : dcmp x FP.dconst1 = some .eq := by
  rw [own_H_cmp (own_exH hx h0 (m := 2) (by decide) (by omega)) own_H_one]; rfl
theorem own_one_lt (hx : val64 x = roundRatio b64 false b n 0) (h2 : n < 2 ^ 21) (h : b < n) : dcmp x FP.dconst1 = some .lt := by
  have h0 : 0 < n := by omega
  obtain ⟨z, ny, sy⟩ := own_H_zmag own_H_one
  rw [(own_D_cmp hx h0 ny sy).1, z]
  obtain ⟨fV, zV⟩ := own_V 4194302 31 (-53) (by decide) (by decide) (by decide)
  obtain ⟨p1, p2, -⟩ := own_p
  have k := own_D_le hx h0 fV (fun z => by cases z) (by
    rw [zV, p1]
    generalize 2 ^ 1052 = P
    have : b * 2 ^ 22 ≤ 4194302 * n := by omega
    calc b * (2 ^ 22 * P) = (b * 2 ^ 22) * P := (Nat.mul_assoc _ _ _).symm
      _ ≤ (4194302 * n) * P := Nat.mul_le_mul_right _ this
      _ = 4194302 * P * n := by ac_rfl)
  rw [zV] at k
  have pp := Nat.two_pow_pos 1052
  refine congrArg some (own_cmp_lt ?_)
  rw [p2]
  generalize 2 ^ 1052 = P at *
  omega
end
end OwnFP2

theorem own_m20 (x : Int32) : ∃ n : Nat, (x &&& (1048575 : Int32)).toInt = (n : Int) ∧ n < 1048576 := by
  have h := c_and x 1048575 (by decide)
  have e : (1048575 : Int32).toInt = 1048575 := rfl
  exact ⟨(x &&& 1048575).toInt.toNat, by omega, by omega⟩
theorem own_shl (x : Int32) : ∃ k : Nat, ((1 : Int64) <<< ((x &&& (31 : Int32)) &&& 0x3f).toInt64).toInt = ((2 ^ k : Nat) : Int) ∧ k ≤ 31 := by
  have h := c_and x 31 (by decide)
  have e : (31 : Int32).toInt = 31 := rfl
  obtain ⟨n, hn⟩ : ∃ n : Fin 32, x &&& 31 = Int32.ofNat n.1 := by
    refine ⟨⟨(x &&& 31).toInt.toNat, by omega⟩, own_eq ?_⟩
    show (x &&& 31).toInt = (Int32.ofNat (x &&& 31).toInt.toNat).toInt
    rw [Int32.toInt_ofNat_of_lt (by omega)]
    omega
  rw [hn]
  clear hn
  refine ⟨n.1, ?_, by omega⟩
  revert n
  decide +kernel
theorem own_pow (k : Nat) (h : k ≤ 31) : 0 < 2 ^ k ∧ 2 ^ k ≤ 2147483648 := ⟨Nat.two_pow_pos k, Nat.pow_le_pow_right (by decide) h⟩
theorem own_bnd (k : Nat) (h : k ≤ 31) {a : Nat} (ha : a < 1048576) : a * 2 ^ k < 2251799813685248 := by
  have h1 := (own_pow k h).2
  have h2 : a * 2 ^ k ≤ 1048575 * 2147483648 := Nat.mul_le_mul (by omega) h1
  omega
theorem own_sum {za zb : Int32} {a b : Nat} (ha : za.toInt = (a : Int)) (hb : zb.toInt = (b : Int)) (ha2 : a < 1048576) (hb2 : b < 1048576) : (za + zb).toInt = ((a + b : Nat) : Int) := by
  have h1 := c_iadd za zb
  have h2 := rng32 (za + zb)
  omega
theorem own_scale {x : UInt64} {a b k : Nat} (hn : 0 < a + b) (h : FP.Core.val64 x = FP.Core.roundRatio FP.Core.b64 false (b * 2 ^ k) (a * 2 ^ k + b * 2 ^ k) 0) : FP.Core.val64 x = FP.Core.roundRatio FP.Core.b64 false b (a + b) 0 := by
  have hp := Nat.two_pow_pos k
  refine h.trans (FP.Core.roundRatio_congr ?_ hn ?_)
  · rw [← Nat.add_mul]; exact Nat.mul_pos hn hp
  · show b * 2 ^ k * (a + b) * 2 ^ 0 = b * (a * 2 ^ k + b * 2 ^ k) * 2 ^ 0
    rw [← Nat.add_mul]
    generalize 2 ^ k = P
    generalize a + b = n
    ac_rfl
theorem own_two {x : UInt64} {b n : Nat} (hn : 0 < n) (h : FP.Core.val64 x = FP.Core.roundRatio FP.Core.b64 false (2 * b) (2 * n) 0) : FP.Core.val64 x = FP.Core.roundRatio FP.Core.b64 false b n 0 := by
  refine h.trans (FP.Core.roundRatio_congr (by omega) hn ?_)
  show 2 * b * n * 2 ^ 0 = b * (2 * n) * 2 ^ 0
  generalize (2 : Nat) ^ 0 = P
  ac_rfl
theorem own_same {x y : UInt64} {b n : Nat} (hx : FP.Core.val64 x = FP.Core.roundRatio FP.Core.b64 false b n 0) (hy : FP.Core.val64 y = FP.Core.roundRatio FP.Core.b64 false b n 0) (hn : 0 < n) : FP.dcmp x y = some .eq := by
  obtain ⟨ny, sy⟩ := own_D hy hn
  show FP.Core.dcmp x y = _
  rw [(own_D_cmp hx hn ny sy).1, hx, hy]
  exact congrArg some (own_cmp_eq _)
theorem own_cases (a b : Nat) (h : 0 < a + b) : (a = 0 ∧ 0 < b) ∨ (b = 0 ∧ 0 < a) ∨ (0 < b ∧ b < a ∧ 0 < a) ∨ (a = b ∧ 0 < a) ∨ (0 < a ∧ a < b ∧ 0 < b) := by omega
theorem d2_0 : decode jdk_30_method_1_code 0 = .ok (.aload_n 0, 1) := by decide +kernel
theorem d2_1 : decode jdk_30_method_1_code 1 = .ok (.invokespecial 1, 3) := by decide +kernel
theorem d2_4 : decode jdk_30_method_1_code 4 = .ok (.return_, 1) := by decide +kernel
def Q2 (Z : State) (a : Addr) (h0 : Heap) (n0 : Nat) (v : Option Value) (h : Heap) (L : List Loc) : Prop := v = none ∧ Fr n0 L ∧ h = h0
theorem ef_2 (m : MethodId) (x0 : Addr) : entryFrame m #[(.ref x0)] 1 = mkF m 0 #[.val (.ref x0)] [] := by first | (simp [entryFrame, mkF, argsToLocals, Value.category]; done) | rfl
set_option maxRecDepth 65536 in
set_option maxHeartbeats 40000000 in
theorem rm2 (l : Launch) (Z : State) (a0 : Array Value) (hw : ∀ d ∈ tables_1, d.before a0 Z = true) (ws : List Jvm.Cond) (a : Addr) (h0 : Heap) (n0 : Nat) (Z0 : n0 ≤ h0.size)  :
    own_Met l Z (⟨"java/lang/Record", "<init>", "()V"⟩ : MethodName) jdk_30_method_1_code 1 none ({ frames := 1, cells := 0, slots := 0, locals := 12 } : Room) ws #[(.ref a)] h0 (Q2 Z a h0 n0) := by
  refine own_enter (plainFor_of_name (by first | (simp [plainName, overriddenIn]; done) | decide +kernel)) ?_
  intro p e s m below meth c s₁ hx hby hml hown hnm hlk hret hZ X0 e0
  have N0 := Fr.nil n0
  refine own_go (fun _ q => castTop (ef_2 m a) q) ?_
  show own_Go _ _ _ _ _ _ _ (s₁.setTop (mkF m 0 #[.val (.ref a)] []))
  refine own_go (fun _ q => XS.aloadN X0.here hx rfl (hb hby d2_0) rfl rfl q) ?_
  show own_Go _ _ _ _ _ _ _ (s₁.setTop (mkF m 1 #[.val (.ref a)] [(.ref a)]))
  obtain ⟨T1, X1, e1, st1⟩ := initO X0 hx hZ hown (hw _ (List.mem_of_getElem? (i := 14) rfl)) (hw _ (List.mem_of_getElem? (i := 15) rfl)) (hw _ (List.mem_of_getElem? (i := 16) rfl)) e0 (g := (mkF m 1 #[.val (.ref a)] [(.ref a)])) rfl (by rw [hml]; rfl) rfl (hb hby d2_1) (by decide) (W := 0) (by show 2 * 0 + _ ≤ _; exact Nat.le_of_eq rfl) (by decide)
  refine own_go st1 ?_
  show own_Go _ _ _ _ _ _ _ (T1.setTop (mkF m 4 #[.val (.ref a)] []))
  exact own_retV X1 hx hlk hret (hb hby d2_4) (by decide) (by decide) ⟨rfl, N0, e1⟩
theorem d1_0 : decode prog_94_method_1_code 0 = .ok (.aload_n 0, 1) := by decide +kernel
theorem d1_1 : decode prog_94_method_1_code 1 = .ok (.invokespecial 1, 3) := by decide +kernel
theorem d1_4 : decode prog_94_method_1_code 4 = .ok (.aload_n 0, 1) := by decide +kernel
theorem d1_5 : decode prog_94_method_1_code 5 = .ok (.dload_n 1, 1) := by decide +kernel
theorem d1_6 : decode prog_94_method_1_code 6 = .ok (.putfield 7, 3) := by decide +kernel
theorem d1_9 : decode prog_94_method_1_code 9 = .ok (.aload_n 0, 1) := by decide +kernel
theorem d1_10 : decode prog_94_method_1_code 10 = .ok (.dload_n 3, 1) := by decide +kernel
theorem d1_11 : decode prog_94_method_1_code 11 = .ok (.putfield 13, 3) := by decide +kernel
theorem d1_14 : decode prog_94_method_1_code 14 = .ok (.aload_n 0, 1) := by decide +kernel
theorem d1_15 : decode prog_94_method_1_code 15 = .ok (.dload 5, 2) := by decide +kernel
theorem d1_17 : decode prog_94_method_1_code 17 = .ok (.putfield 16, 3) := by decide +kernel
theorem d1_20 : decode prog_94_method_1_code 20 = .ok (.aload_n 0, 1) := by decide +kernel
theorem d1_21 : decode prog_94_method_1_code 21 = .ok (.dload 7, 2) := by decide +kernel
theorem d1_23 : decode prog_94_method_1_code 23 = .ok (.putfield 19, 3) := by decide +kernel
theorem d1_26 : decode prog_94_method_1_code 26 = .ok (.return_, 1) := by decide +kernel
def Q1 (Z : State) (o : Addr) (x0 : UInt64) (x1 : UInt64) (x2 : UInt64) (x3 : UInt64) (h0 : Heap) (n0 : Nat) (v : Option Value) (h : Heap) (L : List Loc) : Prop := v = none ∧ Fr n0 L ∧ h0.size ≤ h.size ∧ Exa Z h o "com/example/hyperrelay/hyperrelay/study/Wilcoxon" ∧ Fld Z h o "com/example/hyperrelay/hyperrelay/study/Wilcoxon" "rPlus" "D" (.double x0) ∧ Fld Z h o "com/example/hyperrelay/hyperrelay/study/Wilcoxon" "rMinus" "D" (.double x1)
theorem ef_1 (m : MethodId) (x0 : Addr) (x1 : UInt64) (x2 : UInt64) (x3 : UInt64) (x4 : UInt64) : entryFrame m #[(.ref x0), (.double x1), (.double x2), (.double x3), (.double x4)] 9 = mkF m 0 #[.val (.ref x0), .val (.double x1), .second, .val (.double x2), .second, .val (.double x3), .second, .val (.double x4), .second] [] := by first | (simp [entryFrame, mkF, argsToLocals, Value.category]; done) | rfl
set_option maxRecDepth 65536 in
set_option maxHeartbeats 40000000 in
theorem rm1 (l : Launch) (Z : State) (a0 : Array Value) (hw : ∀ d ∈ tables_1, d.before a0 Z = true) (ws : List Jvm.Cond) (o : Addr) (x0 : UInt64) (x1 : UInt64) (x2 : UInt64) (x3 : UInt64) (h0 : Heap) (n0 : Nat) (Z0 : n0 ≤ h0.size) (Eo : Exa Z h0 o "com/example/hyperrelay/hyperrelay/study/Wilcoxon") (Fi0 : Fld Z h0 o "com/example/hyperrelay/hyperrelay/study/Wilcoxon" "rPlus" "D" (.double 0)) (Fi1 : Fld Z h0 o "com/example/hyperrelay/hyperrelay/study/Wilcoxon" "rMinus" "D" (.double 0)) (Fi2 : Fld Z h0 o "com/example/hyperrelay/hyperrelay/study/Wilcoxon" "z" "D" (.double 0)) (Fi3 : Fld Z h0 o "com/example/hyperrelay/hyperrelay/study/Wilcoxon" "p" "D" (.double 0)) (go : n0 ≤ o) :
    own_Met l Z (⟨"com/example/hyperrelay/hyperrelay/study/Wilcoxon", "<init>", "(DDDD)V"⟩ : MethodName) prog_94_method_1_code 9 none ({ frames := 2, cells := 0, slots := 0, locals := 24 } : Room) ws #[(.ref o), (.double x0), (.double x1), (.double x2), (.double x3)] h0 (Q1 Z o x0 x1 x2 x3 h0 n0) := by
  refine own_enter (plainFor_of_name (by first | (simp [plainName, overriddenIn]; done) | decide +kernel)) ?_
  intro p e s m below meth c s₁ hx hby hml hown hnm hlk hret hZ X0 e0
  have N0 := Fr.nil n0
  refine own_go (fun _ q => castTop (ef_1 m o x0 x1 x2 x3) q) ?_
  show own_Go _ _ _ _ _ _ _ (s₁.setTop (mkF m 0 #[.val (.ref o), .val (.double x0), .second, .val (.double x1), .second, .val (.double x2), .second, .val (.double x3), .second] []))
  refine own_go (fun _ q => XS.aloadN X0.here hx rfl (hb hby d1_0) rfl rfl q) ?_
  show own_Go _ _ _ _ _ _ _ (s₁.setTop (mkF m 1 #[.val (.ref o), .val (.double x0), .second, .val (.double x1), .second, .val (.double x2), .second, .val (.double x3), .second] [(.ref o)]))
  refine own_init X0 hx hZ rfl hown (hw _ (List.mem_of_getElem? (i := 9) rfl)) (hw _ (List.mem_of_getElem? (i := 10) rfl)) (hw _ (List.mem_of_getElem? (i := 12) rfl)) (hw _ (List.mem_of_getElem? (i := 13) rfl)) (by decide) e0 (a := o) (argsL := []) (rest := []) (rm2 l Z a0 hw [] o h0 n0 Z0) 0 (by decide) (by decide) (by decide) (by decide) (by rw [hml]; rfl) pd_0 rfl rfl (Nat.le_of_eq rfl) (hb hby d1_1) rfl ?_
  intro v1 T1 L1 X1 hQ1
  obtain ⟨rfl, N1q, e1q⟩ := hQ1
  have N1 := Fr.app N0 N1q
  show own_Go _ _ _ _ _ _ _ (T1.setTop (mkF m 4 #[.val (.ref o), .val (.double x0), .second, .val (.double x1), .second, .val (.double x2), .second, .val (.double x3), .second] []))
  refine own_go (fun _ q => XS.aloadN X1.here hx rfl (hb hby d1_4) rfl rfl q) ?_
  show own_Go _ _ _ _ _ _ _ (T1.setTop (mkF m 5 #[.val (.ref o), .val (.double x0), .second, .val (.double x1), .second, .val (.double x2), .second, .val (.double x3), .second] [(.ref o)]))
  refine own_go (fun _ q => XT.dloadN X1.here hx rfl (hb hby d1_5) rfl q) ?_
  show own_Go _ _ _ _ _ _ _ (T1.setTop (mkF m 6 #[.val (.ref o), .val (.double x0), .second, .val (.double x1), .second, .val (.double x2), .second, .val (.double x3), .second] [(.double x0), (.ref o)]))
  obtain ⟨T2, h2, X2, e2, W2, st2⟩ := putF X1 hx hZ hown (host := "") (Or.inl (hw _ (List.mem_of_getElem? (i := 17) rfl))) Via.refl e1q Fi0 Eo (Or.inr ⟨(hw _ (List.mem_of_getElem? (i := 18) rfl)), rfl, hnm⟩) (hw _ (List.mem_of_getElem? (i := 4) rfl)) (ty := .double) (by decide) rfl rfl (g := (mkF m 6 #[.val (.ref o), .val (.double x0), .second, .val (.double x1), .second, .val (.double x2), .second, .val (.double x3), .second] [(.double x0), (.ref o)])) rfl rfl (hb hby d1_6)
  have N2 := Fr.snoc X2 N1 go
  have Fw2 := Fi0.same W2
  have Z2 : n0 ≤ h2.size := by rw [W2.size]; exact Z0
  refine own_go st2 ?_
  show own_Go _ _ _ _ _ _ _ (T2.setTop (mkF m 9 #[.val (.ref o), .val (.double x0), .second, .val (.double x1), .second, .val (.double x2), .second, .val (.double x3), .second] []))
  refine own_go (fun _ q => XS.aloadN X2.here hx rfl (hb hby d1_9) rfl rfl q) ?_
  show own_Go _ _ _ _ _ _ _ (T2.setTop (mkF m 10 #[.val (.ref o), .val (.double x0), .second, .val (.double x1), .second, .val (.double x2), .second, .val (.double x3), .second] [(.ref o)]))
  refine own_go (fun _ q => XT.dloadN X2.here hx rfl (hb hby d1_10) rfl q) ?_
  show own_Go _ _ _ _ _ _ _ (T2.setTop (mkF m 11 #[.val (.ref o), .val (.double x0), .second, .val (.double x1), .second, .val (.double x2), .second, .val (.double x3), .second] [(.double x1), (.ref o)]))
  have f4 := (Fi1.other W2 (Or.inr (slot_ne (Or.inr (hw _ (List.mem_of_getElem? (i := 20) rfl))) (Or.inr (hw _ (List.mem_of_getElem? (i := 18) rfl))) (by decide) (t := .double) (t' := .double) (by decide) (by decide))))
  have f5 := (Eo.wr W2)
  obtain ⟨T3, h3, X3, e3, W3, st3⟩ := putF X2 hx hZ hown (host := "") (Or.inl (hw _ (List.mem_of_getElem? (i := 19) rfl))) Via.refl e2 f4 f5 (Or.inr ⟨(hw _ (List.mem_of_getElem? (i := 20) rfl)), rfl, hnm⟩) (hw _ (List.mem_of_getElem? (i := 4) rfl)) (ty := .double) (by decide) rfl rfl (g := (mkF m 11 #[.val (.ref o), .val (.double x0), .second, .val (.double x1), .second, .val (.double x2), .second, .val (.double x3), .second] [(.double x1), (.ref o)])) rfl rfl (hb hby d1_11)
  have N3 := Fr.snoc X3 N2 go
  have Fw3 := f4.same W3
  have Z3 : n0 ≤ h3.size := by rw [W3.size]; exact Z2
  refine own_go st3 ?_
  show own_Go _ _ _ _ _ _ _ (T3.setTop (mkF m 14 #[.val (.ref o), .val (.double x0), .second, .val (.double x1), .second, .val (.double x2), .second, .val (.double x3), .second] []))
  refine own_go (fun _ q => XS.aloadN X3.here hx rfl (hb hby d1_14) rfl rfl q) ?_
  show own_Go _ _ _ _ _ _ _ (T3.setTop (mkF m 15 #[.val (.ref o), .val (.double x0), .second, .val (.double x1), .second, .val (.double x2), .second, .val (.double x3), .second] [(.ref o)]))
  refine own_go (fun _ q => XT.dload X3.here hx rfl (hb hby d1_15) rfl q) ?_
  show own_Go _ _ _ _ _ _ _ (T3.setTop (mkF m 17 #[.val (.ref o), .val (.double x0), .second, .val (.double x1), .second, .val (.double x2), .second, .val (.double x3), .second] [(.double x2), (.ref o)]))
  have f7 := ((Fi2.other W2 (Or.inr (slot_ne (Or.inr (hw _ (List.mem_of_getElem? (i := 22) rfl))) (Or.inr (hw _ (List.mem_of_getElem? (i := 18) rfl))) (by decide) (t := .double) (t' := .double) (by decide) (by decide)))).other W3 (Or.inr (slot_ne (Or.inr (hw _ (List.mem_of_getElem? (i := 22) rfl))) (Or.inr (hw _ (List.mem_of_getElem? (i := 20) rfl))) (by decide) (t := .double) (t' := .double) (by decide) (by decide))))
  have f8 := (f5.wr W3)
  obtain ⟨T6, h6, X6, e6, W6, st6⟩ := putF X3 hx hZ hown (host := "") (Or.inl (hw _ (List.mem_of_getElem? (i := 21) rfl))) Via.refl e3 f7 f8 (Or.inr ⟨(hw _ (List.mem_of_getElem? (i := 22) rfl)), rfl, hnm⟩) (hw _ (List.mem_of_getElem? (i := 4) rfl)) (ty := .double) (by decide) rfl rfl (g := (mkF m 17 #[.val (.ref o), .val (.double x0), .second, .val (.double x1), .second, .val (.double x2), .second, .val (.double x3), .second] [(.double x2), (.ref o)])) rfl rfl (hb hby d1_17)
  have N6 := Fr.snoc X6 N3 go
  have Fw6 := f7.same W6
  have Z6 : n0 ≤ h6.size := by rw [W6.size]; exact Z3
  refine own_go st6 ?_
  show own_Go _ _ _ _ _ _ _ (T6.setTop (mkF m 20 #[.val (.ref o), .val (.double x0), .second, .val (.double x1), .second, .val (.double x2), .second, .val (.double x3), .second] []))
  refine own_go (fun _ q => XS.aloadN X6.here hx rfl (hb hby d1_20) rfl rfl q) ?_
  show own_Go _ _ _ _ _ _ _ (T6.setTop (mkF m 21 #[.val (.ref o), .val (.double x0), .second, .val (.double x1), .second, .val (.double x2), .second, .val (.double x3), .second] [(.ref o)]))
  refine own_go (fun _ q => XT.dload X6.here hx rfl (hb hby d1_21) rfl q) ?_
  show own_Go _ _ _ _ _ _ _ (T6.setTop (mkF m 23 #[.val (.ref o), .val (.double x0), .second, .val (.double x1), .second, .val (.double x2), .second, .val (.double x3), .second] [(.double x3), (.ref o)]))
  have f10 := (((Fi3.other W2 (Or.inr (slot_ne (Or.inr (hw _ (List.mem_of_getElem? (i := 24) rfl))) (Or.inr (hw _ (List.mem_of_getElem? (i := 18) rfl))) (by decide) (t := .double) (t' := .double) (by decide) (by decide)))).other W3 (Or.inr (slot_ne (Or.inr (hw _ (List.mem_of_getElem? (i := 24) rfl))) (Or.inr (hw _ (List.mem_of_getElem? (i := 20) rfl))) (by decide) (t := .double) (t' := .double) (by decide) (by decide)))).other W6 (Or.inr (slot_ne (Or.inr (hw _ (List.mem_of_getElem? (i := 24) rfl))) (Or.inr (hw _ (List.mem_of_getElem? (i := 22) rfl))) (by decide) (t := .double) (t' := .double) (by decide) (by decide))))
  have f11 := (f8.wr W6)
  obtain ⟨T9, h9, X9, e9, W9, st9⟩ := putF X6 hx hZ hown (host := "") (Or.inl (hw _ (List.mem_of_getElem? (i := 23) rfl))) Via.refl e6 f10 f11 (Or.inr ⟨(hw _ (List.mem_of_getElem? (i := 24) rfl)), rfl, hnm⟩) (hw _ (List.mem_of_getElem? (i := 4) rfl)) (ty := .double) (by decide) rfl rfl (g := (mkF m 23 #[.val (.ref o), .val (.double x0), .second, .val (.double x1), .second, .val (.double x2), .second, .val (.double x3), .second] [(.double x3), (.ref o)])) rfl rfl (hb hby d1_23)
  have N9 := Fr.snoc X9 N6 go
  have Fw9 := f10.same W9
  have Z9 : n0 ≤ h9.size := by rw [W9.size]; exact Z6
  refine own_go st9 ?_
  show own_Go _ _ _ _ _ _ _ (T9.setTop (mkF m 26 #[.val (.ref o), .val (.double x0), .second, .val (.double x1), .second, .val (.double x2), .second, .val (.double x3), .second] []))
  have f12 := (f11.wr W9)
  have f13 := (((Fw2.other W3 (Or.inr (slot_ne (Or.inr (hw _ (List.mem_of_getElem? (i := 18) rfl))) (Or.inr (hw _ (List.mem_of_getElem? (i := 20) rfl))) (by decide) (t := .double) (t' := .double) (by decide) (by decide)))).other W6 (Or.inr (slot_ne (Or.inr (hw _ (List.mem_of_getElem? (i := 18) rfl))) (Or.inr (hw _ (List.mem_of_getElem? (i := 22) rfl))) (by decide) (t := .double) (t' := .double) (by decide) (by decide)))).other W9 (Or.inr (slot_ne (Or.inr (hw _ (List.mem_of_getElem? (i := 18) rfl))) (Or.inr (hw _ (List.mem_of_getElem? (i := 24) rfl))) (by decide) (t := .double) (t' := .double) (by decide) (by decide))))
  have f14 := ((Fw3.other W6 (Or.inr (slot_ne (Or.inr (hw _ (List.mem_of_getElem? (i := 20) rfl))) (Or.inr (hw _ (List.mem_of_getElem? (i := 22) rfl))) (by decide) (t := .double) (t' := .double) (by decide) (by decide)))).other W9 (Or.inr (slot_ne (Or.inr (hw _ (List.mem_of_getElem? (i := 20) rfl))) (Or.inr (hw _ (List.mem_of_getElem? (i := 24) rfl))) (by decide) (t := .double) (t' := .double) (by decide) (by decide))))
  have hsz : h0.size ≤ h9.size := by have := W2.size; have := W3.size; have := W6.size; have := W9.size; omega
  subst e9
  exact own_retV X9 hx hlk hret (hb hby d1_26) (by decide) (by decide) ⟨rfl, N9, hsz, f12, f13, f14⟩
theorem d4_0 : decode prog_94_method_3_code 0 = .ok (.aload_n 0, 1) := by decide +kernel
theorem d4_1 : decode prog_94_method_3_code 1 = .ok (.getfield 7, 3) := by decide +kernel
theorem d4_4 : decode prog_94_method_3_code 4 = .ok (.aload_n 0, 1) := by decide +kernel
theorem d4_5 : decode prog_94_method_3_code 5 = .ok (.getfield 13, 3) := by decide +kernel
theorem d4_8 : decode prog_94_method_3_code 8 = .ok (.dadd, 1) := by decide +kernel
theorem d4_9 : decode prog_94_method_3_code 9 = .ok (.dstore_n 1, 1) := by decide +kernel
theorem d4_10 : decode prog_94_method_3_code 10 = .ok (.dload_n 1, 1) := by decide +kernel
theorem d4_11 : decode prog_94_method_3_code 11 = .ok (.dconst 0, 1) := by decide +kernel
theorem d4_12 : decode prog_94_method_3_code 12 = .ok (.dcmp .l, 1) := by decide +kernel
theorem d4_13 : decode prog_94_method_3_code 13 = .ok (.ifCond .ne 9, 3) := by decide +kernel
theorem d4_16 : decode prog_94_method_3_code 16 = .ok (.ldc2_w 115, 3) := by decide +kernel
theorem d4_19 : decode prog_94_method_3_code 19 = .ok (.goto 9, 3) := by decide +kernel
theorem d4_22 : decode prog_94_method_3_code 22 = .ok (.aload_n 0, 1) := by decide +kernel
theorem d4_23 : decode prog_94_method_3_code 23 = .ok (.getfield 13, 3) := by decide +kernel
theorem d4_26 : decode prog_94_method_3_code 26 = .ok (.dload_n 1, 1) := by decide +kernel
theorem d4_27 : decode prog_94_method_3_code 27 = .ok (.ddiv, 1) := by decide +kernel
theorem d4_28 : decode prog_94_method_3_code 28 = .ok (.dreturn, 1) := by decide +kernel
def Q4 (Z : State) (o : Addr) (x1 : UInt64) (x2 : UInt64) (m1 : Nat) (m2 : Nat) (h0 : Heap) (n0 : Nat) (v : Option Value) (h : Heap) (L : List Loc) : Prop := ∃ r : UInt64, v = some (.double r) ∧ Fr n0 L ∧ h = h0 ∧ (m1 + m2 = 0 → r = own_half) ∧ (0 < m1 + m2 → FP.Core.val64 r = FP.Core.roundRatio FP.Core.b64 false m2 (m1 + m2) 0)
theorem ef_4 (m : MethodId) (x0 : Addr) : entryFrame m #[(.ref x0)] 3 = mkF m 0 #[.val (.ref x0), .unset, .unset] [] := by first | (simp [entryFrame, mkF, argsToLocals, Value.category]; done) | rfl
set_option maxRecDepth 65536 in
set_option maxHeartbeats 40000000 in
theorem rm4 (l : Launch) (Z : State) (a0 : Array Value) (hw : ∀ d ∈ tables_1, d.before a0 Z = true) (ws : List Jvm.Cond) (o : Addr) (x1 : UInt64) (x2 : UInt64) (m1 : Nat) (m2 : Nat) (h0 : Heap) (n0 : Nat) (Z0 : n0 ≤ h0.size) (F1 : Fld Z h0 o "com/example/hyperrelay/hyperrelay/study/Wilcoxon" "rPlus" "D" (.double x1)) (F2 : Fld Z h0 o "com/example/hyperrelay/hyperrelay/study/Wilcoxon" "rMinus" "D" (.double x2)) (H1 : own_H x1 m1) (H2 : own_H x2 m2) (hm : m1 + m2 < 2 ^ 53) :
    own_Met l Z (⟨"com/example/hyperrelay/hyperrelay/study/Wilcoxon", "shareWorse", "()D"⟩ : MethodName) prog_94_method_3_code 3 (some .double) ({ frames := 0, cells := 0, slots := 0, locals := 0 } : Room) ws #[(.ref o)] h0 (Q4 Z o x1 x2 m1 m2 h0 n0) := by
  refine own_enter (plainFor_of_name (by first | (simp [plainName, overriddenIn]; done) | decide +kernel)) ?_
  intro p e s m below meth c s₁ hx hby hml hown hnm hlk hret hZ X0 e0
  have N0 := Fr.nil n0
  refine own_go (fun _ q => castTop (ef_4 m o) q) ?_
  show own_Go _ _ _ _ _ _ _ (s₁.setTop (mkF m 0 #[.val (.ref o), .unset, .unset] []))
  have HS := own_H_add H1 H2 hm
  refine own_go (fun _ q => XS.aloadN X0.here hx rfl (hb hby d4_0) rfl rfl q) ?_
  show own_Go _ _ _ _ _ _ _ (s₁.setTop (mkF m 1 #[.val (.ref o), .unset, .unset] [(.ref o)]))
  obtain ⟨T1, X1, e1, st1⟩ := getF X0 hx hZ hown (host := "") (Or.inl (hw _ (List.mem_of_getElem? (i := 17) rfl))) Via.refl e0 F1 (g := (mkF m 1 #[.val (.ref o), .unset, .unset] [(.ref o)])) rfl rfl (hb hby d4_1)
  refine own_go st1 ?_
  show own_Go _ _ _ _ _ _ _ (T1.setTop (mkF m 4 #[.val (.ref o), .unset, .unset] [(.double x1)]))
  refine own_go (fun _ q => XS.aloadN X1.here hx rfl (hb hby d4_4) rfl rfl q) ?_
  show own_Go _ _ _ _ _ _ _ (T1.setTop (mkF m 5 #[.val (.ref o), .unset, .unset] [(.ref o), (.double x1)]))
  obtain ⟨T2, X2, e2, st2⟩ := getF X1 hx hZ hown (host := "") (Or.inl (hw _ (List.mem_of_getElem? (i := 19) rfl))) Via.refl e1 F2 (g := (mkF m 5 #[.val (.ref o), .unset, .unset] [(.ref o), (.double x1)])) rfl rfl (hb hby d4_5)
  refine own_go st2 ?_
  show own_Go _ _ _ _ _ _ _ (T2.setTop (mkF m 8 #[.val (.ref o), .unset, .unset] [(.double x2), (.double x1)]))
  refine own_go (own_dadd X2 hx (g := (mkF m 8 #[.val (.ref o), .unset, .unset] [(.double x2), (.double x1)])) rfl (hb hby d4_8) rfl (own_num (own_H_nn HS))) ?_
  show own_Go _ _ _ _ _ _ _ (T2.setTop (mkF m 9 #[.val (.ref o), .unset, .unset] [(.double (FP.dadd x1 x2))]))
  refine own_go (own_dstoreN X2 hx (g := (mkF m 9 #[.val (.ref o), .unset, .unset] [(.double (FP.dadd x1 x2))])) rfl (hb hby d4_9) rfl (l' := #[.val (.ref o), .val (.double (FP.dadd x1 x2)), .second]) rfl) ?_
  show own_Go _ _ _ _ _ _ _ (T2.setTop (mkF m 10 #[.val (.ref o), .val (.double (FP.dadd x1 x2)), .second] []))
  refine own_go (fun _ q => XT.dloadN X2.here hx rfl (hb hby d4_10) rfl q) ?_
  show own_Go _ _ _ _ _ _ _ (T2.setTop (mkF m 11 #[.val (.ref o), .val (.double (FP.dadd x1 x2)), .second] [(.double (FP.dadd x1 x2))]))
  refine own_go (own_dconst0 X2 hx (g := (mkF m 11 #[.val (.ref o), .val (.double (FP.dadd x1 x2)), .second] [(.double (FP.dadd x1 x2))])) rfl (hb hby d4_11)) ?_
  show own_Go _ _ _ _ _ _ _ (T2.setTop (mkF m 12 #[.val (.ref o), .val (.double (FP.dadd x1 x2)), .second] [(.double FP.dconst0), (.double (FP.dadd x1 x2))]))
  by_cases hz : m1 + m2 = 0
  · refine own_go (own_dcmp X2 hx (g := (mkF m 12 #[.val (.ref o), .val (.double (FP.dadd x1 x2)), .second] [(.double FP.dconst0), (.double (FP.dadd x1 x2))])) rfl (o := .eq) ((own_H_cmp HS own_H_zero).trans (by rw [hz]; rfl)) (hb hby d4_12) rfl) ?_
    show own_Go _ _ _ _ _ _ _ (T2.setTop (mkF m 13 #[.val (.ref o), .val (.double (FP.dadd x1 x2)), .second] [(.int (0 : Int32))]))
    refine own_go (fun _ q => XS.ifNo X2.here hx rfl (hb hby d4_13) rfl ((if0 _ _).trans (teq (by decide : (0 : Int32) = (0 : Int32))).2) q) ?_
    show own_Go _ _ _ _ _ _ _ (T2.setTop (mkF m 16 #[.val (.ref o), .val (.double (FP.dadd x1 x2)), .second] []))
    refine own_go (X2.ldc2DoubleC hx hown (mvT hZ (hw _ (List.mem_of_getElem? (i := 30) rfl))) (g := (mkF m 16 #[.val (.ref o), .val (.double (FP.dadd x1 x2)), .second] [])) rfl (hb hby d4_16)) ?_
    show own_Go _ _ _ _ _ _ _ (T2.setTop (mkF m 19 #[.val (.ref o), .val (.double (FP.dadd x1 x2)), .second] [(.double (4602678819172646912 : UInt64))]))
    refine own_go (fun _ q => XS.goto X2.here hx rfl (pc0 := 19) (pc' := 28) rfl (hb hby d4_19) (by decide) (by decide) q) ?_
    show own_Go _ _ _ _ _ _ _ (T2.setTop (mkF m 28 #[.val (.ref o), .val (.double (FP.dadd x1 x2)), .second] [(.double (4602678819172646912 : UInt64))]))
    exact own_retD X2 hx hlk hret (hb hby d4_28) (by decide) (by decide) ⟨_, rfl, N0, e2, fun _ => rfl, fun q => absurd hz (by omega)⟩
  · refine own_go (own_dcmp X2 hx (g := (mkF m 12 #[.val (.ref o), .val (.double (FP.dadd x1 x2)), .second] [(.double FP.dconst0), (.double (FP.dadd x1 x2))])) rfl (o := .gt) ((own_H_cmp HS own_H_zero).trans (congrArg some (own_cmp_gt (by omega)))) (hb hby d4_12) rfl) ?_
    show own_Go _ _ _ _ _ _ _ (T2.setTop (mkF m 13 #[.val (.ref o), .val (.double (FP.dadd x1 x2)), .second] [(.int (1 : Int32))]))
    refine own_go (fun _ q => XS.ifYes X2.here hx rfl (pc0 := 13) (pc' := 22) rfl (hb hby d4_13) rfl ((if0 _ _).trans (feq (by decide : ¬ ((1 : Int32) = (0 : Int32)))).2) (by decide) (by decide) q) ?_
    show own_Go _ _ _ _ _ _ _ (T2.setTop (mkF m 22 #[.val (.ref o), .val (.double (FP.dadd x1 x2)), .second] []))
    refine own_go (fun _ q => XS.aloadN X2.here hx rfl (hb hby d4_22) rfl rfl q) ?_
    show own_Go _ _ _ _ _ _ _ (T2.setTop (mkF m 23 #[.val (.ref o), .val (.double (FP.dadd x1 x2)), .second] [(.ref o)]))
    obtain ⟨T3, X3, e3, st3⟩ := getF X2 hx hZ hown (host := "") (Or.inl (hw _ (List.mem_of_getElem? (i := 19) rfl))) Via.refl e2 F2 (g := (mkF m 23 #[.val (.ref o), .val (.double (FP.dadd x1 x2)), .second] [(.ref o)])) rfl rfl (hb hby d4_23)
    refine own_go st3 ?_
    show own_Go _ _ _ _ _ _ _ (T3.setTop (mkF m 26 #[.val (.ref o), .val (.double (FP.dadd x1 x2)), .second] [(.double x2)]))
    refine own_go (fun _ q => XT.dloadN X3.here hx rfl (hb hby d4_26) rfl q) ?_
    show own_Go _ _ _ _ _ _ _ (T3.setTop (mkF m 27 #[.val (.ref o), .val (.double (FP.dadd x1 x2)), .second] [(.double (FP.dadd x1 x2)), (.double x2)]))
    have HD := own_H_div H2 HS (by omega)
    refine own_go (own_ddiv X3 hx (g := (mkF m 27 #[.val (.ref o), .val (.double (FP.dadd x1 x2)), .second] [(.double (FP.dadd x1 x2)), (.double x2)])) rfl (hb hby d4_27) rfl (own_num (own_D HD (by omega)).1)) ?_
    show own_Go _ _ _ _ _ _ _ (T3.setTop (mkF m 28 #[.val (.ref o), .val (.double (FP.dadd x1 x2)), .second] [(.double (FP.ddiv x2 (FP.dadd x1 x2)))]))
    exact own_retD X3 hx hlk hret (hb hby d4_28) (by decide) (by decide) ⟨_, rfl, N0, e3, fun q => absurd q hz, fun _ => HD⟩
def Q0 (Z : State) (p0 : Int32) (p1 : Int32) (p2 : Int32) (p3 : Int32) (h0 : Heap) (n0 : Nat) (v : Option Value) (h : Heap) (L : List Loc) : Prop := v = some (.int 1) ∧ Fr n0 L
theorem ef_0 (m : MethodId) (x0 : Int32) (x1 : Int32) (x2 : Int32) (x3 : Int32) : entryFrame m #[(.int x0), (.int x1), (.int x2), (.int x3)] maxLocals = mkF m 0 #[.val (.int x0), .val (.int x1), .val (.int x2), .val (.int x3), .unset, .unset, .unset, .unset, .unset, .unset, .unset, .unset, .unset, .unset, .unset, .unset, .unset, .unset, .unset, .unset] [] := by first | (simp [entryFrame, mkF, argsToLocals, Value.category, maxLocals]; done) | rfl
set_option maxRecDepth 65536 in
set_option maxHeartbeats 40000000 in
theorem rm0 (l : Launch) (Z : State) (a0 : Array Value) (hw : ∀ d ∈ tables_1, d.before a0 Z = true) (ws : List Jvm.Cond) (p0 : Int32) (p1 : Int32) (p2 : Int32) (p3 : Int32) (h0 : Heap) (n0 : Nat) (Z0 : n0 ≤ h0.size)  :
    own_Met l Z x code maxLocals ret room_1 ws #[(.int p0), (.int p1), (.int p2), (.int p3)] h0 (Q0 Z p0 p1 p2 p3 h0 n0) := by
  refine own_enter (plainFor_of_name (by first | (simp [plainName, overriddenIn]; done) | decide +kernel)) ?_
  intro p e s m below meth c s₁ hx hby hml hown hnm hlk hret hZ X0 e0
  have N0 := Fr.nil n0
  refine own_go (fun _ q => castTop (ef_0 m p0 p1 p2 p3) q) ?_
  show own_Go _ _ _ _ _ _ _ (s₁.setTop (mkF m 0 #[.val (.int p0), .val (.int p1), .val (.int p2), .val (.int p3), .unset, .unset, .unset, .unset, .unset, .unset, .unset, .unset, .unset, .unset, .unset, .unset, .unset, .unset, .unset, .unset] []))
  obtain ⟨a, ha, ha2⟩ := own_m20 p0
  obtain ⟨b, hb_, hb2⟩ := own_m20 p1
  obtain ⟨k, hk, hk31⟩ := own_shl p2
  refine own_go (fun _ q => XS.iloadN X0.here hx rfl (hb hby at_0) rfl q) ?_
  show own_Go _ _ _ _ _ _ _ (s₁.setTop (mkF m 1 #[.val (.int p0), .val (.int p1), .val (.int p2), .val (.int p3), .unset, .unset, .unset, .unset, .unset, .unset, .unset, .unset, .unset, .unset, .unset, .unset, .unset, .unset, .unset, .unset] [(.int p0)]))
  refine own_go (X0.ldcInt hx hown (mvT hZ (hw _ (List.mem_of_getElem? (i := 0) rfl))) (g := (mkF m 1 #[.val (.int p0), .val (.int p1), .val (.int p2), .val (.int p3), .unset, .unset, .unset, .unset, .unset, .unset, .unset, .unset, .unset, .unset, .unset, .unset, .unset, .unset, .unset, .unset] [(.int p0)])) rfl (hb hby at_1)) ?_
  show own_Go _ _ _ _ _ _ _ (s₁.setTop (mkF m 3 #[.val (.int p0), .val (.int p1), .val (.int p2), .val (.int p3), .unset, .unset, .unset, .unset, .unset, .unset, .unset, .unset, .unset, .unset, .unset, .unset, .unset, .unset, .unset, .unset] [(.int (1048575 : Int32)), (.int p0)]))
  refine own_go (fun _ q => XS.iand X0.here hx rfl (hb hby at_3) rfl q) ?_
  show own_Go _ _ _ _ _ _ _ (s₁.setTop (mkF m 4 #[.val (.int p0), .val (.int p1), .val (.int p2), .val (.int p3), .unset, .unset, .unset, .unset, .unset, .unset, .unset, .unset, .unset, .unset, .unset, .unset, .unset, .unset, .unset, .unset] [(.int (p0 &&& (1048575 : Int32)))]))
  refine own_go (fun _ q => XS.istore X0.here hx rfl (hb hby at_4) rfl (l' := #[.val (.int p0), .val (.int p1), .val (.int p2), .val (.int p3), .val (.int (p0 &&& (1048575 : Int32))), .unset, .unset, .unset, .unset, .unset, .unset, .unset, .unset, .unset, .unset, .unset, .unset, .unset, .unset, .unset]) rfl q) ?_
  show own_Go _ _ _ _ _ _ _ (s₁.setTop (mkF m 6 #[.val (.int p0), .val (.int p1), .val (.int p2), .val (.int p3), .val (.int (p0 &&& (1048575 : Int32))), .unset, .unset, .unset, .unset, .unset, .unset, .unset, .unset, .unset, .unset, .unset, .unset, .unset, .unset, .unset] []))
  refine own_go (fun _ q => XS.iloadN X0.here hx rfl (hb hby at_6) rfl q) ?_
  show own_Go _ _ _ _ _ _ _ (s₁.setTop (mkF m 7 #[.val (.int p0), .val (.int p1), .val (.int p2), .val (.int p3), .val (.int (p0 &&& (1048575 : Int32))), .unset, .unset, .unset, .unset, .unset, .unset, .unset, .unset, .unset, .unset, .unset, .unset, .unset, .unset, .unset] [(.int p1)]))
  refine own_go (X0.ldcInt hx hown (mvT hZ (hw _ (List.mem_of_getElem? (i := 0) rfl))) (g := (mkF m 7 #[.val (.int p0), .val (.int p1), .val (.int p2), .val (.int p3), .val (.int (p0 &&& (1048575 : Int32))), .unset, .unset, .unset, .unset, .unset, .unset, .unset, .unset, .unset, .unset, .unset, .unset, .unset, .unset, .unset] [(.int p1)])) rfl (hb hby at_7)) ?_
  show own_Go _ _ _ _ _ _ _ (s₁.setTop (mkF m 9 #[.val (.int p0), .val (.int p1), .val (.int p2), .val (.int p3), .val (.int (p0 &&& (1048575 : Int32))), .unset, .unset, .unset, .unset, .unset, .unset, .unset, .unset, .unset, .unset, .unset, .unset, .unset, .unset, .unset] [(.int (1048575 : Int32)), (.int p1)]))
  refine own_go (fun _ q => XS.iand X0.here hx rfl (hb hby at_9) rfl q) ?_
  show own_Go _ _ _ _ _ _ _ (s₁.setTop (mkF m 10 #[.val (.int p0), .val (.int p1), .val (.int p2), .val (.int p3), .val (.int (p0 &&& (1048575 : Int32))), .unset, .unset, .unset, .unset, .unset, .unset, .unset, .unset, .unset, .unset, .unset, .unset, .unset, .unset, .unset] [(.int (p1 &&& (1048575 : Int32)))]))
  refine own_go (fun _ q => XS.istore X0.here hx rfl (hb hby at_10) rfl (l' := #[.val (.int p0), .val (.int p1), .val (.int p2), .val (.int p3), .val (.int (p0 &&& (1048575 : Int32))), .val (.int (p1 &&& (1048575 : Int32))), .unset, .unset, .unset, .unset, .unset, .unset, .unset, .unset, .unset, .unset, .unset, .unset, .unset, .unset]) rfl q) ?_
  show own_Go _ _ _ _ _ _ _ (s₁.setTop (mkF m 12 #[.val (.int p0), .val (.int p1), .val (.int p2), .val (.int p3), .val (.int (p0 &&& (1048575 : Int32))), .val (.int (p1 &&& (1048575 : Int32))), .unset, .unset, .unset, .unset, .unset, .unset, .unset, .unset, .unset, .unset, .unset, .unset, .unset, .unset] []))
  refine own_go (fun _ q => XS.lconst X0.here hx rfl (hb hby at_12) q) ?_
  show own_Go _ _ _ _ _ _ _ (s₁.setTop (mkF m 13 #[.val (.int p0), .val (.int p1), .val (.int p2), .val (.int p3), .val (.int (p0 &&& (1048575 : Int32))), .val (.int (p1 &&& (1048575 : Int32))), .unset, .unset, .unset, .unset, .unset, .unset, .unset, .unset, .unset, .unset, .unset, .unset, .unset, .unset] [(.long (1 : Int64))]))
  refine own_go (fun _ q => XS.iloadN X0.here hx rfl (hb hby at_13) rfl q) ?_
  show own_Go _ _ _ _ _ _ _ (s₁.setTop (mkF m 14 #[.val (.int p0), .val (.int p1), .val (.int p2), .val (.int p3), .val (.int (p0 &&& (1048575 : Int32))), .val (.int (p1 &&& (1048575 : Int32))), .unset, .unset, .unset, .unset, .unset, .unset, .unset, .unset, .unset, .unset, .unset, .unset, .unset, .unset] [(.int p2), (.long (1 : Int64))]))
  refine own_go (fun _ q => XS.bipush X0.here hx rfl (hb hby at_14) q) ?_
  show own_Go _ _ _ _ _ _ _ (s₁.setTop (mkF m 16 #[.val (.int p0), .val (.int p1), .val (.int p2), .val (.int p3), .val (.int (p0 &&& (1048575 : Int32))), .val (.int (p1 &&& (1048575 : Int32))), .unset, .unset, .unset, .unset, .unset, .unset, .unset, .unset, .unset, .unset, .unset, .unset, .unset, .unset] [(.int (31 : Int32)), (.int p2), (.long (1 : Int64))]))
  refine own_go (fun _ q => XS.iand X0.here hx rfl (hb hby at_16) rfl q) ?_
  show own_Go _ _ _ _ _ _ _ (s₁.setTop (mkF m 17 #[.val (.int p0), .val (.int p1), .val (.int p2), .val (.int p3), .val (.int (p0 &&& (1048575 : Int32))), .val (.int (p1 &&& (1048575 : Int32))), .unset, .unset, .unset, .unset, .unset, .unset, .unset, .unset, .unset, .unset, .unset, .unset, .unset, .unset] [(.int (p2 &&& (31 : Int32))), (.long (1 : Int64))]))
  refine own_go (fun _ q => XS.lshl X0.here hx rfl (hb hby at_17) rfl q) ?_
  show own_Go _ _ _ _ _ _ _ (s₁.setTop (mkF m 18 #[.val (.int p0), .val (.int p1), .val (.int p2), .val (.int p3), .val (.int (p0 &&& (1048575 : Int32))), .val (.int (p1 &&& (1048575 : Int32))), .unset, .unset, .unset, .unset, .unset, .unset, .unset, .unset, .unset, .unset, .unset, .unset, .unset, .unset] [(.long ((1 : Int64) <<< ((p2 &&& (31 : Int32)) &&& 0x3f).toInt64))]))
  refine own_go (own_l2d X0 hx (g := (mkF m 18 #[.val (.int p0), .val (.int p1), .val (.int p2), .val (.int p3), .val (.int (p0 &&& (1048575 : Int32))), .val (.int (p1 &&& (1048575 : Int32))), .unset, .unset, .unset, .unset, .unset, .unset, .unset, .unset, .unset, .unset, .unset, .unset, .unset, .unset] [(.long ((1 : Int64) <<< ((p2 &&& (31 : Int32)) &&& 0x3f).toInt64))])) rfl (hb hby at_18) rfl) ?_
  show own_Go _ _ _ _ _ _ _ (s₁.setTop (mkF m 19 #[.val (.int p0), .val (.int p1), .val (.int p2), .val (.int p3), .val (.int (p0 &&& (1048575 : Int32))), .val (.int (p1 &&& (1048575 : Int32))), .unset, .unset, .unset, .unset, .unset, .unset, .unset, .unset, .unset, .unset, .unset, .unset, .unset, .unset] [(.double (FP.l2d ((1 : Int64) <<< ((p2 &&& (31 : Int32)) &&& 0x3f).toInt64)))]))
  refine own_go (X0.ldc2DoubleC hx hown (mvT hZ (hw _ (List.mem_of_getElem? (i := 1) rfl))) (g := (mkF m 19 #[.val (.int p0), .val (.int p1), .val (.int p2), .val (.int p3), .val (.int (p0 &&& (1048575 : Int32))), .val (.int (p1 &&& (1048575 : Int32))), .unset, .unset, .unset, .unset, .unset, .unset, .unset, .unset, .unset, .unset, .unset, .unset, .unset, .unset] [(.double (FP.l2d ((1 : Int64) <<< ((p2 &&& (31 : Int32)) &&& 0x3f).toInt64)))])) rfl (hb hby at_19)) ?_
  show own_Go _ _ _ _ _ _ _ (s₁.setTop (mkF m 22 #[.val (.int p0), .val (.int p1), .val (.int p2), .val (.int p3), .val (.int (p0 &&& (1048575 : Int32))), .val (.int (p1 &&& (1048575 : Int32))), .unset, .unset, .unset, .unset, .unset, .unset, .unset, .unset, .unset, .unset, .unset, .unset, .unset, .unset] [(.double (4602678819172646912 : UInt64)), (.double (FP.l2d ((1 : Int64) <<< ((p2 &&& (31 : Int32)) &&& 0x3f).toInt64)))]))
  obtain ⟨za, h_za⟩ : ∃ z, z = (p0 &&& (1048575 : Int32)) := ⟨_, rfl⟩
  rw [← h_za] at ha ⊢
  show own_Go _ _ _ _ _ _ _ (s₁.setTop (mkF m 22 #[.val (.int p0), .val (.int p1), .val (.int p2), .val (.int p3), .val (.int za), .val (.int (p1 &&& (1048575 : Int32))), .unset, .unset, .unset, .unset, .unset, .unset, .unset, .unset, .unset, .unset, .unset, .unset, .unset, .unset] [(.double (4602678819172646912 : UInt64)), (.double (FP.l2d ((1 : Int64) <<< ((p2 &&& (31 : Int32)) &&& 0x3f).toInt64)))]))
  obtain ⟨zb, h_zb⟩ : ∃ z, z = (p1 &&& (1048575 : Int32)) := ⟨_, rfl⟩
  rw [← h_zb] at hb_ ⊢
  show own_Go _ _ _ _ _ _ _ (s₁.setTop (mkF m 22 #[.val (.int p0), .val (.int p1), .val (.int p2), .val (.int p3), .val (.int za), .val (.int zb), .unset, .unset, .unset, .unset, .unset, .unset, .unset, .unset, .unset, .unset, .unset, .unset, .unset, .unset] [(.double (4602678819172646912 : UInt64)), (.double (FP.l2d ((1 : Int64) <<< ((p2 &&& (31 : Int32)) &&& 0x3f).toInt64)))]))
  have hp := own_pow k hk31
  have hma := own_bnd k hk31 ha2
  have hmb := own_bnd k hk31 hb2
  have HL : own_H (FP.l2d ((1 : Int64) <<< ((p2 &&& (31 : Int32)) &&& 0x3f).toInt64)) (2 * 2 ^ k) := own_H_int (FP.Core.val64_l2d _) hk (by omega)
  have HS : own_H (FP.dmul (FP.l2d ((1 : Int64) <<< ((p2 &&& (31 : Int32)) &&& 0x3f).toInt64)) (4602678819172646912 : UInt64)) (2 ^ k) := own_H_mul HL own_H_half (by omega) (by omega)
  refine own_go (own_dmul X0 hx (g := (mkF m 22 #[.val (.int p0), .val (.int p1), .val (.int p2), .val (.int p3), .val (.int za), .val (.int zb), .unset, .unset, .unset, .unset, .unset, .unset, .unset, .unset, .unset, .unset, .unset, .unset, .unset, .unset] [(.double (4602678819172646912 : UInt64)), (.double (FP.l2d ((1 : Int64) <<< ((p2 &&& (31 : Int32)) &&& 0x3f).toInt64)))])) rfl (hb hby at_22) rfl (own_num (own_H_nn HS))) ?_
  show own_Go _ _ _ _ _ _ _ (s₁.setTop (mkF m 23 #[.val (.int p0), .val (.int p1), .val (.int p2), .val (.int p3), .val (.int za), .val (.int zb), .unset, .unset, .unset, .unset, .unset, .unset, .unset, .unset, .unset, .unset, .unset, .unset, .unset, .unset] [(.double (FP.dmul (FP.l2d ((1 : Int64) <<< ((p2 &&& (31 : Int32)) &&& 0x3f).toInt64)) (4602678819172646912 : UInt64)))]))
  obtain ⟨sc, h_sc⟩ : ∃ z, z = (FP.dmul (FP.l2d ((1 : Int64) <<< ((p2 &&& (31 : Int32)) &&& 0x3f).toInt64)) (4602678819172646912 : UInt64)) := ⟨_, rfl⟩
  rw [← h_sc] at HS ⊢
  show own_Go _ _ _ _ _ _ _ (s₁.setTop (mkF m 23 #[.val (.int p0), .val (.int p1), .val (.int p2), .val (.int p3), .val (.int za), .val (.int zb), .unset, .unset, .unset, .unset, .unset, .unset, .unset, .unset, .unset, .unset, .unset, .unset, .unset, .unset] [(.double sc)]))
  refine own_go (own_dstore X0 hx (g := (mkF m 23 #[.val (.int p0), .val (.int p1), .val (.int p2), .val (.int p3), .val (.int za), .val (.int zb), .unset, .unset, .unset, .unset, .unset, .unset, .unset, .unset, .unset, .unset, .unset, .unset, .unset, .unset] [(.double sc)])) rfl (hb hby at_23) rfl (l' := #[.val (.int p0), .val (.int p1), .val (.int p2), .val (.int p3), .val (.int za), .val (.int zb), .val (.double sc), .second, .unset, .unset, .unset, .unset, .unset, .unset, .unset, .unset, .unset, .unset, .unset, .unset]) rfl) ?_
  show own_Go _ _ _ _ _ _ _ (s₁.setTop (mkF m 25 #[.val (.int p0), .val (.int p1), .val (.int p2), .val (.int p3), .val (.int za), .val (.int zb), .val (.double sc), .second, .unset, .unset, .unset, .unset, .unset, .unset, .unset, .unset, .unset, .unset, .unset, .unset] []))
  refine own_go (fun _ q => XS.iload X0.here hx rfl (hb hby at_25) rfl q) ?_
  show own_Go _ _ _ _ _ _ _ (s₁.setTop (mkF m 27 #[.val (.int p0), .val (.int p1), .val (.int p2), .val (.int p3), .val (.int za), .val (.int zb), .val (.double sc), .second, .unset, .unset, .unset, .unset, .unset, .unset, .unset, .unset, .unset, .unset, .unset, .unset] [(.int za)]))
  refine own_go (own_i2d X0 hx (g := (mkF m 27 #[.val (.int p0), .val (.int p1), .val (.int p2), .val (.int p3), .val (.int za), .val (.int zb), .val (.double sc), .second, .unset, .unset, .unset, .unset, .unset, .unset, .unset, .unset, .unset, .unset, .unset, .unset] [(.int za)])) rfl (hb hby at_27) rfl) ?_
  show own_Go _ _ _ _ _ _ _ (s₁.setTop (mkF m 28 #[.val (.int p0), .val (.int p1), .val (.int p2), .val (.int p3), .val (.int za), .val (.int zb), .val (.double sc), .second, .unset, .unset, .unset, .unset, .unset, .unset, .unset, .unset, .unset, .unset, .unset, .unset] [(.double (FP.i2d za))]))
  refine own_go (fun _ q => XT.dload X0.here hx rfl (hb hby at_28) rfl q) ?_
  show own_Go _ _ _ _ _ _ _ (s₁.setTop (mkF m 30 #[.val (.int p0), .val (.int p1), .val (.int p2), .val (.int p3), .val (.int za), .val (.int zb), .val (.double sc), .second, .unset, .unset, .unset, .unset, .unset, .unset, .unset, .unset, .unset, .unset, .unset, .unset] [(.double sc), (.double (FP.i2d za))]))
  have HIrp : own_H (FP.i2d za) (2 * a) := own_H_int (FP.Core.val64_i2d _) ha (by omega)
  have Hrp : own_H (FP.dmul (FP.i2d za) sc) (a * 2 ^ k) := own_H_mul HIrp HS (by rw [Nat.mul_assoc]) (by omega)
  refine own_go (own_dmul X0 hx (g := (mkF m 30 #[.val (.int p0), .val (.int p1), .val (.int p2), .val (.int p3), .val (.int za), .val (.int zb), .val (.double sc), .second, .unset, .unset, .unset, .unset, .unset, .unset, .unset, .unset, .unset, .unset, .unset, .unset] [(.double sc), (.double (FP.i2d za))])) rfl (hb hby at_30) rfl (own_num (own_H_nn Hrp))) ?_
  show own_Go _ _ _ _ _ _ _ (s₁.setTop (mkF m 31 #[.val (.int p0), .val (.int p1), .val (.int p2), .val (.int p3), .val (.int za), .val (.int zb), .val (.double sc), .second, .unset, .unset, .unset, .unset, .unset, .unset, .unset, .unset, .unset, .unset, .unset, .unset] [(.double (FP.dmul (FP.i2d za) sc))]))
  obtain ⟨rp, h_rp⟩ : ∃ z, z = (FP.dmul (FP.i2d za) sc) := ⟨_, rfl⟩
  rw [← h_rp] at Hrp ⊢
  show own_Go _ _ _ _ _ _ _ (s₁.setTop (mkF m 31 #[.val (.int p0), .val (.int p1), .val (.int p2), .val (.int p3), .val (.int za), .val (.int zb), .val (.double sc), .second, .unset, .unset, .unset, .unset, .unset, .unset, .unset, .unset, .unset, .unset, .unset, .unset] [(.double rp)]))
  refine own_go (own_dstore X0 hx (g := (mkF m 31 #[.val (.int p0), .val (.int p1), .val (.int p2), .val (.int p3), .val (.int za), .val (.int zb), .val (.double sc), .second, .unset, .unset, .unset, .unset, .unset, .unset, .unset, .unset, .unset, .unset, .unset, .unset] [(.double rp)])) rfl (hb hby at_31) rfl (l' := #[.val (.int p0), .val (.int p1), .val (.int p2), .val (.int p3), .val (.int za), .val (.int zb), .val (.double sc), .second, .val (.double rp), .second, .unset, .unset, .unset, .unset, .unset, .unset, .unset, .unset, .unset, .unset]) rfl) ?_
  show own_Go _ _ _ _ _ _ _ (s₁.setTop (mkF m 33 #[.val (.int p0), .val (.int p1), .val (.int p2), .val (.int p3), .val (.int za), .val (.int zb), .val (.double sc), .second, .val (.double rp), .second, .unset, .unset, .unset, .unset, .unset, .unset, .unset, .unset, .unset, .unset] []))
  refine own_go (fun _ q => XS.iload X0.here hx rfl (hb hby at_33) rfl q) ?_
  show own_Go _ _ _ _ _ _ _ (s₁.setTop (mkF m 35 #[.val (.int p0), .val (.int p1), .val (.int p2), .val (.int p3), .val (.int za), .val (.int zb), .val (.double sc), .second, .val (.double rp), .second, .unset, .unset, .unset, .unset, .unset, .unset, .unset, .unset, .unset, .unset] [(.int zb)]))
  refine own_go (own_i2d X0 hx (g := (mkF m 35 #[.val (.int p0), .val (.int p1), .val (.int p2), .val (.int p3), .val (.int za), .val (.int zb), .val (.double sc), .second, .val (.double rp), .second, .unset, .unset, .unset, .unset, .unset, .unset, .unset, .unset, .unset, .unset] [(.int zb)])) rfl (hb hby at_35) rfl) ?_
  show own_Go _ _ _ _ _ _ _ (s₁.setTop (mkF m 36 #[.val (.int p0), .val (.int p1), .val (.int p2), .val (.int p3), .val (.int za), .val (.int zb), .val (.double sc), .second, .val (.double rp), .second, .unset, .unset, .unset, .unset, .unset, .unset, .unset, .unset, .unset, .unset] [(.double (FP.i2d zb))]))
  refine own_go (fun _ q => XT.dload X0.here hx rfl (hb hby at_36) rfl q) ?_
  show own_Go _ _ _ _ _ _ _ (s₁.setTop (mkF m 38 #[.val (.int p0), .val (.int p1), .val (.int p2), .val (.int p3), .val (.int za), .val (.int zb), .val (.double sc), .second, .val (.double rp), .second, .unset, .unset, .unset, .unset, .unset, .unset, .unset, .unset, .unset, .unset] [(.double sc), (.double (FP.i2d zb))]))
  have HIrm : own_H (FP.i2d zb) (2 * b) := own_H_int (FP.Core.val64_i2d _) hb_ (by omega)
  have Hrm : own_H (FP.dmul (FP.i2d zb) sc) (b * 2 ^ k) := own_H_mul HIrm HS (by rw [Nat.mul_assoc]) (by omega)
  refine own_go (own_dmul X0 hx (g := (mkF m 38 #[.val (.int p0), .val (.int p1), .val (.int p2), .val (.int p3), .val (.int za), .val (.int zb), .val (.double sc), .second, .val (.double rp), .second, .unset, .unset, .unset, .unset, .unset, .unset, .unset, .unset, .unset, .unset] [(.double sc), (.double (FP.i2d zb))])) rfl (hb hby at_38) rfl (own_num (own_H_nn Hrm))) ?_
  show own_Go _ _ _ _ _ _ _ (s₁.setTop (mkF m 39 #[.val (.int p0), .val (.int p1), .val (.int p2), .val (.int p3), .val (.int za), .val (.int zb), .val (.double sc), .second, .val (.double rp), .second, .unset, .unset, .unset, .unset, .unset, .unset, .unset, .unset, .unset, .unset] [(.double (FP.dmul (FP.i2d zb) sc))]))
  obtain ⟨rm, h_rm⟩ : ∃ z, z = (FP.dmul (FP.i2d zb) sc) := ⟨_, rfl⟩
  rw [← h_rm] at Hrm ⊢
  show own_Go _ _ _ _ _ _ _ (s₁.setTop (mkF m 39 #[.val (.int p0), .val (.int p1), .val (.int p2), .val (.int p3), .val (.int za), .val (.int zb), .val (.double sc), .second, .val (.double rp), .second, .unset, .unset, .unset, .unset, .unset, .unset, .unset, .unset, .unset, .unset] [(.double rm)]))
  refine own_go (own_dstore X0 hx (g := (mkF m 39 #[.val (.int p0), .val (.int p1), .val (.int p2), .val (.int p3), .val (.int za), .val (.int zb), .val (.double sc), .second, .val (.double rp), .second, .unset, .unset, .unset, .unset, .unset, .unset, .unset, .unset, .unset, .unset] [(.double rm)])) rfl (hb hby at_39) rfl (l' := #[.val (.int p0), .val (.int p1), .val (.int p2), .val (.int p3), .val (.int za), .val (.int zb), .val (.double sc), .second, .val (.double rp), .second, .val (.double rm), .second, .unset, .unset, .unset, .unset, .unset, .unset, .unset, .unset]) rfl) ?_
  show own_Go _ _ _ _ _ _ _ (s₁.setTop (mkF m 41 #[.val (.int p0), .val (.int p1), .val (.int p2), .val (.int p3), .val (.int za), .val (.int zb), .val (.double sc), .second, .val (.double rp), .second, .val (.double rm), .second, .unset, .unset, .unset, .unset, .unset, .unset, .unset, .unset] []))
  refine own_go (fun _ q => XS.iloadN X0.here hx rfl (hb hby at_41) rfl q) ?_
  show own_Go _ _ _ _ _ _ _ (s₁.setTop (mkF m 42 #[.val (.int p0), .val (.int p1), .val (.int p2), .val (.int p3), .val (.int za), .val (.int zb), .val (.double sc), .second, .val (.double rp), .second, .val (.double rm), .second, .unset, .unset, .unset, .unset, .unset, .unset, .unset, .unset] [(.int p3)]))
  refine own_go (X0.ldcInt hx hown (mvT hZ (hw _ (List.mem_of_getElem? (i := 2) rfl))) (g := (mkF m 42 #[.val (.int p0), .val (.int p1), .val (.int p2), .val (.int p3), .val (.int za), .val (.int zb), .val (.double sc), .second, .val (.double rp), .second, .val (.double rm), .second, .unset, .unset, .unset, .unset, .unset, .unset, .unset, .unset] [(.int p3)])) rfl (hb hby at_42)) ?_
  show own_Go _ _ _ _ _ _ _ (s₁.setTop (mkF m 44 #[.val (.int p0), .val (.int p1), .val (.int p2), .val (.int p3), .val (.int za), .val (.int zb), .val (.double sc), .second, .val (.double rp), .second, .val (.double rm), .second, .unset, .unset, .unset, .unset, .unset, .unset, .unset, .unset] [(.int (65535 : Int32)), (.int p3)]))
  refine own_go (fun _ q => XS.iand X0.here hx rfl (hb hby at_44) rfl q) ?_
  show own_Go _ _ _ _ _ _ _ (s₁.setTop (mkF m 45 #[.val (.int p0), .val (.int p1), .val (.int p2), .val (.int p3), .val (.int za), .val (.int zb), .val (.double sc), .second, .val (.double rp), .second, .val (.double rm), .second, .unset, .unset, .unset, .unset, .unset, .unset, .unset, .unset] [(.int (p3 &&& (65535 : Int32)))]))
  refine own_go (own_i2d X0 hx (g := (mkF m 45 #[.val (.int p0), .val (.int p1), .val (.int p2), .val (.int p3), .val (.int za), .val (.int zb), .val (.double sc), .second, .val (.double rp), .second, .val (.double rm), .second, .unset, .unset, .unset, .unset, .unset, .unset, .unset, .unset] [(.int (p3 &&& (65535 : Int32)))])) rfl (hb hby at_45) rfl) ?_
  show own_Go _ _ _ _ _ _ _ (s₁.setTop (mkF m 46 #[.val (.int p0), .val (.int p1), .val (.int p2), .val (.int p3), .val (.int za), .val (.int zb), .val (.double sc), .second, .val (.double rp), .second, .val (.double rm), .second, .unset, .unset, .unset, .unset, .unset, .unset, .unset, .unset] [(.double (FP.i2d (p3 &&& (65535 : Int32))))]))
  refine own_go (own_dneg X0 hx (g := (mkF m 46 #[.val (.int p0), .val (.int p1), .val (.int p2), .val (.int p3), .val (.int za), .val (.int zb), .val (.double sc), .second, .val (.double rp), .second, .val (.double rm), .second, .unset, .unset, .unset, .unset, .unset, .unset, .unset, .unset] [(.double (FP.i2d (p3 &&& (65535 : Int32))))])) rfl (hb hby at_46) rfl) ?_
  show own_Go _ _ _ _ _ _ _ (s₁.setTop (mkF m 47 #[.val (.int p0), .val (.int p1), .val (.int p2), .val (.int p3), .val (.int za), .val (.int zb), .val (.double sc), .second, .val (.double rp), .second, .val (.double rm), .second, .unset, .unset, .unset, .unset, .unset, .unset, .unset, .unset] [(.double (FP.dneg (FP.i2d (p3 &&& (65535 : Int32)))))]))
  refine own_go (own_dstore X0 hx (g := (mkF m 47 #[.val (.int p0), .val (.int p1), .val (.int p2), .val (.int p3), .val (.int za), .val (.int zb), .val (.double sc), .second, .val (.double rp), .second, .val (.double rm), .second, .unset, .unset, .unset, .unset, .unset, .unset, .unset, .unset] [(.double (FP.dneg (FP.i2d (p3 &&& (65535 : Int32)))))])) rfl (hb hby at_47) rfl (l' := #[.val (.int p0), .val (.int p1), .val (.int p2), .val (.int p3), .val (.int za), .val (.int zb), .val (.double sc), .second, .val (.double rp), .second, .val (.double rm), .second, .val (.double (FP.dneg (FP.i2d (p3 &&& (65535 : Int32))))), .second, .unset, .unset, .unset, .unset, .unset, .unset]) rfl) ?_
  show own_Go _ _ _ _ _ _ _ (s₁.setTop (mkF m 49 #[.val (.int p0), .val (.int p1), .val (.int p2), .val (.int p3), .val (.int za), .val (.int zb), .val (.double sc), .second, .val (.double rp), .second, .val (.double rm), .second, .val (.double (FP.dneg (FP.i2d (p3 &&& (65535 : Int32))))), .second, .unset, .unset, .unset, .unset, .unset, .unset] []))
  obtain ⟨T1, h1, X1, e1, E1, A1, D1, -, st1⟩ := newO X0 hx hZ hown (hw _ (List.mem_of_getElem? (i := 3) rfl)) (hw _ (List.mem_of_getElem? (i := 4) rfl)) (hw _ (List.mem_of_getElem? (i := 5) rfl)) e0 (g := (mkF m 49 #[.val (.int p0), .val (.int p1), .val (.int p2), .val (.int p3), .val (.int za), .val (.int zb), .val (.double sc), .second, .val (.double rp), .second, .val (.double rm), .second, .val (.double (FP.dneg (FP.i2d (p3 &&& (65535 : Int32))))), .second, .unset, .unset, .unset, .unset, .unset, .unset] [])) rfl (hb hby at_49) (by decide) (by decide)
  obtain ⟨b1, g1⟩ : ∃ z, z = h0.size := ⟨_, rfl⟩
  rw [← g1] at A1 D1 st1
  have G1 : n0 ≤ b1 := by have := Z0; omega
  have Z1 : n0 ≤ h1.size := Nat.le_trans Z0 E1.1
  have Fn1_rPlus : Fld Z h1 b1 "com/example/hyperrelay/hyperrelay/study/Wilcoxon" "rPlus" "D" (.double (0 : UInt64)) := D1 (Or.inr (hw _ (List.mem_of_getElem? (i := 18) rfl))) (ty := .double) (by decide)
  have Fn1_rMinus : Fld Z h1 b1 "com/example/hyperrelay/hyperrelay/study/Wilcoxon" "rMinus" "D" (.double (0 : UInt64)) := D1 (Or.inr (hw _ (List.mem_of_getElem? (i := 20) rfl))) (ty := .double) (by decide)
  have Fn1_z : Fld Z h1 b1 "com/example/hyperrelay/hyperrelay/study/Wilcoxon" "z" "D" (.double (0 : UInt64)) := D1 (Or.inr (hw _ (List.mem_of_getElem? (i := 22) rfl))) (ty := .double) (by decide)
  have Fn1_p : Fld Z h1 b1 "com/example/hyperrelay/hyperrelay/study/Wilcoxon" "p" "D" (.double (0 : UInt64)) := D1 (Or.inr (hw _ (List.mem_of_getElem? (i := 24) rfl))) (ty := .double) (by decide)
  refine own_go st1 ?_
  show own_Go _ _ _ _ _ _ _ (T1.setTop (mkF m 52 #[.val (.int p0), .val (.int p1), .val (.int p2), .val (.int p3), .val (.int za), .val (.int zb), .val (.double sc), .second, .val (.double rp), .second, .val (.double rm), .second, .val (.double (FP.dneg (FP.i2d (p3 &&& (65535 : Int32))))), .second, .unset, .unset, .unset, .unset, .unset, .unset] [(.ref b1)]))
  refine own_go (fun _ q => XS.dup X1.here hx rfl (hb hby at_52) rfl rfl q) ?_
  show own_Go _ _ _ _ _ _ _ (T1.setTop (mkF m 53 #[.val (.int p0), .val (.int p1), .val (.int p2), .val (.int p3), .val (.int za), .val (.int zb), .val (.double sc), .second, .val (.double rp), .second, .val (.double rm), .second, .val (.double (FP.dneg (FP.i2d (p3 &&& (65535 : Int32))))), .second, .unset, .unset, .unset, .unset, .unset, .unset] [(.ref b1), (.ref b1)]))
  refine own_go (fun _ q => XT.dload X1.here hx rfl (hb hby at_53) rfl q) ?_
  show own_Go _ _ _ _ _ _ _ (T1.setTop (mkF m 55 #[.val (.int p0), .val (.int p1), .val (.int p2), .val (.int p3), .val (.int za), .val (.int zb), .val (.double sc), .second, .val (.double rp), .second, .val (.double rm), .second, .val (.double (FP.dneg (FP.i2d (p3 &&& (65535 : Int32))))), .second, .unset, .unset, .unset, .unset, .unset, .unset] [(.double rp), (.ref b1), (.ref b1)]))
  refine own_go (fun _ q => XT.dload X1.here hx rfl (hb hby at_55) rfl q) ?_
  show own_Go _ _ _ _ _ _ _ (T1.setTop (mkF m 57 #[.val (.int p0), .val (.int p1), .val (.int p2), .val (.int p3), .val (.int za), .val (.int zb), .val (.double sc), .second, .val (.double rp), .second, .val (.double rm), .second, .val (.double (FP.dneg (FP.i2d (p3 &&& (65535 : Int32))))), .second, .unset, .unset, .unset, .unset, .unset, .unset] [(.double rm), (.double rp), (.ref b1), (.ref b1)]))
  refine own_go (fun _ q => XT.dload X1.here hx rfl (hb hby at_57) rfl q) ?_
  show own_Go _ _ _ _ _ _ _ (T1.setTop (mkF m 59 #[.val (.int p0), .val (.int p1), .val (.int p2), .val (.int p3), .val (.int za), .val (.int zb), .val (.double sc), .second, .val (.double rp), .second, .val (.double rm), .second, .val (.double (FP.dneg (FP.i2d (p3 &&& (65535 : Int32))))), .second, .unset, .unset, .unset, .unset, .unset, .unset] [(.double (FP.dneg (FP.i2d (p3 &&& (65535 : Int32))))), (.double rm), (.double rp), (.ref b1), (.ref b1)]))
  refine own_go (own_dconst1 X1 hx (g := (mkF m 59 #[.val (.int p0), .val (.int p1), .val (.int p2), .val (.int p3), .val (.int za), .val (.int zb), .val (.double sc), .second, .val (.double rp), .second, .val (.double rm), .second, .val (.double (FP.dneg (FP.i2d (p3 &&& (65535 : Int32))))), .second, .unset, .unset, .unset, .unset, .unset, .unset] [(.double (FP.dneg (FP.i2d (p3 &&& (65535 : Int32))))), (.double rm), (.double rp), (.ref b1), (.ref b1)])) rfl (hb hby at_59)) ?_
  show own_Go _ _ _ _ _ _ _ (T1.setTop (mkF m 60 #[.val (.int p0), .val (.int p1), .val (.int p2), .val (.int p3), .val (.int za), .val (.int zb), .val (.double sc), .second, .val (.double rp), .second, .val (.double rm), .second, .val (.double (FP.dneg (FP.i2d (p3 &&& (65535 : Int32))))), .second, .unset, .unset, .unset, .unset, .unset, .unset] [(.double FP.dconst1), (.double (FP.dneg (FP.i2d (p3 &&& (65535 : Int32))))), (.double rm), (.double rp), (.ref b1), (.ref b1)]))
  refine own_init X1 hx hZ rfl hown (hw _ (List.mem_of_getElem? (i := 6) rfl)) (hw _ (List.mem_of_getElem? (i := 7) rfl)) (hw _ (List.mem_of_getElem? (i := 5) rfl)) (hw _ (List.mem_of_getElem? (i := 8) rfl)) (by decide) e1 (a := b1) (argsL := [(.double rp), (.double rm), (.double (FP.dneg (FP.i2d (p3 &&& (65535 : Int32))))), (.double FP.dconst1)]) (rest := [(.ref b1)]) (rm1 l Z a0 hw [] b1 rp rm (FP.dneg (FP.i2d (p3 &&& (65535 : Int32)))) FP.dconst1 h1 n0 Z1 A1 Fn1_rPlus Fn1_rMinus Fn1_z Fn1_p G1) 1 (by decide) (by decide) (by decide) (by decide) (by rw [hml]; rfl) pd_1 rfl rfl (Nat.le_of_eq rfl) (hb hby at_60) rfl ?_
  intro v2 T2 L2 X2 hQ2
  obtain ⟨rfl, N2q, zz2, Eo, F1, F2⟩ := hQ2
  have N2 := Fr.app N0 N2q
  show own_Go _ _ _ _ _ _ _ (T2.setTop (mkF m 63 #[.val (.int p0), .val (.int p1), .val (.int p2), .val (.int p3), .val (.int za), .val (.int zb), .val (.double sc), .second, .val (.double rp), .second, .val (.double rm), .second, .val (.double (FP.dneg (FP.i2d (p3 &&& (65535 : Int32))))), .second, .unset, .unset, .unset, .unset, .unset, .unset] [(.ref b1)]))
  have Z2 : n0 ≤ T2.heap.size := Nat.le_trans Z1 zz2
  refine own_go (fun _ q => XS.astore X2.here hx rfl (hb hby at_63) rfl rfl (l' := #[.val (.int p0), .val (.int p1), .val (.int p2), .val (.int p3), .val (.int za), .val (.int zb), .val (.double sc), .second, .val (.double rp), .second, .val (.double rm), .second, .val (.double (FP.dneg (FP.i2d (p3 &&& (65535 : Int32))))), .second, .val (.ref b1), .unset, .unset, .unset, .unset, .unset]) rfl q) ?_
  show own_Go _ _ _ _ _ _ _ (T2.setTop (mkF m 65 #[.val (.int p0), .val (.int p1), .val (.int p2), .val (.int p3), .val (.int za), .val (.int zb), .val (.double sc), .second, .val (.double rp), .second, .val (.double rm), .second, .val (.double (FP.dneg (FP.i2d (p3 &&& (65535 : Int32))))), .second, .val (.ref b1), .unset, .unset, .unset, .unset, .unset] []))
  refine own_go (fun _ q => XS.aload X2.here hx rfl (hb hby at_65) rfl rfl q) ?_
  show own_Go _ _ _ _ _ _ _ (T2.setTop (mkF m 67 #[.val (.int p0), .val (.int p1), .val (.int p2), .val (.int p3), .val (.int za), .val (.int zb), .val (.double sc), .second, .val (.double rp), .second, .val (.double rm), .second, .val (.double (FP.dneg (FP.i2d (p3 &&& (65535 : Int32))))), .second, .val (.ref b1), .unset, .unset, .unset, .unset, .unset] [(.ref b1)]))
  refine own_virtual X2 hx hZ hown (hw _ (List.mem_of_getElem? (i := 25) rfl)) (hw _ (List.mem_of_getElem? (i := 26) rfl)) (hw _ (List.mem_of_getElem? (i := 28) rfl)) (hw _ (List.mem_of_getElem? (i := 27) rfl)) (hw _ (List.mem_of_getElem? (i := 5) rfl)) (hw _ (List.mem_of_getElem? (i := 29) rfl)) (by decide) rfl (a := b1) Eo (argsL := []) (rest := []) (rm4 l Z a0 hw [] b1 rp rm (a * 2 ^ k) (b * 2 ^ k) T2.heap n0 Z2 F1 F2 Hrp Hrm (by omega)) 0 (by decide) (by decide) (by decide) (by decide) (by rw [hml]; rfl) pd_2 rfl rfl (Nat.le_of_eq rfl) (hb hby at_67) rfl ?_
  intro v3 T3 L3 X3 hQ3
  obtain ⟨s0, rfl, N3q, e3q, hs0, hs1⟩ := hQ3
  have N3 := Fr.app N2 N3q
  show own_Go _ _ _ _ _ _ _ (T3.setTop (mkF m 70 #[.val (.int p0), .val (.int p1), .val (.int p2), .val (.int p3), .val (.int za), .val (.int zb), .val (.double sc), .second, .val (.double rp), .second, .val (.double rm), .second, .val (.double (FP.dneg (FP.i2d (p3 &&& (65535 : Int32))))), .second, .val (.ref b1), .unset, .unset, .unset, .unset, .unset] [(.double s0)]))
  refine own_go (own_dstore X3 hx (g := (mkF m 70 #[.val (.int p0), .val (.int p1), .val (.int p2), .val (.int p3), .val (.int za), .val (.int zb), .val (.double sc), .second, .val (.double rp), .second, .val (.double rm), .second, .val (.double (FP.dneg (FP.i2d (p3 &&& (65535 : Int32))))), .second, .val (.ref b1), .unset, .unset, .unset, .unset, .unset] [(.double s0)])) rfl (hb hby at_70) rfl (l' := #[.val (.int p0), .val (.int p1), .val (.int p2), .val (.int p3), .val (.int za), .val (.int zb), .val (.double sc), .second, .val (.double rp), .second, .val (.double rm), .second, .val (.double (FP.dneg (FP.i2d (p3 &&& (65535 : Int32))))), .second, .val (.ref b1), .val (.double s0), .second, .unset, .unset, .unset]) rfl) ?_
  show own_Go _ _ _ _ _ _ _ (T3.setTop (mkF m 72 #[.val (.int p0), .val (.int p1), .val (.int p2), .val (.int p3), .val (.int za), .val (.int zb), .val (.double sc), .second, .val (.double rp), .second, .val (.double rm), .second, .val (.double (FP.dneg (FP.i2d (p3 &&& (65535 : Int32))))), .second, .val (.ref b1), .val (.double s0), .second, .unset, .unset, .unset] []))
  refine own_go (fun _ q => XS.iload X3.here hx rfl (hb hby at_72) rfl q) ?_
  show own_Go _ _ _ _ _ _ _ (T3.setTop (mkF m 74 #[.val (.int p0), .val (.int p1), .val (.int p2), .val (.int p3), .val (.int za), .val (.int zb), .val (.double sc), .second, .val (.double rp), .second, .val (.double rm), .second, .val (.double (FP.dneg (FP.i2d (p3 &&& (65535 : Int32))))), .second, .val (.ref b1), .val (.double s0), .second, .unset, .unset, .unset] [(.int za)]))
  refine own_go (fun _ q => XS.iload X3.here hx rfl (hb hby at_74) rfl q) ?_
  show own_Go _ _ _ _ _ _ _ (T3.setTop (mkF m 76 #[.val (.int p0), .val (.int p1), .val (.int p2), .val (.int p3), .val (.int za), .val (.int zb), .val (.double sc), .second, .val (.double rp), .second, .val (.double rm), .second, .val (.double (FP.dneg (FP.i2d (p3 &&& (65535 : Int32))))), .second, .val (.ref b1), .val (.double s0), .second, .unset, .unset, .unset] [(.int zb), (.int za)]))
  refine own_go (fun _ q => XS.iadd X3.here hx rfl (hb hby at_76) rfl q) ?_
  show own_Go _ _ _ _ _ _ _ (T3.setTop (mkF m 77 #[.val (.int p0), .val (.int p1), .val (.int p2), .val (.int p3), .val (.int za), .val (.int zb), .val (.double sc), .second, .val (.double rp), .second, .val (.double rm), .second, .val (.double (FP.dneg (FP.i2d (p3 &&& (65535 : Int32))))), .second, .val (.ref b1), .val (.double s0), .second, .unset, .unset, .unset] [(.int (za + zb))]))
  have hab := own_sum ha hb_ ha2 hb2
  by_cases hz : (za + zb) = (0 : Int32)
  · refine own_go (fun _ q => XS.ifNo X3.here hx rfl (hb hby at_77) rfl ((if0 _ _).trans (teq hz).2) q) ?_
    show own_Go _ _ _ _ _ _ _ (T3.setTop (mkF m 80 #[.val (.int p0), .val (.int p1), .val (.int p2), .val (.int p3), .val (.int za), .val (.int zb), .val (.double sc), .second, .val (.double rp), .second, .val (.double rm), .second, .val (.double (FP.dneg (FP.i2d (p3 &&& (65535 : Int32))))), .second, .val (.ref b1), .val (.double s0), .second, .unset, .unset, .unset] []))
    have hn0 : a + b = 0 := by have := congrArg Int32.toInt hz; have e0 : (0 : Int32).toInt = 0 := rfl; omega
    obtain rfl : s0 = own_half := hs0 (by rw [← Nat.add_mul, hn0, Nat.zero_mul])
    show own_Go _ _ _ _ _ _ _ (T3.setTop (mkF m 80 #[.val (.int p0), .val (.int p1), .val (.int p2), .val (.int p3), .val (.int za), .val (.int zb), .val (.double sc), .second, .val (.double rp), .second, .val (.double rm), .second, .val (.double (FP.dneg (FP.i2d (p3 &&& (65535 : Int32))))), .second, .val (.ref b1), .val (.double own_half), .second, .unset, .unset, .unset] []))
    refine own_go (fun _ q => XT.dload X3.here hx rfl (hb hby at_80) rfl q) ?_
    show own_Go _ _ _ _ _ _ _ (T3.setTop (mkF m 82 #[.val (.int p0), .val (.int p1), .val (.int p2), .val (.int p3), .val (.int za), .val (.int zb), .val (.double sc), .second, .val (.double rp), .second, .val (.double rm), .second, .val (.double (FP.dneg (FP.i2d (p3 &&& (65535 : Int32))))), .second, .val (.ref b1), .val (.double own_half), .second, .unset, .unset, .unset] [(.double own_half)]))
    refine own_go (X3.ldc2DoubleC hx hown (mvT hZ (hw _ (List.mem_of_getElem? (i := 1) rfl))) (g := (mkF m 82 #[.val (.int p0), .val (.int p1), .val (.int p2), .val (.int p3), .val (.int za), .val (.int zb), .val (.double sc), .second, .val (.double rp), .second, .val (.double rm), .second, .val (.double (FP.dneg (FP.i2d (p3 &&& (65535 : Int32))))), .second, .val (.ref b1), .val (.double own_half), .second, .unset, .unset, .unset] [(.double own_half)])) rfl (hb hby at_82)) ?_
    show own_Go _ _ _ _ _ _ _ (T3.setTop (mkF m 85 #[.val (.int p0), .val (.int p1), .val (.int p2), .val (.int p3), .val (.int za), .val (.int zb), .val (.double sc), .second, .val (.double rp), .second, .val (.double rm), .second, .val (.double (FP.dneg (FP.i2d (p3 &&& (65535 : Int32))))), .second, .val (.ref b1), .val (.double own_half), .second, .unset, .unset, .unset] [(.double (4602678819172646912 : UInt64)), (.double own_half)]))
    refine own_go (own_dcmp X3 hx (g := (mkF m 85 #[.val (.int p0), .val (.int p1), .val (.int p2), .val (.int p3), .val (.int za), .val (.int zb), .val (.double sc), .second, .val (.double rp), .second, .val (.double rm), .second, .val (.double (FP.dneg (FP.i2d (p3 &&& (65535 : Int32))))), .second, .val (.ref b1), .val (.double own_half), .second, .unset, .unset, .unset] [(.double (4602678819172646912 : UInt64)), (.double own_half)])) rfl (o := .eq) (own_H_cmp own_H_half own_H_half) (hb hby at_85) rfl) ?_
    show own_Go _ _ _ _ _ _ _ (T3.setTop (mkF m 86 #[.val (.int p0), .val (.int p1), .val (.int p2), .val (.int p3), .val (.int za), .val (.int zb), .val (.double sc), .second, .val (.double rp), .second, .val (.double rm), .second, .val (.double (FP.dneg (FP.i2d (p3 &&& (65535 : Int32))))), .second, .val (.ref b1), .val (.double own_half), .second, .unset, .unset, .unset] [(.int (0 : Int32))]))
    refine own_go (fun _ q => XS.ifNo X3.here hx rfl (hb hby at_86) rfl ((if0 _ _).trans (teq (by decide : (0 : Int32) = (0 : Int32))).2) q) ?_
    show own_Go _ _ _ _ _ _ _ (T3.setTop (mkF m 89 #[.val (.int p0), .val (.int p1), .val (.int p2), .val (.int p3), .val (.int za), .val (.int zb), .val (.double sc), .second, .val (.double rp), .second, .val (.double rm), .second, .val (.double (FP.dneg (FP.i2d (p3 &&& (65535 : Int32))))), .second, .val (.ref b1), .val (.double own_half), .second, .unset, .unset, .unset] []))
    refine own_go (fun _ q => XS.iconst X3.here hx rfl (hb hby at_89) q) ?_
    show own_Go _ _ _ _ _ _ _ (T3.setTop (mkF m 90 #[.val (.int p0), .val (.int p1), .val (.int p2), .val (.int p3), .val (.int za), .val (.int zb), .val (.double sc), .second, .val (.double rp), .second, .val (.double rm), .second, .val (.double (FP.dneg (FP.i2d (p3 &&& (65535 : Int32))))), .second, .val (.ref b1), .val (.double own_half), .second, .unset, .unset, .unset] [(.int (1 : Int32))]))
    refine own_go (fun _ q => XS.goto X3.here hx rfl (pc0 := 90) (pc' := 94) rfl (hb hby at_90) (by decide) (by decide) q) ?_
    show own_Go _ _ _ _ _ _ _ (T3.setTop (mkF m 94 #[.val (.int p0), .val (.int p1), .val (.int p2), .val (.int p3), .val (.int za), .val (.int zb), .val (.double sc), .second, .val (.double rp), .second, .val (.double rm), .second, .val (.double (FP.dneg (FP.i2d (p3 &&& (65535 : Int32))))), .second, .val (.ref b1), .val (.double own_half), .second, .unset, .unset, .unset] [(.int (1 : Int32))]))
    exact own_retZ X3 hx hlk hret (hb hby at_94) (by decide) (by decide) (by decide) ⟨rfl, N3⟩
  · refine own_go (fun _ q => XS.ifYes X3.here hx rfl (pc0 := 77) (pc' := 95) rfl (hb hby at_77) rfl ((if0 _ _).trans (feq hz).2) (by decide) (by decide) q) ?_
    show own_Go _ _ _ _ _ _ _ (T3.setTop (mkF m 95 #[.val (.int p0), .val (.int p1), .val (.int p2), .val (.int p3), .val (.int za), .val (.int zb), .val (.double sc), .second, .val (.double rp), .second, .val (.double rm), .second, .val (.double (FP.dneg (FP.i2d (p3 &&& (65535 : Int32))))), .second, .val (.ref b1), .val (.double s0), .second, .unset, .unset, .unset] []))
    have hn0 : 0 < a + b := by have := own_neI hz; have e0 : (0 : Int32).toInt = 0 := rfl; omega
    have DS := own_scale hn0 (hs1 (by rw [← Nat.add_mul]; exact Nat.mul_pos hn0 hp.1))
    have DE : FP.Core.val64 (FP.ddiv (FP.i2d zb) (FP.i2d (za + zb))) = FP.Core.roundRatio FP.Core.b64 false b (a + b) 0 := own_two hn0 (own_H_div HIrm (own_H_int (FP.Core.val64_i2d _) hab (by omega)) (by omega))
    refine own_go (fun _ q => XS.iload X3.here hx rfl (hb hby at_95) rfl q) ?_
    show own_Go _ _ _ _ _ _ _ (T3.setTop (mkF m 97 #[.val (.int p0), .val (.int p1), .val (.int p2), .val (.int p3), .val (.int za), .val (.int zb), .val (.double sc), .second, .val (.double rp), .second, .val (.double rm), .second, .val (.double (FP.dneg (FP.i2d (p3 &&& (65535 : Int32))))), .second, .val (.ref b1), .val (.double s0), .second, .unset, .unset, .unset] [(.int zb)]))
    refine own_go (own_i2d X3 hx (g := (mkF m 97 #[.val (.int p0), .val (.int p1), .val (.int p2), .val (.int p3), .val (.int za), .val (.int zb), .val (.double sc), .second, .val (.double rp), .second, .val (.double rm), .second, .val (.double (FP.dneg (FP.i2d (p3 &&& (65535 : Int32))))), .second, .val (.ref b1), .val (.double s0), .second, .unset, .unset, .unset] [(.int zb)])) rfl (hb hby at_97) rfl) ?_
    show own_Go _ _ _ _ _ _ _ (T3.setTop (mkF m 98 #[.val (.int p0), .val (.int p1), .val (.int p2), .val (.int p3), .val (.int za), .val (.int zb), .val (.double sc), .second, .val (.double rp), .second, .val (.double rm), .second, .val (.double (FP.dneg (FP.i2d (p3 &&& (65535 : Int32))))), .second, .val (.ref b1), .val (.double s0), .second, .unset, .unset, .unset] [(.double (FP.i2d zb))]))
    refine own_go (fun _ q => XS.iload X3.here hx rfl (hb hby at_98) rfl q) ?_
    show own_Go _ _ _ _ _ _ _ (T3.setTop (mkF m 100 #[.val (.int p0), .val (.int p1), .val (.int p2), .val (.int p3), .val (.int za), .val (.int zb), .val (.double sc), .second, .val (.double rp), .second, .val (.double rm), .second, .val (.double (FP.dneg (FP.i2d (p3 &&& (65535 : Int32))))), .second, .val (.ref b1), .val (.double s0), .second, .unset, .unset, .unset] [(.int za), (.double (FP.i2d zb))]))
    refine own_go (fun _ q => XS.iload X3.here hx rfl (hb hby at_100) rfl q) ?_
    show own_Go _ _ _ _ _ _ _ (T3.setTop (mkF m 102 #[.val (.int p0), .val (.int p1), .val (.int p2), .val (.int p3), .val (.int za), .val (.int zb), .val (.double sc), .second, .val (.double rp), .second, .val (.double rm), .second, .val (.double (FP.dneg (FP.i2d (p3 &&& (65535 : Int32))))), .second, .val (.ref b1), .val (.double s0), .second, .unset, .unset, .unset] [(.int zb), (.int za), (.double (FP.i2d zb))]))
    refine own_go (fun _ q => XS.iadd X3.here hx rfl (hb hby at_102) rfl q) ?_
    show own_Go _ _ _ _ _ _ _ (T3.setTop (mkF m 103 #[.val (.int p0), .val (.int p1), .val (.int p2), .val (.int p3), .val (.int za), .val (.int zb), .val (.double sc), .second, .val (.double rp), .second, .val (.double rm), .second, .val (.double (FP.dneg (FP.i2d (p3 &&& (65535 : Int32))))), .second, .val (.ref b1), .val (.double s0), .second, .unset, .unset, .unset] [(.int (za + zb)), (.double (FP.i2d zb))]))
    refine own_go (own_i2d X3 hx (g := (mkF m 103 #[.val (.int p0), .val (.int p1), .val (.int p2), .val (.int p3), .val (.int za), .val (.int zb), .val (.double sc), .second, .val (.double rp), .second, .val (.double rm), .second, .val (.double (FP.dneg (FP.i2d (p3 &&& (65535 : Int32))))), .second, .val (.ref b1), .val (.double s0), .second, .unset, .unset, .unset] [(.int (za + zb)), (.double (FP.i2d zb))])) rfl (hb hby at_103) rfl) ?_
    show own_Go _ _ _ _ _ _ _ (T3.setTop (mkF m 104 #[.val (.int p0), .val (.int p1), .val (.int p2), .val (.int p3), .val (.int za), .val (.int zb), .val (.double sc), .second, .val (.double rp), .second, .val (.double rm), .second, .val (.double (FP.dneg (FP.i2d (p3 &&& (65535 : Int32))))), .second, .val (.ref b1), .val (.double s0), .second, .unset, .unset, .unset] [(.double (FP.i2d (za + zb))), (.double (FP.i2d zb))]))
    refine own_go (own_ddiv X3 hx (g := (mkF m 104 #[.val (.int p0), .val (.int p1), .val (.int p2), .val (.int p3), .val (.int za), .val (.int zb), .val (.double sc), .second, .val (.double rp), .second, .val (.double rm), .second, .val (.double (FP.dneg (FP.i2d (p3 &&& (65535 : Int32))))), .second, .val (.ref b1), .val (.double s0), .second, .unset, .unset, .unset] [(.double (FP.i2d (za + zb))), (.double (FP.i2d zb))])) rfl (hb hby at_104) rfl (own_num (own_D DE hn0).1)) ?_
    show own_Go _ _ _ _ _ _ _ (T3.setTop (mkF m 105 #[.val (.int p0), .val (.int p1), .val (.int p2), .val (.int p3), .val (.int za), .val (.int zb), .val (.double sc), .second, .val (.double rp), .second, .val (.double rm), .second, .val (.double (FP.dneg (FP.i2d (p3 &&& (65535 : Int32))))), .second, .val (.ref b1), .val (.double s0), .second, .unset, .unset, .unset] [(.double (FP.ddiv (FP.i2d zb) (FP.i2d (za + zb))))]))
    obtain ⟨ex, h_ex⟩ : ∃ z, z = (FP.ddiv (FP.i2d zb) (FP.i2d (za + zb))) := ⟨_, rfl⟩
    rw [← h_ex] at DE ⊢
    show own_Go _ _ _ _ _ _ _ (T3.setTop (mkF m 105 #[.val (.int p0), .val (.int p1), .val (.int p2), .val (.int p3), .val (.int za), .val (.int zb), .val (.double sc), .second, .val (.double rp), .second, .val (.double rm), .second, .val (.double (FP.dneg (FP.i2d (p3 &&& (65535 : Int32))))), .second, .val (.ref b1), .val (.double s0), .second, .unset, .unset, .unset] [(.double ex)]))
    refine own_go (own_dstore X3 hx (g := (mkF m 105 #[.val (.int p0), .val (.int p1), .val (.int p2), .val (.int p3), .val (.int za), .val (.int zb), .val (.double sc), .second, .val (.double rp), .second, .val (.double rm), .second, .val (.double (FP.dneg (FP.i2d (p3 &&& (65535 : Int32))))), .second, .val (.ref b1), .val (.double s0), .second, .unset, .unset, .unset] [(.double ex)])) rfl (hb hby at_105) rfl (l' := #[.val (.int p0), .val (.int p1), .val (.int p2), .val (.int p3), .val (.int za), .val (.int zb), .val (.double sc), .second, .val (.double rp), .second, .val (.double rm), .second, .val (.double (FP.dneg (FP.i2d (p3 &&& (65535 : Int32))))), .second, .val (.ref b1), .val (.double s0), .second, .val (.double ex), .second, .unset]) rfl) ?_
    show own_Go _ _ _ _ _ _ _ (T3.setTop (mkF m 107 #[.val (.int p0), .val (.int p1), .val (.int p2), .val (.int p3), .val (.int za), .val (.int zb), .val (.double sc), .second, .val (.double rp), .second, .val (.double rm), .second, .val (.double (FP.dneg (FP.i2d (p3 &&& (65535 : Int32))))), .second, .val (.ref b1), .val (.double s0), .second, .val (.double ex), .second, .unset] []))
    refine own_go (fun _ q => XT.dload X3.here hx rfl (hb hby at_107) rfl q) ?_
    show own_Go _ _ _ _ _ _ _ (T3.setTop (mkF m 109 #[.val (.int p0), .val (.int p1), .val (.int p2), .val (.int p3), .val (.int za), .val (.int zb), .val (.double sc), .second, .val (.double rp), .second, .val (.double rm), .second, .val (.double (FP.dneg (FP.i2d (p3 &&& (65535 : Int32))))), .second, .val (.ref b1), .val (.double s0), .second, .val (.double ex), .second, .unset] [(.double s0)]))
    refine own_go (fun _ q => XT.dload X3.here hx rfl (hb hby at_109) rfl q) ?_
    show own_Go _ _ _ _ _ _ _ (T3.setTop (mkF m 111 #[.val (.int p0), .val (.int p1), .val (.int p2), .val (.int p3), .val (.int za), .val (.int zb), .val (.double sc), .second, .val (.double rp), .second, .val (.double rm), .second, .val (.double (FP.dneg (FP.i2d (p3 &&& (65535 : Int32))))), .second, .val (.ref b1), .val (.double s0), .second, .val (.double ex), .second, .unset] [(.double ex), (.double s0)]))
    refine own_go (own_dcmp X3 hx (g := (mkF m 111 #[.val (.int p0), .val (.int p1), .val (.int p2), .val (.int p3), .val (.int za), .val (.int zb), .val (.double sc), .second, .val (.double rp), .second, .val (.double rm), .second, .val (.double (FP.dneg (FP.i2d (p3 &&& (65535 : Int32))))), .second, .val (.ref b1), .val (.double s0), .second, .val (.double ex), .second, .unset] [(.double ex), (.double s0)])) rfl (o := .eq) (own_same DS DE hn0) (hb hby at_111) rfl) ?_
    show own_Go _ _ _ _ _ _ _ (T3.setTop (mkF m 112 #[.val (.int p0), .val (.int p1), .val (.int p2), .val (.int p3), .val (.int za), .val (.int zb), .val (.double sc), .second, .val (.double rp), .second, .val (.double rm), .second, .val (.double (FP.dneg (FP.i2d (p3 &&& (65535 : Int32))))), .second, .val (.ref b1), .val (.double s0), .second, .val (.double ex), .second, .unset] [(.int (0 : Int32))]))
    refine own_go (fun _ q => XS.ifNo X3.here hx rfl (hb hby at_112) rfl ((if0 _ _).trans (teq (by decide : (0 : Int32) = (0 : Int32))).2) q) ?_
    show own_Go _ _ _ _ _ _ _ (T3.setTop (mkF m 115 #[.val (.int p0), .val (.int p1), .val (.int p2), .val (.int p3), .val (.int za), .val (.int zb), .val (.double sc), .second, .val (.double rp), .second, .val (.double rm), .second, .val (.double (FP.dneg (FP.i2d (p3 &&& (65535 : Int32))))), .second, .val (.ref b1), .val (.double s0), .second, .val (.double ex), .second, .unset] []))
    refine own_go (fun _ q => XS.iconst X3.here hx rfl (hb hby at_115) q) ?_
    show own_Go _ _ _ _ _ _ _ (T3.setTop (mkF m 116 #[.val (.int p0), .val (.int p1), .val (.int p2), .val (.int p3), .val (.int za), .val (.int zb), .val (.double sc), .second, .val (.double rp), .second, .val (.double rm), .second, .val (.double (FP.dneg (FP.i2d (p3 &&& (65535 : Int32))))), .second, .val (.ref b1), .val (.double s0), .second, .val (.double ex), .second, .unset] [(.int (1 : Int32))]))
    refine own_go (fun _ q => XS.goto X3.here hx rfl (pc0 := 116) (pc' := 120) rfl (hb hby at_116) (by decide) (by decide) q) ?_
    show own_Go _ _ _ _ _ _ _ (T3.setTop (mkF m 120 #[.val (.int p0), .val (.int p1), .val (.int p2), .val (.int p3), .val (.int za), .val (.int zb), .val (.double sc), .second, .val (.double rp), .second, .val (.double rm), .second, .val (.double (FP.dneg (FP.i2d (p3 &&& (65535 : Int32))))), .second, .val (.ref b1), .val (.double s0), .second, .val (.double ex), .second, .unset] [(.int (1 : Int32))]))
    refine own_go (fun _ q => XS.istore X3.here hx rfl (hb hby at_120) rfl (l' := #[.val (.int p0), .val (.int p1), .val (.int p2), .val (.int p3), .val (.int za), .val (.int zb), .val (.double sc), .second, .val (.double rp), .second, .val (.double rm), .second, .val (.double (FP.dneg (FP.i2d (p3 &&& (65535 : Int32))))), .second, .val (.ref b1), .val (.double s0), .second, .val (.double ex), .second, .val (.int (1 : Int32))]) rfl q) ?_
    show own_Go _ _ _ _ _ _ _ (T3.setTop (mkF m 122 #[.val (.int p0), .val (.int p1), .val (.int p2), .val (.int p3), .val (.int za), .val (.int zb), .val (.double sc), .second, .val (.double rp), .second, .val (.double rm), .second, .val (.double (FP.dneg (FP.i2d (p3 &&& (65535 : Int32))))), .second, .val (.ref b1), .val (.double s0), .second, .val (.double ex), .second, .val (.int (1 : Int32))] []))
    refine own_go (fun _ q => XS.iload X3.here hx rfl (hb hby at_122) rfl q) ?_
    show own_Go _ _ _ _ _ _ _ (T3.setTop (mkF m 124 #[.val (.int p0), .val (.int p1), .val (.int p2), .val (.int p3), .val (.int za), .val (.int zb), .val (.double sc), .second, .val (.double rp), .second, .val (.double rm), .second, .val (.double (FP.dneg (FP.i2d (p3 &&& (65535 : Int32))))), .second, .val (.ref b1), .val (.double s0), .second, .val (.double ex), .second, .val (.int (1 : Int32))] [(.int (1 : Int32))]))
    refine own_go (fun _ q => XS.ifNo X3.here hx rfl (hb hby at_124) rfl ((if0 _ _).trans (feq (by decide : ¬ ((1 : Int32) = (0 : Int32)))).1) q) ?_
    show own_Go _ _ _ _ _ _ _ (T3.setTop (mkF m 127 #[.val (.int p0), .val (.int p1), .val (.int p2), .val (.int p3), .val (.int za), .val (.int zb), .val (.double sc), .second, .val (.double rp), .second, .val (.double rm), .second, .val (.double (FP.dneg (FP.i2d (p3 &&& (65535 : Int32))))), .second, .val (.ref b1), .val (.double s0), .second, .val (.double ex), .second, .val (.int (1 : Int32))] []))
    refine own_go (own_dconst0 X3 hx (g := (mkF m 127 #[.val (.int p0), .val (.int p1), .val (.int p2), .val (.int p3), .val (.int za), .val (.int zb), .val (.double sc), .second, .val (.double rp), .second, .val (.double rm), .second, .val (.double (FP.dneg (FP.i2d (p3 &&& (65535 : Int32))))), .second, .val (.ref b1), .val (.double s0), .second, .val (.double ex), .second, .val (.int (1 : Int32))] [])) rfl (hb hby at_127)) ?_
    show own_Go _ _ _ _ _ _ _ (T3.setTop (mkF m 128 #[.val (.int p0), .val (.int p1), .val (.int p2), .val (.int p3), .val (.int za), .val (.int zb), .val (.double sc), .second, .val (.double rp), .second, .val (.double rm), .second, .val (.double (FP.dneg (FP.i2d (p3 &&& (65535 : Int32))))), .second, .val (.ref b1), .val (.double s0), .second, .val (.double ex), .second, .val (.int (1 : Int32))] [(.double FP.dconst0)]))
    refine own_go (fun _ q => XT.dload X3.here hx rfl (hb hby at_128) rfl q) ?_
    show own_Go _ _ _ _ _ _ _ (T3.setTop (mkF m 130 #[.val (.int p0), .val (.int p1), .val (.int p2), .val (.int p3), .val (.int za), .val (.int zb), .val (.double sc), .second, .val (.double rp), .second, .val (.double rm), .second, .val (.double (FP.dneg (FP.i2d (p3 &&& (65535 : Int32))))), .second, .val (.ref b1), .val (.double s0), .second, .val (.double ex), .second, .val (.int (1 : Int32))] [(.double s0), (.double FP.dconst0)]))
    have h21 : a + b < 2 ^ 21 := by omega
    rcases own_cases a b hn0 with ⟨q1, q2⟩ | ⟨q1, q2⟩ | ⟨q1, q2, q3⟩ | ⟨q1, q2⟩ | ⟨q1, q2, q3⟩
    · refine own_go (own_dcmp X3 hx (g := (mkF m 130 #[.val (.int p0), .val (.int p1), .val (.int p2), .val (.int p3), .val (.int za), .val (.int zb), .val (.double sc), .second, .val (.double rp), .second, .val (.double rm), .second, .val (.double (FP.dneg (FP.i2d (p3 &&& (65535 : Int32))))), .second, .val (.ref b1), .val (.double s0), .second, .val (.double ex), .second, .val (.int (1 : Int32))] [(.double s0), (.double FP.dconst0)])) rfl (o := .lt) (own_zero_gt DS hn0 h21 (by omega)).2 (hb hby at_130) rfl) ?_
      show own_Go _ _ _ _ _ _ _ (T3.setTop (mkF m 131 #[.val (.int p0), .val (.int p1), .val (.int p2), .val (.int p3), .val (.int za), .val (.int zb), .val (.double sc), .second, .val (.double rp), .second, .val (.double rm), .second, .val (.double (FP.dneg (FP.i2d (p3 &&& (65535 : Int32))))), .second, .val (.ref b1), .val (.double s0), .second, .val (.double ex), .second, .val (.int (1 : Int32))] [(.int (-1 : Int32))]))
      refine own_go (fun _ q => XS.ifNo X3.here hx rfl (hb hby at_131) rfl ((if0 _ _).trans (flt (by decide : ¬ ((0 : Int32) < (-1 : Int32)))).2.2.1) q) ?_
      show own_Go _ _ _ _ _ _ _ (T3.setTop (mkF m 134 #[.val (.int p0), .val (.int p1), .val (.int p2), .val (.int p3), .val (.int za), .val (.int zb), .val (.double sc), .second, .val (.double rp), .second, .val (.double rm), .second, .val (.double (FP.dneg (FP.i2d (p3 &&& (65535 : Int32))))), .second, .val (.ref b1), .val (.double s0), .second, .val (.double ex), .second, .val (.int (1 : Int32))] []))
      refine own_go (fun _ q => XT.dload X3.here hx rfl (hb hby at_134) rfl q) ?_
      show own_Go _ _ _ _ _ _ _ (T3.setTop (mkF m 136 #[.val (.int p0), .val (.int p1), .val (.int p2), .val (.int p3), .val (.int za), .val (.int zb), .val (.double sc), .second, .val (.double rp), .second, .val (.double rm), .second, .val (.double (FP.dneg (FP.i2d (p3 &&& (65535 : Int32))))), .second, .val (.ref b1), .val (.double s0), .second, .val (.double ex), .second, .val (.int (1 : Int32))] [(.double s0)]))
      refine own_go (own_dconst1 X3 hx (g := (mkF m 136 #[.val (.int p0), .val (.int p1), .val (.int p2), .val (.int p3), .val (.int za), .val (.int zb), .val (.double sc), .second, .val (.double rp), .second, .val (.double rm), .second, .val (.double (FP.dneg (FP.i2d (p3 &&& (65535 : Int32))))), .second, .val (.ref b1), .val (.double s0), .second, .val (.double ex), .second, .val (.int (1 : Int32))] [(.double s0)])) rfl (hb hby at_136)) ?_
      show own_Go _ _ _ _ _ _ _ (T3.setTop (mkF m 137 #[.val (.int p0), .val (.int p1), .val (.int p2), .val (.int p3), .val (.int za), .val (.int zb), .val (.double sc), .second, .val (.double rp), .second, .val (.double rm), .second, .val (.double (FP.dneg (FP.i2d (p3 &&& (65535 : Int32))))), .second, .val (.ref b1), .val (.double s0), .second, .val (.double ex), .second, .val (.int (1 : Int32))] [(.double FP.dconst1), (.double s0)]))
      refine own_go (own_dcmp X3 hx (g := (mkF m 137 #[.val (.int p0), .val (.int p1), .val (.int p2), .val (.int p3), .val (.int za), .val (.int zb), .val (.double sc), .second, .val (.double rp), .second, .val (.double rm), .second, .val (.double (FP.dneg (FP.i2d (p3 &&& (65535 : Int32))))), .second, .val (.ref b1), .val (.double s0), .second, .val (.double ex), .second, .val (.int (1 : Int32))] [(.double FP.dconst1), (.double s0)])) rfl (o := .eq) (own_one_eq DS hn0 (by omega)) (hb hby at_137) rfl) ?_
      show own_Go _ _ _ _ _ _ _ (T3.setTop (mkF m 138 #[.val (.int p0), .val (.int p1), .val (.int p2), .val (.int p3), .val (.int za), .val (.int zb), .val (.double sc), .second, .val (.double rp), .second, .val (.double rm), .second, .val (.double (FP.dneg (FP.i2d (p3 &&& (65535 : Int32))))), .second, .val (.ref b1), .val (.double s0), .second, .val (.double ex), .second, .val (.int (1 : Int32))] [(.int (0 : Int32))]))
      refine own_go (fun _ q => XS.ifNo X3.here hx rfl (hb hby at_138) rfl ((if0 _ _).trans (flt (by decide : ¬ ((0 : Int32) < (0 : Int32)))).2.2.1) q) ?_
      show own_Go _ _ _ _ _ _ _ (T3.setTop (mkF m 141 #[.val (.int p0), .val (.int p1), .val (.int p2), .val (.int p3), .val (.int za), .val (.int zb), .val (.double sc), .second, .val (.double rp), .second, .val (.double rm), .second, .val (.double (FP.dneg (FP.i2d (p3 &&& (65535 : Int32))))), .second, .val (.ref b1), .val (.double s0), .second, .val (.double ex), .second, .val (.int (1 : Int32))] []))
      refine own_go (fun _ q => XS.iconst X3.here hx rfl (hb hby at_141) q) ?_
      show own_Go _ _ _ _ _ _ _ (T3.setTop (mkF m 142 #[.val (.int p0), .val (.int p1), .val (.int p2), .val (.int p3), .val (.int za), .val (.int zb), .val (.double sc), .second, .val (.double rp), .second, .val (.double rm), .second, .val (.double (FP.dneg (FP.i2d (p3 &&& (65535 : Int32))))), .second, .val (.ref b1), .val (.double s0), .second, .val (.double ex), .second, .val (.int (1 : Int32))] [(.int (1 : Int32))]))
      refine own_go (fun _ q => XS.goto X3.here hx rfl (pc0 := 142) (pc' := 146) rfl (hb hby at_142) (by decide) (by decide) q) ?_
      show own_Go _ _ _ _ _ _ _ (T3.setTop (mkF m 146 #[.val (.int p0), .val (.int p1), .val (.int p2), .val (.int p3), .val (.int za), .val (.int zb), .val (.double sc), .second, .val (.double rp), .second, .val (.double rm), .second, .val (.double (FP.dneg (FP.i2d (p3 &&& (65535 : Int32))))), .second, .val (.ref b1), .val (.double s0), .second, .val (.double ex), .second, .val (.int (1 : Int32))] [(.int (1 : Int32))]))
      refine own_go (fun _ q => XS.istore X3.here hx rfl (hb hby at_146) rfl (l' := #[.val (.int p0), .val (.int p1), .val (.int p2), .val (.int p3), .val (.int za), .val (.int zb), .val (.double sc), .second, .val (.double rp), .second, .val (.double rm), .second, .val (.double (FP.dneg (FP.i2d (p3 &&& (65535 : Int32))))), .second, .val (.ref b1), .val (.double s0), .second, .val (.double ex), .second, .val (.int (1 : Int32))]) rfl q) ?_
      show own_Go _ _ _ _ _ _ _ (T3.setTop (mkF m 148 #[.val (.int p0), .val (.int p1), .val (.int p2), .val (.int p3), .val (.int za), .val (.int zb), .val (.double sc), .second, .val (.double rp), .second, .val (.double rm), .second, .val (.double (FP.dneg (FP.i2d (p3 &&& (65535 : Int32))))), .second, .val (.ref b1), .val (.double s0), .second, .val (.double ex), .second, .val (.int (1 : Int32))] []))
      refine own_go (fun _ q => XS.iload X3.here hx rfl (hb hby at_148) rfl q) ?_
      show own_Go _ _ _ _ _ _ _ (T3.setTop (mkF m 150 #[.val (.int p0), .val (.int p1), .val (.int p2), .val (.int p3), .val (.int za), .val (.int zb), .val (.double sc), .second, .val (.double rp), .second, .val (.double rm), .second, .val (.double (FP.dneg (FP.i2d (p3 &&& (65535 : Int32))))), .second, .val (.ref b1), .val (.double s0), .second, .val (.double ex), .second, .val (.int (1 : Int32))] [(.int (1 : Int32))]))
      refine own_go (fun _ q => XS.ifNo X3.here hx rfl (hb hby at_150) rfl ((if0 _ _).trans (feq (by decide : ¬ ((1 : Int32) = (0 : Int32)))).1) q) ?_
      show own_Go _ _ _ _ _ _ _ (T3.setTop (mkF m 153 #[.val (.int p0), .val (.int p1), .val (.int p2), .val (.int p3), .val (.int za), .val (.int zb), .val (.double sc), .second, .val (.double rp), .second, .val (.double rm), .second, .val (.double (FP.dneg (FP.i2d (p3 &&& (65535 : Int32))))), .second, .val (.ref b1), .val (.double s0), .second, .val (.double ex), .second, .val (.int (1 : Int32))] []))
      refine own_go (fun _ q => XT.dload X3.here hx rfl (hb hby at_153) rfl q) ?_
      show own_Go _ _ _ _ _ _ _ (T3.setTop (mkF m 155 #[.val (.int p0), .val (.int p1), .val (.int p2), .val (.int p3), .val (.int za), .val (.int zb), .val (.double sc), .second, .val (.double rp), .second, .val (.double rm), .second, .val (.double (FP.dneg (FP.i2d (p3 &&& (65535 : Int32))))), .second, .val (.ref b1), .val (.double s0), .second, .val (.double ex), .second, .val (.int (1 : Int32))] [(.double s0)]))
      refine own_go (X3.ldc2DoubleC hx hown (mvT hZ (hw _ (List.mem_of_getElem? (i := 1) rfl))) (g := (mkF m 155 #[.val (.int p0), .val (.int p1), .val (.int p2), .val (.int p3), .val (.int za), .val (.int zb), .val (.double sc), .second, .val (.double rp), .second, .val (.double rm), .second, .val (.double (FP.dneg (FP.i2d (p3 &&& (65535 : Int32))))), .second, .val (.ref b1), .val (.double s0), .second, .val (.double ex), .second, .val (.int (1 : Int32))] [(.double s0)])) rfl (hb hby at_155)) ?_
      show own_Go _ _ _ _ _ _ _ (T3.setTop (mkF m 158 #[.val (.int p0), .val (.int p1), .val (.int p2), .val (.int p3), .val (.int za), .val (.int zb), .val (.double sc), .second, .val (.double rp), .second, .val (.double rm), .second, .val (.double (FP.dneg (FP.i2d (p3 &&& (65535 : Int32))))), .second, .val (.ref b1), .val (.double s0), .second, .val (.double ex), .second, .val (.int (1 : Int32))] [(.double (4602678819172646912 : UInt64)), (.double s0)]))
      refine own_go (own_dcmp X3 hx (g := (mkF m 158 #[.val (.int p0), .val (.int p1), .val (.int p2), .val (.int p3), .val (.int za), .val (.int zb), .val (.double sc), .second, .val (.double rp), .second, .val (.double rm), .second, .val (.double (FP.dneg (FP.i2d (p3 &&& (65535 : Int32))))), .second, .val (.ref b1), .val (.double s0), .second, .val (.double ex), .second, .val (.int (1 : Int32))] [(.double (4602678819172646912 : UInt64)), (.double s0)])) rfl (o := .gt) (own_half_gt DS rfl h21 (by omega)) (hb hby at_158) rfl) ?_
      show own_Go _ _ _ _ _ _ _ (T3.setTop (mkF m 159 #[.val (.int p0), .val (.int p1), .val (.int p2), .val (.int p3), .val (.int za), .val (.int zb), .val (.double sc), .second, .val (.double rp), .second, .val (.double rm), .second, .val (.double (FP.dneg (FP.i2d (p3 &&& (65535 : Int32))))), .second, .val (.ref b1), .val (.double s0), .second, .val (.double ex), .second, .val (.int (1 : Int32))] [(.int (1 : Int32))]))
      refine own_go (fun _ q => XS.ifYes X3.here hx rfl (pc0 := 159) (pc' := 166) rfl (hb hby at_159) rfl ((if0 _ _).trans (flt (by decide : ¬ ((1 : Int32) < (0 : Int32)))).2.1) (by decide) (by decide) q) ?_
      show own_Go _ _ _ _ _ _ _ (T3.setTop (mkF m 166 #[.val (.int p0), .val (.int p1), .val (.int p2), .val (.int p3), .val (.int za), .val (.int zb), .val (.double sc), .second, .val (.double rp), .second, .val (.double rm), .second, .val (.double (FP.dneg (FP.i2d (p3 &&& (65535 : Int32))))), .second, .val (.ref b1), .val (.double s0), .second, .val (.double ex), .second, .val (.int (1 : Int32))] []))
      refine own_go (fun _ q => XS.iconst X3.here hx rfl (hb hby at_166) q) ?_
      show own_Go _ _ _ _ _ _ _ (T3.setTop (mkF m 167 #[.val (.int p0), .val (.int p1), .val (.int p2), .val (.int p3), .val (.int za), .val (.int zb), .val (.double sc), .second, .val (.double rp), .second, .val (.double rm), .second, .val (.double (FP.dneg (FP.i2d (p3 &&& (65535 : Int32))))), .second, .val (.ref b1), .val (.double s0), .second, .val (.double ex), .second, .val (.int (1 : Int32))] [(.int (0 : Int32))]))
      refine own_go (fun _ q => XS.iload X3.here hx rfl (hb hby at_167) rfl q) ?_
      show own_Go _ _ _ _ _ _ _ (T3.setTop (mkF m 169 #[.val (.int p0), .val (.int p1), .val (.int p2), .val (.int p3), .val (.int za), .val (.int zb), .val (.double sc), .second, .val (.double rp), .second, .val (.double rm), .second, .val (.double (FP.dneg (FP.i2d (p3 &&& (65535 : Int32))))), .second, .val (.ref b1), .val (.double s0), .second, .val (.double ex), .second, .val (.int (1 : Int32))] [(.int zb), (.int (0 : Int32))]))
      refine own_go (fun _ q => XS.iload X3.here hx rfl (hb hby at_169) rfl q) ?_
      show own_Go _ _ _ _ _ _ _ (T3.setTop (mkF m 171 #[.val (.int p0), .val (.int p1), .val (.int p2), .val (.int p3), .val (.int za), .val (.int zb), .val (.double sc), .second, .val (.double rp), .second, .val (.double rm), .second, .val (.double (FP.dneg (FP.i2d (p3 &&& (65535 : Int32))))), .second, .val (.ref b1), .val (.double s0), .second, .val (.double ex), .second, .val (.int (1 : Int32))] [(.int za), (.int zb), (.int (0 : Int32))]))
      refine own_go (fun _ q => XS.icmpYes X3.here hx rfl (pc0 := 171) (pc' := 178) rfl (hb hby at_171) rfl (flt (own_nlt (x := zb) (y := za) (by omega))).2.1 (by decide) (by decide) q) ?_
      show own_Go _ _ _ _ _ _ _ (T3.setTop (mkF m 178 #[.val (.int p0), .val (.int p1), .val (.int p2), .val (.int p3), .val (.int za), .val (.int zb), .val (.double sc), .second, .val (.double rp), .second, .val (.double rm), .second, .val (.double (FP.dneg (FP.i2d (p3 &&& (65535 : Int32))))), .second, .val (.ref b1), .val (.double s0), .second, .val (.double ex), .second, .val (.int (1 : Int32))] [(.int (0 : Int32))]))
      refine own_go (fun _ q => XS.iconst X3.here hx rfl (hb hby at_178) q) ?_
      show own_Go _ _ _ _ _ _ _ (T3.setTop (mkF m 179 #[.val (.int p0), .val (.int p1), .val (.int p2), .val (.int p3), .val (.int za), .val (.int zb), .val (.double sc), .second, .val (.double rp), .second, .val (.double rm), .second, .val (.double (FP.dneg (FP.i2d (p3 &&& (65535 : Int32))))), .second, .val (.ref b1), .val (.double s0), .second, .val (.double ex), .second, .val (.int (1 : Int32))] [(.int (0 : Int32)), (.int (0 : Int32))]))
      refine own_go (fun _ q => XS.icmpNo X3.here hx rfl (hb hby at_179) rfl (teq (by decide : (0 : Int32) = (0 : Int32))).2 q) ?_
      show own_Go _ _ _ _ _ _ _ (T3.setTop (mkF m 182 #[.val (.int p0), .val (.int p1), .val (.int p2), .val (.int p3), .val (.int za), .val (.int zb), .val (.double sc), .second, .val (.double rp), .second, .val (.double rm), .second, .val (.double (FP.dneg (FP.i2d (p3 &&& (65535 : Int32))))), .second, .val (.ref b1), .val (.double s0), .second, .val (.double ex), .second, .val (.int (1 : Int32))] []))
      refine own_go (fun _ q => XS.iconst X3.here hx rfl (hb hby at_182) q) ?_
      show own_Go _ _ _ _ _ _ _ (T3.setTop (mkF m 183 #[.val (.int p0), .val (.int p1), .val (.int p2), .val (.int p3), .val (.int za), .val (.int zb), .val (.double sc), .second, .val (.double rp), .second, .val (.double rm), .second, .val (.double (FP.dneg (FP.i2d (p3 &&& (65535 : Int32))))), .second, .val (.ref b1), .val (.double s0), .second, .val (.double ex), .second, .val (.int (1 : Int32))] [(.int (1 : Int32))]))
      refine own_go (fun _ q => XS.goto X3.here hx rfl (pc0 := 183) (pc' := 187) rfl (hb hby at_183) (by decide) (by decide) q) ?_
      show own_Go _ _ _ _ _ _ _ (T3.setTop (mkF m 187 #[.val (.int p0), .val (.int p1), .val (.int p2), .val (.int p3), .val (.int za), .val (.int zb), .val (.double sc), .second, .val (.double rp), .second, .val (.double rm), .second, .val (.double (FP.dneg (FP.i2d (p3 &&& (65535 : Int32))))), .second, .val (.ref b1), .val (.double s0), .second, .val (.double ex), .second, .val (.int (1 : Int32))] [(.int (1 : Int32))]))
      refine own_go (fun _ q => XS.istore X3.here hx rfl (hb hby at_187) rfl (l' := #[.val (.int p0), .val (.int p1), .val (.int p2), .val (.int p3), .val (.int za), .val (.int zb), .val (.double sc), .second, .val (.double rp), .second, .val (.double rm), .second, .val (.double (FP.dneg (FP.i2d (p3 &&& (65535 : Int32))))), .second, .val (.ref b1), .val (.double s0), .second, .val (.double ex), .second, .val (.int (1 : Int32))]) rfl q) ?_
      show own_Go _ _ _ _ _ _ _ (T3.setTop (mkF m 189 #[.val (.int p0), .val (.int p1), .val (.int p2), .val (.int p3), .val (.int za), .val (.int zb), .val (.double sc), .second, .val (.double rp), .second, .val (.double rm), .second, .val (.double (FP.dneg (FP.i2d (p3 &&& (65535 : Int32))))), .second, .val (.ref b1), .val (.double s0), .second, .val (.double ex), .second, .val (.int (1 : Int32))] []))
      refine own_go (fun _ q => XS.iload X3.here hx rfl (hb hby at_189) rfl q) ?_
      show own_Go _ _ _ _ _ _ _ (T3.setTop (mkF m 191 #[.val (.int p0), .val (.int p1), .val (.int p2), .val (.int p3), .val (.int za), .val (.int zb), .val (.double sc), .second, .val (.double rp), .second, .val (.double rm), .second, .val (.double (FP.dneg (FP.i2d (p3 &&& (65535 : Int32))))), .second, .val (.ref b1), .val (.double s0), .second, .val (.double ex), .second, .val (.int (1 : Int32))] [(.int (1 : Int32))]))
      refine own_go (fun _ q => XS.ifNo X3.here hx rfl (hb hby at_191) rfl ((if0 _ _).trans (feq (by decide : ¬ ((1 : Int32) = (0 : Int32)))).1) q) ?_
      show own_Go _ _ _ _ _ _ _ (T3.setTop (mkF m 194 #[.val (.int p0), .val (.int p1), .val (.int p2), .val (.int p3), .val (.int za), .val (.int zb), .val (.double sc), .second, .val (.double rp), .second, .val (.double rm), .second, .val (.double (FP.dneg (FP.i2d (p3 &&& (65535 : Int32))))), .second, .val (.ref b1), .val (.double s0), .second, .val (.double ex), .second, .val (.int (1 : Int32))] []))
      refine own_go (fun _ q => XT.dload X3.here hx rfl (hb hby at_194) rfl q) ?_
      show own_Go _ _ _ _ _ _ _ (T3.setTop (mkF m 196 #[.val (.int p0), .val (.int p1), .val (.int p2), .val (.int p3), .val (.int za), .val (.int zb), .val (.double sc), .second, .val (.double rp), .second, .val (.double rm), .second, .val (.double (FP.dneg (FP.i2d (p3 &&& (65535 : Int32))))), .second, .val (.ref b1), .val (.double s0), .second, .val (.double ex), .second, .val (.int (1 : Int32))] [(.double s0)]))
      refine own_go (X3.ldc2DoubleC hx hown (mvT hZ (hw _ (List.mem_of_getElem? (i := 1) rfl))) (g := (mkF m 196 #[.val (.int p0), .val (.int p1), .val (.int p2), .val (.int p3), .val (.int za), .val (.int zb), .val (.double sc), .second, .val (.double rp), .second, .val (.double rm), .second, .val (.double (FP.dneg (FP.i2d (p3 &&& (65535 : Int32))))), .second, .val (.ref b1), .val (.double s0), .second, .val (.double ex), .second, .val (.int (1 : Int32))] [(.double s0)])) rfl (hb hby at_196)) ?_
      show own_Go _ _ _ _ _ _ _ (T3.setTop (mkF m 199 #[.val (.int p0), .val (.int p1), .val (.int p2), .val (.int p3), .val (.int za), .val (.int zb), .val (.double sc), .second, .val (.double rp), .second, .val (.double rm), .second, .val (.double (FP.dneg (FP.i2d (p3 &&& (65535 : Int32))))), .second, .val (.ref b1), .val (.double s0), .second, .val (.double ex), .second, .val (.int (1 : Int32))] [(.double (4602678819172646912 : UInt64)), (.double s0)]))
      refine own_go (own_dcmp X3 hx (g := (mkF m 199 #[.val (.int p0), .val (.int p1), .val (.int p2), .val (.int p3), .val (.int za), .val (.int zb), .val (.double sc), .second, .val (.double rp), .second, .val (.double rm), .second, .val (.double (FP.dneg (FP.i2d (p3 &&& (65535 : Int32))))), .second, .val (.ref b1), .val (.double s0), .second, .val (.double ex), .second, .val (.int (1 : Int32))] [(.double (4602678819172646912 : UInt64)), (.double s0)])) rfl (o := .gt) (own_half_gt DS rfl h21 (by omega)) (hb hby at_199) rfl) ?_
      show own_Go _ _ _ _ _ _ _ (T3.setTop (mkF m 200 #[.val (.int p0), .val (.int p1), .val (.int p2), .val (.int p3), .val (.int za), .val (.int zb), .val (.double sc), .second, .val (.double rp), .second, .val (.double rm), .second, .val (.double (FP.dneg (FP.i2d (p3 &&& (65535 : Int32))))), .second, .val (.ref b1), .val (.double s0), .second, .val (.double ex), .second, .val (.int (1 : Int32))] [(.int (1 : Int32))]))
      refine own_go (fun _ q => XS.ifYes X3.here hx rfl (pc0 := 200) (pc' := 207) rfl (hb hby at_200) rfl ((if0 _ _).trans (feq (by decide : ¬ ((1 : Int32) = (0 : Int32)))).2) (by decide) (by decide) q) ?_
      show own_Go _ _ _ _ _ _ _ (T3.setTop (mkF m 207 #[.val (.int p0), .val (.int p1), .val (.int p2), .val (.int p3), .val (.int za), .val (.int zb), .val (.double sc), .second, .val (.double rp), .second, .val (.double rm), .second, .val (.double (FP.dneg (FP.i2d (p3 &&& (65535 : Int32))))), .second, .val (.ref b1), .val (.double s0), .second, .val (.double ex), .second, .val (.int (1 : Int32))] []))
      refine own_go (fun _ q => XS.iconst X3.here hx rfl (hb hby at_207) q) ?_
      show own_Go _ _ _ _ _ _ _ (T3.setTop (mkF m 208 #[.val (.int p0), .val (.int p1), .val (.int p2), .val (.int p3), .val (.int za), .val (.int zb), .val (.double sc), .second, .val (.double rp), .second, .val (.double rm), .second, .val (.double (FP.dneg (FP.i2d (p3 &&& (65535 : Int32))))), .second, .val (.ref b1), .val (.double s0), .second, .val (.double ex), .second, .val (.int (1 : Int32))] [(.int (0 : Int32))]))
      refine own_go (fun _ q => XS.iload X3.here hx rfl (hb hby at_208) rfl q) ?_
      show own_Go _ _ _ _ _ _ _ (T3.setTop (mkF m 210 #[.val (.int p0), .val (.int p1), .val (.int p2), .val (.int p3), .val (.int za), .val (.int zb), .val (.double sc), .second, .val (.double rp), .second, .val (.double rm), .second, .val (.double (FP.dneg (FP.i2d (p3 &&& (65535 : Int32))))), .second, .val (.ref b1), .val (.double s0), .second, .val (.double ex), .second, .val (.int (1 : Int32))] [(.int za), (.int (0 : Int32))]))
      refine own_go (fun _ q => XS.iload X3.here hx rfl (hb hby at_210) rfl q) ?_
      show own_Go _ _ _ _ _ _ _ (T3.setTop (mkF m 212 #[.val (.int p0), .val (.int p1), .val (.int p2), .val (.int p3), .val (.int za), .val (.int zb), .val (.double sc), .second, .val (.double rp), .second, .val (.double rm), .second, .val (.double (FP.dneg (FP.i2d (p3 &&& (65535 : Int32))))), .second, .val (.ref b1), .val (.double s0), .second, .val (.double ex), .second, .val (.int (1 : Int32))] [(.int zb), (.int za), (.int (0 : Int32))]))
      refine own_go (fun _ q => XS.icmpYes X3.here hx rfl (pc0 := 212) (pc' := 219) rfl (hb hby at_212) rfl (feq (own_ne (x := za) (y := zb) (by have e0 : (0 : Int32).toInt = 0 := rfl; omega))).2 (by decide) (by decide) q) ?_
      show own_Go _ _ _ _ _ _ _ (T3.setTop (mkF m 219 #[.val (.int p0), .val (.int p1), .val (.int p2), .val (.int p3), .val (.int za), .val (.int zb), .val (.double sc), .second, .val (.double rp), .second, .val (.double rm), .second, .val (.double (FP.dneg (FP.i2d (p3 &&& (65535 : Int32))))), .second, .val (.ref b1), .val (.double s0), .second, .val (.double ex), .second, .val (.int (1 : Int32))] [(.int (0 : Int32))]))
      refine own_go (fun _ q => XS.iconst X3.here hx rfl (hb hby at_219) q) ?_
      show own_Go _ _ _ _ _ _ _ (T3.setTop (mkF m 220 #[.val (.int p0), .val (.int p1), .val (.int p2), .val (.int p3), .val (.int za), .val (.int zb), .val (.double sc), .second, .val (.double rp), .second, .val (.double rm), .second, .val (.double (FP.dneg (FP.i2d (p3 &&& (65535 : Int32))))), .second, .val (.ref b1), .val (.double s0), .second, .val (.double ex), .second, .val (.int (1 : Int32))] [(.int (0 : Int32)), (.int (0 : Int32))]))
      refine own_go (fun _ q => XS.icmpNo X3.here hx rfl (hb hby at_220) rfl (teq (by decide : (0 : Int32) = (0 : Int32))).2 q) ?_
      show own_Go _ _ _ _ _ _ _ (T3.setTop (mkF m 223 #[.val (.int p0), .val (.int p1), .val (.int p2), .val (.int p3), .val (.int za), .val (.int zb), .val (.double sc), .second, .val (.double rp), .second, .val (.double rm), .second, .val (.double (FP.dneg (FP.i2d (p3 &&& (65535 : Int32))))), .second, .val (.ref b1), .val (.double s0), .second, .val (.double ex), .second, .val (.int (1 : Int32))] []))
      refine own_go (fun _ q => XS.iconst X3.here hx rfl (hb hby at_223) q) ?_
      show own_Go _ _ _ _ _ _ _ (T3.setTop (mkF m 224 #[.val (.int p0), .val (.int p1), .val (.int p2), .val (.int p3), .val (.int za), .val (.int zb), .val (.double sc), .second, .val (.double rp), .second, .val (.double rm), .second, .val (.double (FP.dneg (FP.i2d (p3 &&& (65535 : Int32))))), .second, .val (.ref b1), .val (.double s0), .second, .val (.double ex), .second, .val (.int (1 : Int32))] [(.int (1 : Int32))]))
      refine own_go (fun _ q => XS.goto X3.here hx rfl (pc0 := 224) (pc' := 228) rfl (hb hby at_224) (by decide) (by decide) q) ?_
      show own_Go _ _ _ _ _ _ _ (T3.setTop (mkF m 228 #[.val (.int p0), .val (.int p1), .val (.int p2), .val (.int p3), .val (.int za), .val (.int zb), .val (.double sc), .second, .val (.double rp), .second, .val (.double rm), .second, .val (.double (FP.dneg (FP.i2d (p3 &&& (65535 : Int32))))), .second, .val (.ref b1), .val (.double s0), .second, .val (.double ex), .second, .val (.int (1 : Int32))] [(.int (1 : Int32))]))
      refine own_go (fun _ q => XS.istore X3.here hx rfl (hb hby at_228) rfl (l' := #[.val (.int p0), .val (.int p1), .val (.int p2), .val (.int p3), .val (.int za), .val (.int zb), .val (.double sc), .second, .val (.double rp), .second, .val (.double rm), .second, .val (.double (FP.dneg (FP.i2d (p3 &&& (65535 : Int32))))), .second, .val (.ref b1), .val (.double s0), .second, .val (.double ex), .second, .val (.int (1 : Int32))]) rfl q) ?_
      show own_Go _ _ _ _ _ _ _ (T3.setTop (mkF m 230 #[.val (.int p0), .val (.int p1), .val (.int p2), .val (.int p3), .val (.int za), .val (.int zb), .val (.double sc), .second, .val (.double rp), .second, .val (.double rm), .second, .val (.double (FP.dneg (FP.i2d (p3 &&& (65535 : Int32))))), .second, .val (.ref b1), .val (.double s0), .second, .val (.double ex), .second, .val (.int (1 : Int32))] []))
      refine own_go (fun _ q => XS.iload X3.here hx rfl (hb hby at_230) rfl q) ?_
      show own_Go _ _ _ _ _ _ _ (T3.setTop (mkF m 232 #[.val (.int p0), .val (.int p1), .val (.int p2), .val (.int p3), .val (.int za), .val (.int zb), .val (.double sc), .second, .val (.double rp), .second, .val (.double rm), .second, .val (.double (FP.dneg (FP.i2d (p3 &&& (65535 : Int32))))), .second, .val (.ref b1), .val (.double s0), .second, .val (.double ex), .second, .val (.int (1 : Int32))] [(.int (1 : Int32))]))
      refine own_go (fun _ q => XS.ifNo X3.here hx rfl (hb hby at_232) rfl ((if0 _ _).trans (feq (by decide : ¬ ((1 : Int32) = (0 : Int32)))).1) q) ?_
      show own_Go _ _ _ _ _ _ _ (T3.setTop (mkF m 235 #[.val (.int p0), .val (.int p1), .val (.int p2), .val (.int p3), .val (.int za), .val (.int zb), .val (.double sc), .second, .val (.double rp), .second, .val (.double rm), .second, .val (.double (FP.dneg (FP.i2d (p3 &&& (65535 : Int32))))), .second, .val (.ref b1), .val (.double s0), .second, .val (.double ex), .second, .val (.int (1 : Int32))] []))
      refine own_go (fun _ q => XT.dload X3.here hx rfl (hb hby at_235) rfl q) ?_
      show own_Go _ _ _ _ _ _ _ (T3.setTop (mkF m 237 #[.val (.int p0), .val (.int p1), .val (.int p2), .val (.int p3), .val (.int za), .val (.int zb), .val (.double sc), .second, .val (.double rp), .second, .val (.double rm), .second, .val (.double (FP.dneg (FP.i2d (p3 &&& (65535 : Int32))))), .second, .val (.ref b1), .val (.double s0), .second, .val (.double ex), .second, .val (.int (1 : Int32))] [(.double s0)]))
      refine own_go (own_dconst0 X3 hx (g := (mkF m 237 #[.val (.int p0), .val (.int p1), .val (.int p2), .val (.int p3), .val (.int za), .val (.int zb), .val (.double sc), .second, .val (.double rp), .second, .val (.double rm), .second, .val (.double (FP.dneg (FP.i2d (p3 &&& (65535 : Int32))))), .second, .val (.ref b1), .val (.double s0), .second, .val (.double ex), .second, .val (.int (1 : Int32))] [(.double s0)])) rfl (hb hby at_237)) ?_
      show own_Go _ _ _ _ _ _ _ (T3.setTop (mkF m 238 #[.val (.int p0), .val (.int p1), .val (.int p2), .val (.int p3), .val (.int za), .val (.int zb), .val (.double sc), .second, .val (.double rp), .second, .val (.double rm), .second, .val (.double (FP.dneg (FP.i2d (p3 &&& (65535 : Int32))))), .second, .val (.ref b1), .val (.double s0), .second, .val (.double ex), .second, .val (.int (1 : Int32))] [(.double FP.dconst0), (.double s0)]))
      refine own_go (own_dcmp X3 hx (g := (mkF m 238 #[.val (.int p0), .val (.int p1), .val (.int p2), .val (.int p3), .val (.int za), .val (.int zb), .val (.double sc), .second, .val (.double rp), .second, .val (.double rm), .second, .val (.double (FP.dneg (FP.i2d (p3 &&& (65535 : Int32))))), .second, .val (.ref b1), .val (.double s0), .second, .val (.double ex), .second, .val (.int (1 : Int32))] [(.double FP.dconst0), (.double s0)])) rfl (o := .gt) (own_zero_gt DS hn0 h21 (by omega)).1 (hb hby at_238) rfl) ?_
      show own_Go _ _ _ _ _ _ _ (T3.setTop (mkF m 239 #[.val (.int p0), .val (.int p1), .val (.int p2), .val (.int p3), .val (.int za), .val (.int zb), .val (.double sc), .second, .val (.double rp), .second, .val (.double rm), .second, .val (.double (FP.dneg (FP.i2d (p3 &&& (65535 : Int32))))), .second, .val (.ref b1), .val (.double s0), .second, .val (.double ex), .second, .val (.int (1 : Int32))] [(.int (1 : Int32))]))
      refine own_go (fun _ q => XS.ifYes X3.here hx rfl (pc0 := 239) (pc' := 246) rfl (hb hby at_239) rfl ((if0 _ _).trans (feq (by decide : ¬ ((1 : Int32) = (0 : Int32)))).2) (by decide) (by decide) q) ?_
      show own_Go _ _ _ _ _ _ _ (T3.setTop (mkF m 246 #[.val (.int p0), .val (.int p1), .val (.int p2), .val (.int p3), .val (.int za), .val (.int zb), .val (.double sc), .second, .val (.double rp), .second, .val (.double rm), .second, .val (.double (FP.dneg (FP.i2d (p3 &&& (65535 : Int32))))), .second, .val (.ref b1), .val (.double s0), .second, .val (.double ex), .second, .val (.int (1 : Int32))] []))
      refine own_go (fun _ q => XS.iconst X3.here hx rfl (hb hby at_246) q) ?_
      show own_Go _ _ _ _ _ _ _ (T3.setTop (mkF m 247 #[.val (.int p0), .val (.int p1), .val (.int p2), .val (.int p3), .val (.int za), .val (.int zb), .val (.double sc), .second, .val (.double rp), .second, .val (.double rm), .second, .val (.double (FP.dneg (FP.i2d (p3 &&& (65535 : Int32))))), .second, .val (.ref b1), .val (.double s0), .second, .val (.double ex), .second, .val (.int (1 : Int32))] [(.int (0 : Int32))]))
      refine own_go (fun _ q => XS.iload X3.here hx rfl (hb hby at_247) rfl q) ?_
      show own_Go _ _ _ _ _ _ _ (T3.setTop (mkF m 249 #[.val (.int p0), .val (.int p1), .val (.int p2), .val (.int p3), .val (.int za), .val (.int zb), .val (.double sc), .second, .val (.double rp), .second, .val (.double rm), .second, .val (.double (FP.dneg (FP.i2d (p3 &&& (65535 : Int32))))), .second, .val (.ref b1), .val (.double s0), .second, .val (.double ex), .second, .val (.int (1 : Int32))] [(.int zb), (.int (0 : Int32))]))
      refine own_go (fun _ q => XS.ifYes X3.here hx rfl (pc0 := 249) (pc' := 256) rfl (hb hby at_249) rfl ((if0 _ _).trans (feq (own_ne (x := zb) (y := 0) (by have e0 : (0 : Int32).toInt = 0 := rfl; omega))).2) (by decide) (by decide) q) ?_
      show own_Go _ _ _ _ _ _ _ (T3.setTop (mkF m 256 #[.val (.int p0), .val (.int p1), .val (.int p2), .val (.int p3), .val (.int za), .val (.int zb), .val (.double sc), .second, .val (.double rp), .second, .val (.double rm), .second, .val (.double (FP.dneg (FP.i2d (p3 &&& (65535 : Int32))))), .second, .val (.ref b1), .val (.double s0), .second, .val (.double ex), .second, .val (.int (1 : Int32))] [(.int (0 : Int32))]))
      refine own_go (fun _ q => XS.iconst X3.here hx rfl (hb hby at_256) q) ?_
      show own_Go _ _ _ _ _ _ _ (T3.setTop (mkF m 257 #[.val (.int p0), .val (.int p1), .val (.int p2), .val (.int p3), .val (.int za), .val (.int zb), .val (.double sc), .second, .val (.double rp), .second, .val (.double rm), .second, .val (.double (FP.dneg (FP.i2d (p3 &&& (65535 : Int32))))), .second, .val (.ref b1), .val (.double s0), .second, .val (.double ex), .second, .val (.int (1 : Int32))] [(.int (0 : Int32)), (.int (0 : Int32))]))
      refine own_go (fun _ q => XS.icmpNo X3.here hx rfl (hb hby at_257) rfl (teq (by decide : (0 : Int32) = (0 : Int32))).2 q) ?_
      show own_Go _ _ _ _ _ _ _ (T3.setTop (mkF m 260 #[.val (.int p0), .val (.int p1), .val (.int p2), .val (.int p3), .val (.int za), .val (.int zb), .val (.double sc), .second, .val (.double rp), .second, .val (.double rm), .second, .val (.double (FP.dneg (FP.i2d (p3 &&& (65535 : Int32))))), .second, .val (.ref b1), .val (.double s0), .second, .val (.double ex), .second, .val (.int (1 : Int32))] []))
      refine own_go (fun _ q => XS.iconst X3.here hx rfl (hb hby at_260) q) ?_
      show own_Go _ _ _ _ _ _ _ (T3.setTop (mkF m 261 #[.val (.int p0), .val (.int p1), .val (.int p2), .val (.int p3), .val (.int za), .val (.int zb), .val (.double sc), .second, .val (.double rp), .second, .val (.double rm), .second, .val (.double (FP.dneg (FP.i2d (p3 &&& (65535 : Int32))))), .second, .val (.ref b1), .val (.double s0), .second, .val (.double ex), .second, .val (.int (1 : Int32))] [(.int (1 : Int32))]))
      refine own_go (fun _ q => XS.goto X3.here hx rfl (pc0 := 261) (pc' := 265) rfl (hb hby at_261) (by decide) (by decide) q) ?_
      show own_Go _ _ _ _ _ _ _ (T3.setTop (mkF m 265 #[.val (.int p0), .val (.int p1), .val (.int p2), .val (.int p3), .val (.int za), .val (.int zb), .val (.double sc), .second, .val (.double rp), .second, .val (.double rm), .second, .val (.double (FP.dneg (FP.i2d (p3 &&& (65535 : Int32))))), .second, .val (.ref b1), .val (.double s0), .second, .val (.double ex), .second, .val (.int (1 : Int32))] [(.int (1 : Int32))]))
      refine own_go (fun _ q => XS.istore X3.here hx rfl (hb hby at_265) rfl (l' := #[.val (.int p0), .val (.int p1), .val (.int p2), .val (.int p3), .val (.int za), .val (.int zb), .val (.double sc), .second, .val (.double rp), .second, .val (.double rm), .second, .val (.double (FP.dneg (FP.i2d (p3 &&& (65535 : Int32))))), .second, .val (.ref b1), .val (.double s0), .second, .val (.double ex), .second, .val (.int (1 : Int32))]) rfl q) ?_
      show own_Go _ _ _ _ _ _ _ (T3.setTop (mkF m 267 #[.val (.int p0), .val (.int p1), .val (.int p2), .val (.int p3), .val (.int za), .val (.int zb), .val (.double sc), .second, .val (.double rp), .second, .val (.double rm), .second, .val (.double (FP.dneg (FP.i2d (p3 &&& (65535 : Int32))))), .second, .val (.ref b1), .val (.double s0), .second, .val (.double ex), .second, .val (.int (1 : Int32))] []))
      refine own_go (fun _ q => XS.iload X3.here hx rfl (hb hby at_267) rfl q) ?_
      show own_Go _ _ _ _ _ _ _ (T3.setTop (mkF m 269 #[.val (.int p0), .val (.int p1), .val (.int p2), .val (.int p3), .val (.int za), .val (.int zb), .val (.double sc), .second, .val (.double rp), .second, .val (.double rm), .second, .val (.double (FP.dneg (FP.i2d (p3 &&& (65535 : Int32))))), .second, .val (.ref b1), .val (.double s0), .second, .val (.double ex), .second, .val (.int (1 : Int32))] [(.int (1 : Int32))]))
      refine own_go (fun _ q => XS.ifNo X3.here hx rfl (hb hby at_269) rfl ((if0 _ _).trans (feq (by decide : ¬ ((1 : Int32) = (0 : Int32)))).1) q) ?_
      show own_Go _ _ _ _ _ _ _ (T3.setTop (mkF m 272 #[.val (.int p0), .val (.int p1), .val (.int p2), .val (.int p3), .val (.int za), .val (.int zb), .val (.double sc), .second, .val (.double rp), .second, .val (.double rm), .second, .val (.double (FP.dneg (FP.i2d (p3 &&& (65535 : Int32))))), .second, .val (.ref b1), .val (.double s0), .second, .val (.double ex), .second, .val (.int (1 : Int32))] []))
      refine own_go (fun _ q => XT.dload X3.here hx rfl (hb hby at_272) rfl q) ?_
      show own_Go _ _ _ _ _ _ _ (T3.setTop (mkF m 274 #[.val (.int p0), .val (.int p1), .val (.int p2), .val (.int p3), .val (.int za), .val (.int zb), .val (.double sc), .second, .val (.double rp), .second, .val (.double rm), .second, .val (.double (FP.dneg (FP.i2d (p3 &&& (65535 : Int32))))), .second, .val (.ref b1), .val (.double s0), .second, .val (.double ex), .second, .val (.int (1 : Int32))] [(.double s0)]))
      refine own_go (own_dconst1 X3 hx (g := (mkF m 274 #[.val (.int p0), .val (.int p1), .val (.int p2), .val (.int p3), .val (.int za), .val (.int zb), .val (.double sc), .second, .val (.double rp), .second, .val (.double rm), .second, .val (.double (FP.dneg (FP.i2d (p3 &&& (65535 : Int32))))), .second, .val (.ref b1), .val (.double s0), .second, .val (.double ex), .second, .val (.int (1 : Int32))] [(.double s0)])) rfl (hb hby at_274)) ?_
      show own_Go _ _ _ _ _ _ _ (T3.setTop (mkF m 275 #[.val (.int p0), .val (.int p1), .val (.int p2), .val (.int p3), .val (.int za), .val (.int zb), .val (.double sc), .second, .val (.double rp), .second, .val (.double rm), .second, .val (.double (FP.dneg (FP.i2d (p3 &&& (65535 : Int32))))), .second, .val (.ref b1), .val (.double s0), .second, .val (.double ex), .second, .val (.int (1 : Int32))] [(.double FP.dconst1), (.double s0)]))
      refine own_go (own_dcmp X3 hx (g := (mkF m 275 #[.val (.int p0), .val (.int p1), .val (.int p2), .val (.int p3), .val (.int za), .val (.int zb), .val (.double sc), .second, .val (.double rp), .second, .val (.double rm), .second, .val (.double (FP.dneg (FP.i2d (p3 &&& (65535 : Int32))))), .second, .val (.ref b1), .val (.double s0), .second, .val (.double ex), .second, .val (.int (1 : Int32))] [(.double FP.dconst1), (.double s0)])) rfl (o := .eq) (own_one_eq DS hn0 (by omega)) (hb hby at_275) rfl) ?_
      show own_Go _ _ _ _ _ _ _ (T3.setTop (mkF m 276 #[.val (.int p0), .val (.int p1), .val (.int p2), .val (.int p3), .val (.int za), .val (.int zb), .val (.double sc), .second, .val (.double rp), .second, .val (.double rm), .second, .val (.double (FP.dneg (FP.i2d (p3 &&& (65535 : Int32))))), .second, .val (.ref b1), .val (.double s0), .second, .val (.double ex), .second, .val (.int (1 : Int32))] [(.int (0 : Int32))]))
      refine own_go (fun _ q => XS.ifNo X3.here hx rfl (hb hby at_276) rfl ((if0 _ _).trans (teq (by decide : (0 : Int32) = (0 : Int32))).2) q) ?_
      show own_Go _ _ _ _ _ _ _ (T3.setTop (mkF m 279 #[.val (.int p0), .val (.int p1), .val (.int p2), .val (.int p3), .val (.int za), .val (.int zb), .val (.double sc), .second, .val (.double rp), .second, .val (.double rm), .second, .val (.double (FP.dneg (FP.i2d (p3 &&& (65535 : Int32))))), .second, .val (.ref b1), .val (.double s0), .second, .val (.double ex), .second, .val (.int (1 : Int32))] []))
      refine own_go (fun _ q => XS.iconst X3.here hx rfl (hb hby at_279) q) ?_
      show own_Go _ _ _ _ _ _ _ (T3.setTop (mkF m 280 #[.val (.int p0), .val (.int p1), .val (.int p2), .val (.int p3), .val (.int za), .val (.int zb), .val (.double sc), .second, .val (.double rp), .second, .val (.double rm), .second, .val (.double (FP.dneg (FP.i2d (p3 &&& (65535 : Int32))))), .second, .val (.ref b1), .val (.double s0), .second, .val (.double ex), .second, .val (.int (1 : Int32))] [(.int (1 : Int32))]))
      refine own_go (fun _ q => XS.goto X3.here hx rfl (pc0 := 280) (pc' := 284) rfl (hb hby at_280) (by decide) (by decide) q) ?_
      show own_Go _ _ _ _ _ _ _ (T3.setTop (mkF m 284 #[.val (.int p0), .val (.int p1), .val (.int p2), .val (.int p3), .val (.int za), .val (.int zb), .val (.double sc), .second, .val (.double rp), .second, .val (.double rm), .second, .val (.double (FP.dneg (FP.i2d (p3 &&& (65535 : Int32))))), .second, .val (.ref b1), .val (.double s0), .second, .val (.double ex), .second, .val (.int (1 : Int32))] [(.int (1 : Int32))]))
      refine own_go (fun _ q => XS.iload X3.here hx rfl (hb hby at_284) rfl q) ?_
      show own_Go _ _ _ _ _ _ _ (T3.setTop (mkF m 286 #[.val (.int p0), .val (.int p1), .val (.int p2), .val (.int p3), .val (.int za), .val (.int zb), .val (.double sc), .second, .val (.double rp), .second, .val (.double rm), .second, .val (.double (FP.dneg (FP.i2d (p3 &&& (65535 : Int32))))), .second, .val (.ref b1), .val (.double s0), .second, .val (.double ex), .second, .val (.int (1 : Int32))] [(.int za), (.int (1 : Int32))]))
      refine own_go (fun _ q => XS.ifNo X3.here hx rfl (hb hby at_286) rfl ((if0 _ _).trans (teq (own_eq (x := za) (y := 0) (by have e0 : (0 : Int32).toInt = 0 := rfl; omega))).2) q) ?_
      show own_Go _ _ _ _ _ _ _ (T3.setTop (mkF m 289 #[.val (.int p0), .val (.int p1), .val (.int p2), .val (.int p3), .val (.int za), .val (.int zb), .val (.double sc), .second, .val (.double rp), .second, .val (.double rm), .second, .val (.double (FP.dneg (FP.i2d (p3 &&& (65535 : Int32))))), .second, .val (.ref b1), .val (.double s0), .second, .val (.double ex), .second, .val (.int (1 : Int32))] [(.int (1 : Int32))]))
      refine own_go (fun _ q => XS.iconst X3.here hx rfl (hb hby at_289) q) ?_
      show own_Go _ _ _ _ _ _ _ (T3.setTop (mkF m 290 #[.val (.int p0), .val (.int p1), .val (.int p2), .val (.int p3), .val (.int za), .val (.int zb), .val (.double sc), .second, .val (.double rp), .second, .val (.double rm), .second, .val (.double (FP.dneg (FP.i2d (p3 &&& (65535 : Int32))))), .second, .val (.ref b1), .val (.double s0), .second, .val (.double ex), .second, .val (.int (1 : Int32))] [(.int (1 : Int32)), (.int (1 : Int32))]))
      refine own_go (fun _ q => XS.goto X3.here hx rfl (pc0 := 290) (pc' := 294) rfl (hb hby at_290) (by decide) (by decide) q) ?_
      show own_Go _ _ _ _ _ _ _ (T3.setTop (mkF m 294 #[.val (.int p0), .val (.int p1), .val (.int p2), .val (.int p3), .val (.int za), .val (.int zb), .val (.double sc), .second, .val (.double rp), .second, .val (.double rm), .second, .val (.double (FP.dneg (FP.i2d (p3 &&& (65535 : Int32))))), .second, .val (.ref b1), .val (.double s0), .second, .val (.double ex), .second, .val (.int (1 : Int32))] [(.int (1 : Int32)), (.int (1 : Int32))]))
      refine own_go (fun _ q => XS.icmpNo X3.here hx rfl (hb hby at_294) rfl (teq (by decide : (1 : Int32) = (1 : Int32))).2 q) ?_
      show own_Go _ _ _ _ _ _ _ (T3.setTop (mkF m 297 #[.val (.int p0), .val (.int p1), .val (.int p2), .val (.int p3), .val (.int za), .val (.int zb), .val (.double sc), .second, .val (.double rp), .second, .val (.double rm), .second, .val (.double (FP.dneg (FP.i2d (p3 &&& (65535 : Int32))))), .second, .val (.ref b1), .val (.double s0), .second, .val (.double ex), .second, .val (.int (1 : Int32))] []))
      refine own_go (fun _ q => XS.iconst X3.here hx rfl (hb hby at_297) q) ?_
      show own_Go _ _ _ _ _ _ _ (T3.setTop (mkF m 298 #[.val (.int p0), .val (.int p1), .val (.int p2), .val (.int p3), .val (.int za), .val (.int zb), .val (.double sc), .second, .val (.double rp), .second, .val (.double rm), .second, .val (.double (FP.dneg (FP.i2d (p3 &&& (65535 : Int32))))), .second, .val (.ref b1), .val (.double s0), .second, .val (.double ex), .second, .val (.int (1 : Int32))] [(.int (1 : Int32))]))
      refine own_go (fun _ q => XS.goto X3.here hx rfl (pc0 := 298) (pc' := 302) rfl (hb hby at_298) (by decide) (by decide) q) ?_
      show own_Go _ _ _ _ _ _ _ (T3.setTop (mkF m 302 #[.val (.int p0), .val (.int p1), .val (.int p2), .val (.int p3), .val (.int za), .val (.int zb), .val (.double sc), .second, .val (.double rp), .second, .val (.double rm), .second, .val (.double (FP.dneg (FP.i2d (p3 &&& (65535 : Int32))))), .second, .val (.ref b1), .val (.double s0), .second, .val (.double ex), .second, .val (.int (1 : Int32))] [(.int (1 : Int32))]))
      refine own_go (fun _ q => XS.istore X3.here hx rfl (hb hby at_302) rfl (l' := #[.val (.int p0), .val (.int p1), .val (.int p2), .val (.int p3), .val (.int za), .val (.int zb), .val (.double sc), .second, .val (.double rp), .second, .val (.double rm), .second, .val (.double (FP.dneg (FP.i2d (p3 &&& (65535 : Int32))))), .second, .val (.ref b1), .val (.double s0), .second, .val (.double ex), .second, .val (.int (1 : Int32))]) rfl q) ?_
      show own_Go _ _ _ _ _ _ _ (T3.setTop (mkF m 304 #[.val (.int p0), .val (.int p1), .val (.int p2), .val (.int p3), .val (.int za), .val (.int zb), .val (.double sc), .second, .val (.double rp), .second, .val (.double rm), .second, .val (.double (FP.dneg (FP.i2d (p3 &&& (65535 : Int32))))), .second, .val (.ref b1), .val (.double s0), .second, .val (.double ex), .second, .val (.int (1 : Int32))] []))
      refine own_go (fun _ q => XS.iload X3.here hx rfl (hb hby at_304) rfl q) ?_
      show own_Go _ _ _ _ _ _ _ (T3.setTop (mkF m 306 #[.val (.int p0), .val (.int p1), .val (.int p2), .val (.int p3), .val (.int za), .val (.int zb), .val (.double sc), .second, .val (.double rp), .second, .val (.double rm), .second, .val (.double (FP.dneg (FP.i2d (p3 &&& (65535 : Int32))))), .second, .val (.ref b1), .val (.double s0), .second, .val (.double ex), .second, .val (.int (1 : Int32))] [(.int (1 : Int32))]))
      exact own_retZ X3 hx hlk hret (hb hby at_306) (by decide) (by decide) (by decide) ⟨rfl, N3⟩
    · refine own_go (own_dcmp X3 hx (g := (mkF m 130 #[.val (.int p0), .val (.int p1), .val (.int p2), .val (.int p3), .val (.int za), .val (.int zb), .val (.double sc), .second, .val (.double rp), .second, .val (.double rm), .second, .val (.double (FP.dneg (FP.i2d (p3 &&& (65535 : Int32))))), .second, .val (.ref b1), .val (.double s0), .second, .val (.double ex), .second, .val (.int (1 : Int32))] [(.double s0), (.double FP.dconst0)])) rfl (o := .eq) (own_zero_eq DS hn0 (by omega)).2 (hb hby at_130) rfl) ?_
      show own_Go _ _ _ _ _ _ _ (T3.setTop (mkF m 131 #[.val (.int p0), .val (.int p1), .val (.int p2), .val (.int p3), .val (.int za), .val (.int zb), .val (.double sc), .second, .val (.double rp), .second, .val (.double rm), .second, .val (.double (FP.dneg (FP.i2d (p3 &&& (65535 : Int32))))), .second, .val (.ref b1), .val (.double s0), .second, .val (.double ex), .second, .val (.int (1 : Int32))] [(.int (0 : Int32))]))
      refine own_go (fun _ q => XS.ifNo X3.here hx rfl (hb hby at_131) rfl ((if0 _ _).trans (flt (by decide : ¬ ((0 : Int32) < (0 : Int32)))).2.2.1) q) ?_
      show own_Go _ _ _ _ _ _ _ (T3.setTop (mkF m 134 #[.val (.int p0), .val (.int p1), .val (.int p2), .val (.int p3), .val (.int za), .val (.int zb), .val (.double sc), .second, .val (.double rp), .second, .val (.double rm), .second, .val (.double (FP.dneg (FP.i2d (p3 &&& (65535 : Int32))))), .second, .val (.ref b1), .val (.double s0), .second, .val (.double ex), .second, .val (.int (1 : Int32))] []))
      refine own_go (fun _ q => XT.dload X3.here hx rfl (hb hby at_134) rfl q) ?_
      show own_Go _ _ _ _ _ _ _ (T3.setTop (mkF m 136 #[.val (.int p0), .val (.int p1), .val (.int p2), .val (.int p3), .val (.int za), .val (.int zb), .val (.double sc), .second, .val (.double rp), .second, .val (.double rm), .second, .val (.double (FP.dneg (FP.i2d (p3 &&& (65535 : Int32))))), .second, .val (.ref b1), .val (.double s0), .second, .val (.double ex), .second, .val (.int (1 : Int32))] [(.double s0)]))
      refine own_go (own_dconst1 X3 hx (g := (mkF m 136 #[.val (.int p0), .val (.int p1), .val (.int p2), .val (.int p3), .val (.int za), .val (.int zb), .val (.double sc), .second, .val (.double rp), .second, .val (.double rm), .second, .val (.double (FP.dneg (FP.i2d (p3 &&& (65535 : Int32))))), .second, .val (.ref b1), .val (.double s0), .second, .val (.double ex), .second, .val (.int (1 : Int32))] [(.double s0)])) rfl (hb hby at_136)) ?_
      show own_Go _ _ _ _ _ _ _ (T3.setTop (mkF m 137 #[.val (.int p0), .val (.int p1), .val (.int p2), .val (.int p3), .val (.int za), .val (.int zb), .val (.double sc), .second, .val (.double rp), .second, .val (.double rm), .second, .val (.double (FP.dneg (FP.i2d (p3 &&& (65535 : Int32))))), .second, .val (.ref b1), .val (.double s0), .second, .val (.double ex), .second, .val (.int (1 : Int32))] [(.double FP.dconst1), (.double s0)]))
      refine own_go (own_dcmp X3 hx (g := (mkF m 137 #[.val (.int p0), .val (.int p1), .val (.int p2), .val (.int p3), .val (.int za), .val (.int zb), .val (.double sc), .second, .val (.double rp), .second, .val (.double rm), .second, .val (.double (FP.dneg (FP.i2d (p3 &&& (65535 : Int32))))), .second, .val (.ref b1), .val (.double s0), .second, .val (.double ex), .second, .val (.int (1 : Int32))] [(.double FP.dconst1), (.double s0)])) rfl (o := .lt) (own_one_lt DS h21 (by omega)) (hb hby at_137) rfl) ?_
      show own_Go _ _ _ _ _ _ _ (T3.setTop (mkF m 138 #[.val (.int p0), .val (.int p1), .val (.int p2), .val (.int p3), .val (.int za), .val (.int zb), .val (.double sc), .second, .val (.double rp), .second, .val (.double rm), .second, .val (.double (FP.dneg (FP.i2d (p3 &&& (65535 : Int32))))), .second, .val (.ref b1), .val (.double s0), .second, .val (.double ex), .second, .val (.int (1 : Int32))] [(.int (-1 : Int32))]))
      refine own_go (fun _ q => XS.ifNo X3.here hx rfl (hb hby at_138) rfl ((if0 _ _).trans (flt (by decide : ¬ ((0 : Int32) < (-1 : Int32)))).2.2.1) q) ?_
      show own_Go _ _ _ _ _ _ _ (T3.setTop (mkF m 141 #[.val (.int p0), .val (.int p1), .val (.int p2), .val (.int p3), .val (.int za), .val (.int zb), .val (.double sc), .second, .val (.double rp), .second, .val (.double rm), .second, .val (.double (FP.dneg (FP.i2d (p3 &&& (65535 : Int32))))), .second, .val (.ref b1), .val (.double s0), .second, .val (.double ex), .second, .val (.int (1 : Int32))] []))
      refine own_go (fun _ q => XS.iconst X3.here hx rfl (hb hby at_141) q) ?_
      show own_Go _ _ _ _ _ _ _ (T3.setTop (mkF m 142 #[.val (.int p0), .val (.int p1), .val (.int p2), .val (.int p3), .val (.int za), .val (.int zb), .val (.double sc), .second, .val (.double rp), .second, .val (.double rm), .second, .val (.double (FP.dneg (FP.i2d (p3 &&& (65535 : Int32))))), .second, .val (.ref b1), .val (.double s0), .second, .val (.double ex), .second, .val (.int (1 : Int32))] [(.int (1 : Int32))]))
      refine own_go (fun _ q => XS.goto X3.here hx rfl (pc0 := 142) (pc' := 146) rfl (hb hby at_142) (by decide) (by decide) q) ?_
      show own_Go _ _ _ _ _ _ _ (T3.setTop (mkF m 146 #[.val (.int p0), .val (.int p1), .val (.int p2), .val (.int p3), .val (.int za), .val (.int zb), .val (.double sc), .second, .val (.double rp), .second, .val (.double rm), .second, .val (.double (FP.dneg (FP.i2d (p3 &&& (65535 : Int32))))), .second, .val (.ref b1), .val (.double s0), .second, .val (.double ex), .second, .val (.int (1 : Int32))] [(.int (1 : Int32))]))
      refine own_go (fun _ q => XS.istore X3.here hx rfl (hb hby at_146) rfl (l' := #[.val (.int p0), .val (.int p1), .val (.int p2), .val (.int p3), .val (.int za), .val (.int zb), .val (.double sc), .second, .val (.double rp), .second, .val (.double rm), .second, .val (.double (FP.dneg (FP.i2d (p3 &&& (65535 : Int32))))), .second, .val (.ref b1), .val (.double s0), .second, .val (.double ex), .second, .val (.int (1 : Int32))]) rfl q) ?_
      show own_Go _ _ _ _ _ _ _ (T3.setTop (mkF m 148 #[.val (.int p0), .val (.int p1), .val (.int p2), .val (.int p3), .val (.int za), .val (.int zb), .val (.double sc), .second, .val (.double rp), .second, .val (.double rm), .second, .val (.double (FP.dneg (FP.i2d (p3 &&& (65535 : Int32))))), .second, .val (.ref b1), .val (.double s0), .second, .val (.double ex), .second, .val (.int (1 : Int32))] []))
      refine own_go (fun _ q => XS.iload X3.here hx rfl (hb hby at_148) rfl q) ?_
      show own_Go _ _ _ _ _ _ _ (T3.setTop (mkF m 150 #[.val (.int p0), .val (.int p1), .val (.int p2), .val (.int p3), .val (.int za), .val (.int zb), .val (.double sc), .second, .val (.double rp), .second, .val (.double rm), .second, .val (.double (FP.dneg (FP.i2d (p3 &&& (65535 : Int32))))), .second, .val (.ref b1), .val (.double s0), .second, .val (.double ex), .second, .val (.int (1 : Int32))] [(.int (1 : Int32))]))
      refine own_go (fun _ q => XS.ifNo X3.here hx rfl (hb hby at_150) rfl ((if0 _ _).trans (feq (by decide : ¬ ((1 : Int32) = (0 : Int32)))).1) q) ?_
      show own_Go _ _ _ _ _ _ _ (T3.setTop (mkF m 153 #[.val (.int p0), .val (.int p1), .val (.int p2), .val (.int p3), .val (.int za), .val (.int zb), .val (.double sc), .second, .val (.double rp), .second, .val (.double rm), .second, .val (.double (FP.dneg (FP.i2d (p3 &&& (65535 : Int32))))), .second, .val (.ref b1), .val (.double s0), .second, .val (.double ex), .second, .val (.int (1 : Int32))] []))
      refine own_go (fun _ q => XT.dload X3.here hx rfl (hb hby at_153) rfl q) ?_
      show own_Go _ _ _ _ _ _ _ (T3.setTop (mkF m 155 #[.val (.int p0), .val (.int p1), .val (.int p2), .val (.int p3), .val (.int za), .val (.int zb), .val (.double sc), .second, .val (.double rp), .second, .val (.double rm), .second, .val (.double (FP.dneg (FP.i2d (p3 &&& (65535 : Int32))))), .second, .val (.ref b1), .val (.double s0), .second, .val (.double ex), .second, .val (.int (1 : Int32))] [(.double s0)]))
      refine own_go (X3.ldc2DoubleC hx hown (mvT hZ (hw _ (List.mem_of_getElem? (i := 1) rfl))) (g := (mkF m 155 #[.val (.int p0), .val (.int p1), .val (.int p2), .val (.int p3), .val (.int za), .val (.int zb), .val (.double sc), .second, .val (.double rp), .second, .val (.double rm), .second, .val (.double (FP.dneg (FP.i2d (p3 &&& (65535 : Int32))))), .second, .val (.ref b1), .val (.double s0), .second, .val (.double ex), .second, .val (.int (1 : Int32))] [(.double s0)])) rfl (hb hby at_155)) ?_
      show own_Go _ _ _ _ _ _ _ (T3.setTop (mkF m 158 #[.val (.int p0), .val (.int p1), .val (.int p2), .val (.int p3), .val (.int za), .val (.int zb), .val (.double sc), .second, .val (.double rp), .second, .val (.double rm), .second, .val (.double (FP.dneg (FP.i2d (p3 &&& (65535 : Int32))))), .second, .val (.ref b1), .val (.double s0), .second, .val (.double ex), .second, .val (.int (1 : Int32))] [(.double (4602678819172646912 : UInt64)), (.double s0)]))
      refine own_go (own_dcmp X3 hx (g := (mkF m 158 #[.val (.int p0), .val (.int p1), .val (.int p2), .val (.int p3), .val (.int za), .val (.int zb), .val (.double sc), .second, .val (.double rp), .second, .val (.double rm), .second, .val (.double (FP.dneg (FP.i2d (p3 &&& (65535 : Int32))))), .second, .val (.ref b1), .val (.double s0), .second, .val (.double ex), .second, .val (.int (1 : Int32))] [(.double (4602678819172646912 : UInt64)), (.double s0)])) rfl (o := .lt) (own_half_lt DS rfl h21 (by omega)) (hb hby at_158) rfl) ?_
      show own_Go _ _ _ _ _ _ _ (T3.setTop (mkF m 159 #[.val (.int p0), .val (.int p1), .val (.int p2), .val (.int p3), .val (.int za), .val (.int zb), .val (.double sc), .second, .val (.double rp), .second, .val (.double rm), .second, .val (.double (FP.dneg (FP.i2d (p3 &&& (65535 : Int32))))), .second, .val (.ref b1), .val (.double s0), .second, .val (.double ex), .second, .val (.int (1 : Int32))] [(.int (-1 : Int32))]))
      refine own_go (fun _ q => XS.ifNo X3.here hx rfl (hb hby at_159) rfl ((if0 _ _).trans (tlt (by decide : (-1 : Int32) < (0 : Int32))).2.1) q) ?_
      show own_Go _ _ _ _ _ _ _ (T3.setTop (mkF m 162 #[.val (.int p0), .val (.int p1), .val (.int p2), .val (.int p3), .val (.int za), .val (.int zb), .val (.double sc), .second, .val (.double rp), .second, .val (.double rm), .second, .val (.double (FP.dneg (FP.i2d (p3 &&& (65535 : Int32))))), .second, .val (.ref b1), .val (.double s0), .second, .val (.double ex), .second, .val (.int (1 : Int32))] []))
      refine own_go (fun _ q => XS.iconst X3.here hx rfl (hb hby at_162) q) ?_
      show own_Go _ _ _ _ _ _ _ (T3.setTop (mkF m 163 #[.val (.int p0), .val (.int p1), .val (.int p2), .val (.int p3), .val (.int za), .val (.int zb), .val (.double sc), .second, .val (.double rp), .second, .val (.double rm), .second, .val (.double (FP.dneg (FP.i2d (p3 &&& (65535 : Int32))))), .second, .val (.ref b1), .val (.double s0), .second, .val (.double ex), .second, .val (.int (1 : Int32))] [(.int (1 : Int32))]))
      refine own_go (fun _ q => XS.goto X3.here hx rfl (pc0 := 163) (pc' := 167) rfl (hb hby at_163) (by decide) (by decide) q) ?_
      show own_Go _ _ _ _ _ _ _ (T3.setTop (mkF m 167 #[.val (.int p0), .val (.int p1), .val (.int p2), .val (.int p3), .val (.int za), .val (.int zb), .val (.double sc), .second, .val (.double rp), .second, .val (.double rm), .second, .val (.double (FP.dneg (FP.i2d (p3 &&& (65535 : Int32))))), .second, .val (.ref b1), .val (.double s0), .second, .val (.double ex), .second, .val (.int (1 : Int32))] [(.int (1 : Int32))]))
      refine own_go (fun _ q => XS.iload X3.here hx rfl (hb hby at_167) rfl q) ?_
      show own_Go _ _ _ _ _ _ _ (T3.setTop (mkF m 169 #[.val (.int p0), .val (.int p1), .val (.int p2), .val (.int p3), .val (.int za), .val (.int zb), .val (.double sc), .second, .val (.double rp), .second, .val (.double rm), .second, .val (.double (FP.dneg (FP.i2d (p3 &&& (65535 : Int32))))), .second, .val (.ref b1), .val (.double s0), .second, .val (.double ex), .second, .val (.int (1 : Int32))] [(.int zb), (.int (1 : Int32))]))
      refine own_go (fun _ q => XS.iload X3.here hx rfl (hb hby at_169) rfl q) ?_
      show own_Go _ _ _ _ _ _ _ (T3.setTop (mkF m 171 #[.val (.int p0), .val (.int p1), .val (.int p2), .val (.int p3), .val (.int za), .val (.int zb), .val (.double sc), .second, .val (.double rp), .second, .val (.double rm), .second, .val (.double (FP.dneg (FP.i2d (p3 &&& (65535 : Int32))))), .second, .val (.ref b1), .val (.double s0), .second, .val (.double ex), .second, .val (.int (1 : Int32))] [(.int za), (.int zb), (.int (1 : Int32))]))
      refine own_go (fun _ q => XS.icmpNo X3.here hx rfl (hb hby at_171) rfl (tlt (own_lt (x := zb) (y := za) (by omega))).2.1 q) ?_
      show own_Go _ _ _ _ _ _ _ (T3.setTop (mkF m 174 #[.val (.int p0), .val (.int p1), .val (.int p2), .val (.int p3), .val (.int za), .val (.int zb), .val (.double sc), .second, .val (.double rp), .second, .val (.double rm), .second, .val (.double (FP.dneg (FP.i2d (p3 &&& (65535 : Int32))))), .second, .val (.ref b1), .val (.double s0), .second, .val (.double ex), .second, .val (.int (1 : Int32))] [(.int (1 : Int32))]))
      refine own_go (fun _ q => XS.iconst X3.here hx rfl (hb hby at_174) q) ?_
      show own_Go _ _ _ _ _ _ _ (T3.setTop (mkF m 175 #[.val (.int p0), .val (.int p1), .val (.int p2), .val (.int p3), .val (.int za), .val (.int zb), .val (.double sc), .second, .val (.double rp), .second, .val (.double rm), .second, .val (.double (FP.dneg (FP.i2d (p3 &&& (65535 : Int32))))), .second, .val (.ref b1), .val (.double s0), .second, .val (.double ex), .second, .val (.int (1 : Int32))] [(.int (1 : Int32)), (.int (1 : Int32))]))
      refine own_go (fun _ q => XS.goto X3.here hx rfl (pc0 := 175) (pc' := 179) rfl (hb hby at_175) (by decide) (by decide) q) ?_
      show own_Go _ _ _ _ _ _ _ (T3.setTop (mkF m 179 #[.val (.int p0), .val (.int p1), .val (.int p2), .val (.int p3), .val (.int za), .val (.int zb), .val (.double sc), .second, .val (.double rp), .second, .val (.double rm), .second, .val (.double (FP.dneg (FP.i2d (p3 &&& (65535 : Int32))))), .second, .val (.ref b1), .val (.double s0), .second, .val (.double ex), .second, .val (.int (1 : Int32))] [(.int (1 : Int32)), (.int (1 : Int32))]))
      refine own_go (fun _ q => XS.icmpNo X3.here hx rfl (hb hby at_179) rfl (teq (by decide : (1 : Int32) = (1 : Int32))).2 q) ?_
      show own_Go _ _ _ _ _ _ _ (T3.setTop (mkF m 182 #[.val (.int p0), .val (.int p1), .val (.int p2), .val (.int p3), .val (.int za), .val (.int zb), .val (.double sc), .second, .val (.double rp), .second, .val (.double rm), .second, .val (.double (FP.dneg (FP.i2d (p3 &&& (65535 : Int32))))), .second, .val (.ref b1), .val (.double s0), .second, .val (.double ex), .second, .val (.int (1 : Int32))] []))
      refine own_go (fun _ q => XS.iconst X3.here hx rfl (hb hby at_182) q) ?_
      show own_Go _ _ _ _ _ _ _ (T3.setTop (mkF m 183 #[.val (.int p0), .val (.int p1), .val (.int p2), .val (.int p3), .val (.int za), .val (.int zb), .val (.double sc), .second, .val (.double rp), .second, .val (.double rm), .second, .val (.double (FP.dneg (FP.i2d (p3 &&& (65535 : Int32))))), .second, .val (.ref b1), .val (.double s0), .second, .val (.double ex), .second, .val (.int (1 : Int32))] [(.int (1 : Int32))]))
      refine own_go (fun _ q => XS.goto X3.here hx rfl (pc0 := 183) (pc' := 187) rfl (hb hby at_183) (by decide) (by decide) q) ?_
      show own_Go _ _ _ _ _ _ _ (T3.setTop (mkF m 187 #[.val (.int p0), .val (.int p1), .val (.int p2), .val (.int p3), .val (.int za), .val (.int zb), .val (.double sc), .second, .val (.double rp), .second, .val (.double rm), .second, .val (.double (FP.dneg (FP.i2d (p3 &&& (65535 : Int32))))), .second, .val (.ref b1), .val (.double s0), .second, .val (.double ex), .second, .val (.int (1 : Int32))] [(.int (1 : Int32))]))
      refine own_go (fun _ q => XS.istore X3.here hx rfl (hb hby at_187) rfl (l' := #[.val (.int p0), .val (.int p1), .val (.int p2), .val (.int p3), .val (.int za), .val (.int zb), .val (.double sc), .second, .val (.double rp), .second, .val (.double rm), .second, .val (.double (FP.dneg (FP.i2d (p3 &&& (65535 : Int32))))), .second, .val (.ref b1), .val (.double s0), .second, .val (.double ex), .second, .val (.int (1 : Int32))]) rfl q) ?_
      show own_Go _ _ _ _ _ _ _ (T3.setTop (mkF m 189 #[.val (.int p0), .val (.int p1), .val (.int p2), .val (.int p3), .val (.int za), .val (.int zb), .val (.double sc), .second, .val (.double rp), .second, .val (.double rm), .second, .val (.double (FP.dneg (FP.i2d (p3 &&& (65535 : Int32))))), .second, .val (.ref b1), .val (.double s0), .second, .val (.double ex), .second, .val (.int (1 : Int32))] []))
      refine own_go (fun _ q => XS.iload X3.here hx rfl (hb hby at_189) rfl q) ?_
      show own_Go _ _ _ _ _ _ _ (T3.setTop (mkF m 191 #[.val (.int p0), .val (.int p1), .val (.int p2), .val (.int p3), .val (.int za), .val (.int zb), .val (.double sc), .second, .val (.double rp), .second, .val (.double rm), .second, .val (.double (FP.dneg (FP.i2d (p3 &&& (65535 : Int32))))), .second, .val (.ref b1), .val (.double s0), .second, .val (.double ex), .second, .val (.int (1 : Int32))] [(.int (1 : Int32))]))
      refine own_go (fun _ q => XS.ifNo X3.here hx rfl (hb hby at_191) rfl ((if0 _ _).trans (feq (by decide : ¬ ((1 : Int32) = (0 : Int32)))).1) q) ?_
      show own_Go _ _ _ _ _ _ _ (T3.setTop (mkF m 194 #[.val (.int p0), .val (.int p1), .val (.int p2), .val (.int p3), .val (.int za), .val (.int zb), .val (.double sc), .second, .val (.double rp), .second, .val (.double rm), .second, .val (.double (FP.dneg (FP.i2d (p3 &&& (65535 : Int32))))), .second, .val (.ref b1), .val (.double s0), .second, .val (.double ex), .second, .val (.int (1 : Int32))] []))
      refine own_go (fun _ q => XT.dload X3.here hx rfl (hb hby at_194) rfl q) ?_
      show own_Go _ _ _ _ _ _ _ (T3.setTop (mkF m 196 #[.val (.int p0), .val (.int p1), .val (.int p2), .val (.int p3), .val (.int za), .val (.int zb), .val (.double sc), .second, .val (.double rp), .second, .val (.double rm), .second, .val (.double (FP.dneg (FP.i2d (p3 &&& (65535 : Int32))))), .second, .val (.ref b1), .val (.double s0), .second, .val (.double ex), .second, .val (.int (1 : Int32))] [(.double s0)]))
      refine own_go (X3.ldc2DoubleC hx hown (mvT hZ (hw _ (List.mem_of_getElem? (i := 1) rfl))) (g := (mkF m 196 #[.val (.int p0), .val (.int p1), .val (.int p2), .val (.int p3), .val (.int za), .val (.int zb), .val (.double sc), .second, .val (.double rp), .second, .val (.double rm), .second, .val (.double (FP.dneg (FP.i2d (p3 &&& (65535 : Int32))))), .second, .val (.ref b1), .val (.double s0), .second, .val (.double ex), .second, .val (.int (1 : Int32))] [(.double s0)])) rfl (hb hby at_196)) ?_
      show own_Go _ _ _ _ _ _ _ (T3.setTop (mkF m 199 #[.val (.int p0), .val (.int p1), .val (.int p2), .val (.int p3), .val (.int za), .val (.int zb), .val (.double sc), .second, .val (.double rp), .second, .val (.double rm), .second, .val (.double (FP.dneg (FP.i2d (p3 &&& (65535 : Int32))))), .second, .val (.ref b1), .val (.double s0), .second, .val (.double ex), .second, .val (.int (1 : Int32))] [(.double (4602678819172646912 : UInt64)), (.double s0)]))
      refine own_go (own_dcmp X3 hx (g := (mkF m 199 #[.val (.int p0), .val (.int p1), .val (.int p2), .val (.int p3), .val (.int za), .val (.int zb), .val (.double sc), .second, .val (.double rp), .second, .val (.double rm), .second, .val (.double (FP.dneg (FP.i2d (p3 &&& (65535 : Int32))))), .second, .val (.ref b1), .val (.double s0), .second, .val (.double ex), .second, .val (.int (1 : Int32))] [(.double (4602678819172646912 : UInt64)), (.double s0)])) rfl (o := .lt) (own_half_lt DS rfl h21 (by omega)) (hb hby at_199) rfl) ?_
      show own_Go _ _ _ _ _ _ _ (T3.setTop (mkF m 200 #[.val (.int p0), .val (.int p1), .val (.int p2), .val (.int p3), .val (.int za), .val (.int zb), .val (.double sc), .second, .val (.double rp), .second, .val (.double rm), .second, .val (.double (FP.dneg (FP.i2d (p3 &&& (65535 : Int32))))), .second, .val (.ref b1), .val (.double s0), .second, .val (.double ex), .second, .val (.int (1 : Int32))] [(.int (-1 : Int32))]))
      refine own_go (fun _ q => XS.ifYes X3.here hx rfl (pc0 := 200) (pc' := 207) rfl (hb hby at_200) rfl ((if0 _ _).trans (feq (by decide : ¬ ((-1 : Int32) = (0 : Int32)))).2) (by decide) (by decide) q) ?_
      show own_Go _ _ _ _ _ _ _ (T3.setTop (mkF m 207 #[.val (.int p0), .val (.int p1), .val (.int p2), .val (.int p3), .val (.int za), .val (.int zb), .val (.double sc), .second, .val (.double rp), .second, .val (.double rm), .second, .val (.double (FP.dneg (FP.i2d (p3 &&& (65535 : Int32))))), .second, .val (.ref b1), .val (.double s0), .second, .val (.double ex), .second, .val (.int (1 : Int32))] []))
      refine own_go (fun _ q => XS.iconst X3.here hx rfl (hb hby at_207) q) ?_
      show own_Go _ _ _ _ _ _ _ (T3.setTop (mkF m 208 #[.val (.int p0), .val (.int p1), .val (.int p2), .val (.int p3), .val (.int za), .val (.int zb), .val (.double sc), .second, .val (.double rp), .second, .val (.double rm), .second, .val (.double (FP.dneg (FP.i2d (p3 &&& (65535 : Int32))))), .second, .val (.ref b1), .val (.double s0), .second, .val (.double ex), .second, .val (.int (1 : Int32))] [(.int (0 : Int32))]))
      refine own_go (fun _ q => XS.iload X3.here hx rfl (hb hby at_208) rfl q) ?_
      show own_Go _ _ _ _ _ _ _ (T3.setTop (mkF m 210 #[.val (.int p0), .val (.int p1), .val (.int p2), .val (.int p3), .val (.int za), .val (.int zb), .val (.double sc), .second, .val (.double rp), .second, .val (.double rm), .second, .val (.double (FP.dneg (FP.i2d (p3 &&& (65535 : Int32))))), .second, .val (.ref b1), .val (.double s0), .second, .val (.double ex), .second, .val (.int (1 : Int32))] [(.int za), (.int (0 : Int32))]))
      refine own_go (fun _ q => XS.iload X3.here hx rfl (hb hby at_210) rfl q) ?_
      show own_Go _ _ _ _ _ _ _ (T3.setTop (mkF m 212 #[.val (.int p0), .val (.int p1), .val (.int p2), .val (.int p3), .val (.int za), .val (.int zb), .val (.double sc), .second, .val (.double rp), .second, .val (.double rm), .second, .val (.double (FP.dneg (FP.i2d (p3 &&& (65535 : Int32))))), .second, .val (.ref b1), .val (.double s0), .second, .val (.double ex), .second, .val (.int (1 : Int32))] [(.int zb), (.int za), (.int (0 : Int32))]))
      refine own_go (fun _ q => XS.icmpYes X3.here hx rfl (pc0 := 212) (pc' := 219) rfl (hb hby at_212) rfl (feq (own_ne (x := za) (y := zb) (by have e0 : (0 : Int32).toInt = 0 := rfl; omega))).2 (by decide) (by decide) q) ?_
      show own_Go _ _ _ _ _ _ _ (T3.setTop (mkF m 219 #[.val (.int p0), .val (.int p1), .val (.int p2), .val (.int p3), .val (.int za), .val (.int zb), .val (.double sc), .second, .val (.double rp), .second, .val (.double rm), .second, .val (.double (FP.dneg (FP.i2d (p3 &&& (65535 : Int32))))), .second, .val (.ref b1), .val (.double s0), .second, .val (.double ex), .second, .val (.int (1 : Int32))] [(.int (0 : Int32))]))
      refine own_go (fun _ q => XS.iconst X3.here hx rfl (hb hby at_219) q) ?_
      show own_Go _ _ _ _ _ _ _ (T3.setTop (mkF m 220 #[.val (.int p0), .val (.int p1), .val (.int p2), .val (.int p3), .val (.int za), .val (.int zb), .val (.double sc), .second, .val (.double rp), .second, .val (.double rm), .second, .val (.double (FP.dneg (FP.i2d (p3 &&& (65535 : Int32))))), .second, .val (.ref b1), .val (.double s0), .second, .val (.double ex), .second, .val (.int (1 : Int32))] [(.int (0 : Int32)), (.int (0 : Int32))]))
      refine own_go (fun _ q => XS.icmpNo X3.here hx rfl (hb hby at_220) rfl (teq (by decide : (0 : Int32) = (0 : Int32))).2 q) ?_
      show own_Go _ _ _ _ _ _ _ (T3.setTop (mkF m 223 #[.val (.int p0), .val (.int p1), .val (.int p2), .val (.int p3), .val (.int za), .val (.int zb), .val (.double sc), .second, .val (.double rp), .second, .val (.double rm), .second, .val (.double (FP.dneg (FP.i2d (p3 &&& (65535 : Int32))))), .second, .val (.ref b1), .val (.double s0), .second, .val (.double ex), .second, .val (.int (1 : Int32))] []))
      refine own_go (fun _ q => XS.iconst X3.here hx rfl (hb hby at_223) q) ?_
      show own_Go _ _ _ _ _ _ _ (T3.setTop (mkF m 224 #[.val (.int p0), .val (.int p1), .val (.int p2), .val (.int p3), .val (.int za), .val (.int zb), .val (.double sc), .second, .val (.double rp), .second, .val (.double rm), .second, .val (.double (FP.dneg (FP.i2d (p3 &&& (65535 : Int32))))), .second, .val (.ref b1), .val (.double s0), .second, .val (.double ex), .second, .val (.int (1 : Int32))] [(.int (1 : Int32))]))
      refine own_go (fun _ q => XS.goto X3.here hx rfl (pc0 := 224) (pc' := 228) rfl (hb hby at_224) (by decide) (by decide) q) ?_
      show own_Go _ _ _ _ _ _ _ (T3.setTop (mkF m 228 #[.val (.int p0), .val (.int p1), .val (.int p2), .val (.int p3), .val (.int za), .val (.int zb), .val (.double sc), .second, .val (.double rp), .second, .val (.double rm), .second, .val (.double (FP.dneg (FP.i2d (p3 &&& (65535 : Int32))))), .second, .val (.ref b1), .val (.double s0), .second, .val (.double ex), .second, .val (.int (1 : Int32))] [(.int (1 : Int32))]))
      refine own_go (fun _ q => XS.istore X3.here hx rfl (hb hby at_228) rfl (l' := #[.val (.int p0), .val (.int p1), .val (.int p2), .val (.int p3), .val (.int za), .val (.int zb), .val (.double sc), .second, .val (.double rp), .second, .val (.double rm), .second, .val (.double (FP.dneg (FP.i2d (p3 &&& (65535 : Int32))))), .second, .val (.ref b1), .val (.double s0), .second, .val (.double ex), .second, .val (.int (1 : Int32))]) rfl q) ?_
      show own_Go _ _ _ _ _ _ _ (T3.setTop (mkF m 230 #[.val (.int p0), .val (.int p1), .val (.int p2), .val (.int p3), .val (.int za), .val (.int zb), .val (.double sc), .second, .val (.double rp), .second, .val (.double rm), .second, .val (.double (FP.dneg (FP.i2d (p3 &&& (65535 : Int32))))), .second, .val (.ref b1), .val (.double s0), .second, .val (.double ex), .second, .val (.int (1 : Int32))] []))
      refine own_go (fun _ q => XS.iload X3.here hx rfl (hb hby at_230) rfl q) ?_
      show own_Go _ _ _ _ _ _ _ (T3.setTop (mkF m 232 #[.val (.int p0), .val (.int p1), .val (.int p2), .val (.int p3), .val (.int za), .val (.int zb), .val (.double sc), .second, .val (.double rp), .second, .val (.double rm), .second, .val (.double (FP.dneg (FP.i2d (p3 &&& (65535 : Int32))))), .second, .val (.ref b1), .val (.double s0), .second, .val (.double ex), .second, .val (.int (1 : Int32))] [(.int (1 : Int32))]))
      refine own_go (fun _ q => XS.ifNo X3.here hx rfl (hb hby at_232) rfl ((if0 _ _).trans (feq (by decide : ¬ ((1 : Int32) = (0 : Int32)))).1) q) ?_
      show own_Go _ _ _ _ _ _ _ (T3.setTop (mkF m 235 #[.val (.int p0), .val (.int p1), .val (.int p2), .val (.int p3), .val (.int za), .val (.int zb), .val (.double sc), .second, .val (.double rp), .second, .val (.double rm), .second, .val (.double (FP.dneg (FP.i2d (p3 &&& (65535 : Int32))))), .second, .val (.ref b1), .val (.double s0), .second, .val (.double ex), .second, .val (.int (1 : Int32))] []))
      refine own_go (fun _ q => XT.dload X3.here hx rfl (hb hby at_235) rfl q) ?_
      show own_Go _ _ _ _ _ _ _ (T3.setTop (mkF m 237 #[.val (.int p0), .val (.int p1), .val (.int p2), .val (.int p3), .val (.int za), .val (.int zb), .val (.double sc), .second, .val (.double rp), .second, .val (.double rm), .second, .val (.double (FP.dneg (FP.i2d (p3 &&& (65535 : Int32))))), .second, .val (.ref b1), .val (.double s0), .second, .val (.double ex), .second, .val (.int (1 : Int32))] [(.double s0)]))
      refine own_go (own_dconst0 X3 hx (g := (mkF m 237 #[.val (.int p0), .val (.int p1), .val (.int p2), .val (.int p3), .val (.int za), .val (.int zb), .val (.double sc), .second, .val (.double rp), .second, .val (.double rm), .second, .val (.double (FP.dneg (FP.i2d (p3 &&& (65535 : Int32))))), .second, .val (.ref b1), .val (.double s0), .second, .val (.double ex), .second, .val (.int (1 : Int32))] [(.double s0)])) rfl (hb hby at_237)) ?_
      show own_Go _ _ _ _ _ _ _ (T3.setTop (mkF m 238 #[.val (.int p0), .val (.int p1), .val (.int p2), .val (.int p3), .val (.int za), .val (.int zb), .val (.double sc), .second, .val (.double rp), .second, .val (.double rm), .second, .val (.double (FP.dneg (FP.i2d (p3 &&& (65535 : Int32))))), .second, .val (.ref b1), .val (.double s0), .second, .val (.double ex), .second, .val (.int (1 : Int32))] [(.double FP.dconst0), (.double s0)]))
      refine own_go (own_dcmp X3 hx (g := (mkF m 238 #[.val (.int p0), .val (.int p1), .val (.int p2), .val (.int p3), .val (.int za), .val (.int zb), .val (.double sc), .second, .val (.double rp), .second, .val (.double rm), .second, .val (.double (FP.dneg (FP.i2d (p3 &&& (65535 : Int32))))), .second, .val (.ref b1), .val (.double s0), .second, .val (.double ex), .second, .val (.int (1 : Int32))] [(.double FP.dconst0), (.double s0)])) rfl (o := .eq) (own_zero_eq DS hn0 (by omega)).1 (hb hby at_238) rfl) ?_
      show own_Go _ _ _ _ _ _ _ (T3.setTop (mkF m 239 #[.val (.int p0), .val (.int p1), .val (.int p2), .val (.int p3), .val (.int za), .val (.int zb), .val (.double sc), .second, .val (.double rp), .second, .val (.double rm), .second, .val (.double (FP.dneg (FP.i2d (p3 &&& (65535 : Int32))))), .second, .val (.ref b1), .val (.double s0), .second, .val (.double ex), .second, .val (.int (1 : Int32))] [(.int (0 : Int32))]))
      refine own_go (fun _ q => XS.ifNo X3.here hx rfl (hb hby at_239) rfl ((if0 _ _).trans (teq (by decide : (0 : Int32) = (0 : Int32))).2) q) ?_
      show own_Go _ _ _ _ _ _ _ (T3.setTop (mkF m 242 #[.val (.int p0), .val (.int p1), .val (.int p2), .val (.int p3), .val (.int za), .val (.int zb), .val (.double sc), .second, .val (.double rp), .second, .val (.double rm), .second, .val (.double (FP.dneg (FP.i2d (p3 &&& (65535 : Int32))))), .second, .val (.ref b1), .val (.double s0), .second, .val (.double ex), .second, .val (.int (1 : Int32))] []))
      refine own_go (fun _ q => XS.iconst X3.here hx rfl (hb hby at_242) q) ?_
      show own_Go _ _ _ _ _ _ _ (T3.setTop (mkF m 243 #[.val (.int p0), .val (.int p1), .val (.int p2), .val (.int p3), .val (.int za), .val (.int zb), .val (.double sc), .second, .val (.double rp), .second, .val (.double rm), .second, .val (.double (FP.dneg (FP.i2d (p3 &&& (65535 : Int32))))), .second, .val (.ref b1), .val (.double s0), .second, .val (.double ex), .second, .val (.int (1 : Int32))] [(.int (1 : Int32))]))
      refine own_go (fun _ q => XS.goto X3.here hx rfl (pc0 := 243) (pc' := 247) rfl (hb hby at_243) (by decide) (by decide) q) ?_
      show own_Go _ _ _ _ _ _ _ (T3.setTop (mkF m 247 #[.val (.int p0), .val (.int p1), .val (.int p2), .val (.int p3), .val (.int za), .val (.int zb), .val (.double sc), .second, .val (.double rp), .second, .val (.double rm), .second, .val (.double (FP.dneg (FP.i2d (p3 &&& (65535 : Int32))))), .second, .val (.ref b1), .val (.double s0), .second, .val (.double ex), .second, .val (.int (1 : Int32))] [(.int (1 : Int32))]))
      refine own_go (fun _ q => XS.iload X3.here hx rfl (hb hby at_247) rfl q) ?_
      show own_Go _ _ _ _ _ _ _ (T3.setTop (mkF m 249 #[.val (.int p0), .val (.int p1), .val (.int p2), .val (.int p3), .val (.int za), .val (.int zb), .val (.double sc), .second, .val (.double rp), .second, .val (.double rm), .second, .val (.double (FP.dneg (FP.i2d (p3 &&& (65535 : Int32))))), .second, .val (.ref b1), .val (.double s0), .second, .val (.double ex), .second, .val (.int (1 : Int32))] [(.int zb), (.int (1 : Int32))]))
      refine own_go (fun _ q => XS.ifNo X3.here hx rfl (hb hby at_249) rfl ((if0 _ _).trans (teq (own_eq (x := zb) (y := 0) (by have e0 : (0 : Int32).toInt = 0 := rfl; omega))).2) q) ?_
      show own_Go _ _ _ _ _ _ _ (T3.setTop (mkF m 252 #[.val (.int p0), .val (.int p1), .val (.int p2), .val (.int p3), .val (.int za), .val (.int zb), .val (.double sc), .second, .val (.double rp), .second, .val (.double rm), .second, .val (.double (FP.dneg (FP.i2d (p3 &&& (65535 : Int32))))), .second, .val (.ref b1), .val (.double s0), .second, .val (.double ex), .second, .val (.int (1 : Int32))] [(.int (1 : Int32))]))
      refine own_go (fun _ q => XS.iconst X3.here hx rfl (hb hby at_252) q) ?_
      show own_Go _ _ _ _ _ _ _ (T3.setTop (mkF m 253 #[.val (.int p0), .val (.int p1), .val (.int p2), .val (.int p3), .val (.int za), .val (.int zb), .val (.double sc), .second, .val (.double rp), .second, .val (.double rm), .second, .val (.double (FP.dneg (FP.i2d (p3 &&& (65535 : Int32))))), .second, .val (.ref b1), .val (.double s0), .second, .val (.double ex), .second, .val (.int (1 : Int32))] [(.int (1 : Int32)), (.int (1 : Int32))]))
      refine own_go (fun _ q => XS.goto X3.here hx rfl (pc0 := 253) (pc' := 257) rfl (hb hby at_253) (by decide) (by decide) q) ?_
      show own_Go _ _ _ _ _ _ _ (T3.setTop (mkF m 257 #[.val (.int p0), .val (.int p1), .val (.int p2), .val (.int p3), .val (.int za), .val (.int zb), .val (.double sc), .second, .val (.double rp), .second, .val (.double rm), .second, .val (.double (FP.dneg (FP.i2d (p3 &&& (65535 : Int32))))), .second, .val (.ref b1), .val (.double s0), .second, .val (.double ex), .second, .val (.int (1 : Int32))] [(.int (1 : Int32)), (.int (1 : Int32))]))
      refine own_go (fun _ q => XS.icmpNo X3.here hx rfl (hb hby at_257) rfl (teq (by decide : (1 : Int32) = (1 : Int32))).2 q) ?_
      show own_Go _ _ _ _ _ _ _ (T3.setTop (mkF m 260 #[.val (.int p0), .val (.int p1), .val (.int p2), .val (.int p3), .val (.int za), .val (.int zb), .val (.double sc), .second, .val (.double rp), .second, .val (.double rm), .second, .val (.double (FP.dneg (FP.i2d (p3 &&& (65535 : Int32))))), .second, .val (.ref b1), .val (.double s0), .second, .val (.double ex), .second, .val (.int (1 : Int32))] []))
      refine own_go (fun _ q => XS.iconst X3.here hx rfl (hb hby at_260) q) ?_
      show own_Go _ _ _ _ _ _ _ (T3.setTop (mkF m 261 #[.val (.int p0), .val (.int p1), .val (.int p2), .val (.int p3), .val (.int za), .val (.int zb), .val (.double sc), .second, .val (.double rp), .second, .val (.double rm), .second, .val (.double (FP.dneg (FP.i2d (p3 &&& (65535 : Int32))))), .second, .val (.ref b1), .val (.double s0), .second, .val (.double ex), .second, .val (.int (1 : Int32))] [(.int (1 : Int32))]))
      refine own_go (fun _ q => XS.goto X3.here hx rfl (pc0 := 261) (pc' := 265) rfl (hb hby at_261) (by decide) (by decide) q) ?_
      show own_Go _ _ _ _ _ _ _ (T3.setTop (mkF m 265 #[.val (.int p0), .val (.int p1), .val (.int p2), .val (.int p3), .val (.int za), .val (.int zb), .val (.double sc), .second, .val (.double rp), .second, .val (.double rm), .second, .val (.double (FP.dneg (FP.i2d (p3 &&& (65535 : Int32))))), .second, .val (.ref b1), .val (.double s0), .second, .val (.double ex), .second, .val (.int (1 : Int32))] [(.int (1 : Int32))]))
      refine own_go (fun _ q => XS.istore X3.here hx rfl (hb hby at_265) rfl (l' := #[.val (.int p0), .val (.int p1), .val (.int p2), .val (.int p3), .val (.int za), .val (.int zb), .val (.double sc), .second, .val (.double rp), .second, .val (.double rm), .second, .val (.double (FP.dneg (FP.i2d (p3 &&& (65535 : Int32))))), .second, .val (.ref b1), .val (.double s0), .second, .val (.double ex), .second, .val (.int (1 : Int32))]) rfl q) ?_
      show own_Go _ _ _ _ _ _ _ (T3.setTop (mkF m 267 #[.val (.int p0), .val (.int p1), .val (.int p2), .val (.int p3), .val (.int za), .val (.int zb), .val (.double sc), .second, .val (.double rp), .second, .val (.double rm), .second, .val (.double (FP.dneg (FP.i2d (p3 &&& (65535 : Int32))))), .second, .val (.ref b1), .val (.double s0), .second, .val (.double ex), .second, .val (.int (1 : Int32))] []))
      refine own_go (fun _ q => XS.iload X3.here hx rfl (hb hby at_267) rfl q) ?_
      show own_Go _ _ _ _ _ _ _ (T3.setTop (mkF m 269 #[.val (.int p0), .val (.int p1), .val (.int p2), .val (.int p3), .val (.int za), .val (.int zb), .val (.double sc), .second, .val (.double rp), .second, .val (.double rm), .second, .val (.double (FP.dneg (FP.i2d (p3 &&& (65535 : Int32))))), .second, .val (.ref b1), .val (.double s0), .second, .val (.double ex), .second, .val (.int (1 : Int32))] [(.int (1 : Int32))]))
      refine own_go (fun _ q => XS.ifNo X3.here hx rfl (hb hby at_269) rfl ((if0 _ _).trans (feq (by decide : ¬ ((1 : Int32) = (0 : Int32)))).1) q) ?_
      show own_Go _ _ _ _ _ _ _ (T3.setTop (mkF m 272 #[.val (.int p0), .val (.int p1), .val (.int p2), .val (.int p3), .val (.int za), .val (.int zb), .val (.double sc), .second, .val (.double rp), .second, .val (.double rm), .second, .val (.double (FP.dneg (FP.i2d (p3 &&& (65535 : Int32))))), .second, .val (.ref b1), .val (.double s0), .second, .val (.double ex), .second, .val (.int (1 : Int32))] []))
      refine own_go (fun _ q => XT.dload X3.here hx rfl (hb hby at_272) rfl q) ?_
      show own_Go _ _ _ _ _ _ _ (T3.setTop (mkF m 274 #[.val (.int p0), .val (.int p1), .val (.int p2), .val (.int p3), .val (.int za), .val (.int zb), .val (.double sc), .second, .val (.double rp), .second, .val (.double rm), .second, .val (.double (FP.dneg (FP.i2d (p3 &&& (65535 : Int32))))), .second, .val (.ref b1), .val (.double s0), .second, .val (.double ex), .second, .val (.int (1 : Int32))] [(.double s0)]))
      refine own_go (own_dconst1 X3 hx (g := (mkF m 274 #[.val (.int p0), .val (.int p1), .val (.int p2), .val (.int p3), .val (.int za), .val (.int zb), .val (.double sc), .second, .val (.double rp), .second, .val (.double rm), .second, .val (.double (FP.dneg (FP.i2d (p3 &&& (65535 : Int32))))), .second, .val (.ref b1), .val (.double s0), .second, .val (.double ex), .second, .val (.int (1 : Int32))] [(.double s0)])) rfl (hb hby at_274)) ?_
      show own_Go _ _ _ _ _ _ _ (T3.setTop (mkF m 275 #[.val (.int p0), .val (.int p1), .val (.int p2), .val (.int p3), .val (.int za), .val (.int zb), .val (.double sc), .second, .val (.double rp), .second, .val (.double rm), .second, .val (.double (FP.dneg (FP.i2d (p3 &&& (65535 : Int32))))), .second, .val (.ref b1), .val (.double s0), .second, .val (.double ex), .second, .val (.int (1 : Int32))] [(.double FP.dconst1), (.double s0)]))
      refine own_go (own_dcmp X3 hx (g := (mkF m 275 #[.val (.int p0), .val (.int p1), .val (.int p2), .val (.int p3), .val (.int za), .val (.int zb), .val (.double sc), .second, .val (.double rp), .second, .val (.double rm), .second, .val (.double (FP.dneg (FP.i2d (p3 &&& (65535 : Int32))))), .second, .val (.ref b1), .val (.double s0), .second, .val (.double ex), .second, .val (.int (1 : Int32))] [(.double FP.dconst1), (.double s0)])) rfl (o := .lt) (own_one_lt DS h21 (by omega)) (hb hby at_275) rfl) ?_
      show own_Go _ _ _ _ _ _ _ (T3.setTop (mkF m 276 #[.val (.int p0), .val (.int p1), .val (.int p2), .val (.int p3), .val (.int za), .val (.int zb), .val (.double sc), .second, .val (.double rp), .second, .val (.double rm), .second, .val (.double (FP.dneg (FP.i2d (p3 &&& (65535 : Int32))))), .second, .val (.ref b1), .val (.double s0), .second, .val (.double ex), .second, .val (.int (1 : Int32))] [(.int (-1 : Int32))]))
      refine own_go (fun _ q => XS.ifYes X3.here hx rfl (pc0 := 276) (pc' := 283) rfl (hb hby at_276) rfl ((if0 _ _).trans (feq (by decide : ¬ ((-1 : Int32) = (0 : Int32)))).2) (by decide) (by decide) q) ?_
      show own_Go _ _ _ _ _ _ _ (T3.setTop (mkF m 283 #[.val (.int p0), .val (.int p1), .val (.int p2), .val (.int p3), .val (.int za), .val (.int zb), .val (.double sc), .second, .val (.double rp), .second, .val (.double rm), .second, .val (.double (FP.dneg (FP.i2d (p3 &&& (65535 : Int32))))), .second, .val (.ref b1), .val (.double s0), .second, .val (.double ex), .second, .val (.int (1 : Int32))] []))
      refine own_go (fun _ q => XS.iconst X3.here hx rfl (hb hby at_283) q) ?_
      show own_Go _ _ _ _ _ _ _ (T3.setTop (mkF m 284 #[.val (.int p0), .val (.int p1), .val (.int p2), .val (.int p3), .val (.int za), .val (.int zb), .val (.double sc), .second, .val (.double rp), .second, .val (.double rm), .second, .val (.double (FP.dneg (FP.i2d (p3 &&& (65535 : Int32))))), .second, .val (.ref b1), .val (.double s0), .second, .val (.double ex), .second, .val (.int (1 : Int32))] [(.int (0 : Int32))]))
      refine own_go (fun _ q => XS.iload X3.here hx rfl (hb hby at_284) rfl q) ?_
      show own_Go _ _ _ _ _ _ _ (T3.setTop (mkF m 286 #[.val (.int p0), .val (.int p1), .val (.int p2), .val (.int p3), .val (.int za), .val (.int zb), .val (.double sc), .second, .val (.double rp), .second, .val (.double rm), .second, .val (.double (FP.dneg (FP.i2d (p3 &&& (65535 : Int32))))), .second, .val (.ref b1), .val (.double s0), .second, .val (.double ex), .second, .val (.int (1 : Int32))] [(.int za), (.int (0 : Int32))]))
      refine own_go (fun _ q => XS.ifYes X3.here hx rfl (pc0 := 286) (pc' := 293) rfl (hb hby at_286) rfl ((if0 _ _).trans (feq (own_ne (x := za) (y := 0) (by have e0 : (0 : Int32).toInt = 0 := rfl; omega))).2) (by decide) (by decide) q) ?_
      show own_Go _ _ _ _ _ _ _ (T3.setTop (mkF m 293 #[.val (.int p0), .val (.int p1), .val (.int p2), .val (.int p3), .val (.int za), .val (.int zb), .val (.double sc), .second, .val (.double rp), .second, .val (.double rm), .second, .val (.double (FP.dneg (FP.i2d (p3 &&& (65535 : Int32))))), .second, .val (.ref b1), .val (.double s0), .second, .val (.double ex), .second, .val (.int (1 : Int32))] [(.int (0 : Int32))]))
      refine own_go (fun _ q => XS.iconst X3.here hx rfl (hb hby at_293) q) ?_
      show own_Go _ _ _ _ _ _ _ (T3.setTop (mkF m 294 #[.val (.int p0), .val (.int p1), .val (.int p2), .val (.int p3), .val (.int za), .val (.int zb), .val (.double sc), .second, .val (.double rp), .second, .val (.double rm), .second, .val (.double (FP.dneg (FP.i2d (p3 &&& (65535 : Int32))))), .second, .val (.ref b1), .val (.double s0), .second, .val (.double ex), .second, .val (.int (1 : Int32))] [(.int (0 : Int32)), (.int (0 : Int32))]))
      refine own_go (fun _ q => XS.icmpNo X3.here hx rfl (hb hby at_294) rfl (teq (by decide : (0 : Int32) = (0 : Int32))).2 q) ?_
      show own_Go _ _ _ _ _ _ _ (T3.setTop (mkF m 297 #[.val (.int p0), .val (.int p1), .val (.int p2), .val (.int p3), .val (.int za), .val (.int zb), .val (.double sc), .second, .val (.double rp), .second, .val (.double rm), .second, .val (.double (FP.dneg (FP.i2d (p3 &&& (65535 : Int32))))), .second, .val (.ref b1), .val (.double s0), .second, .val (.double ex), .second, .val (.int (1 : Int32))] []))
      refine own_go (fun _ q => XS.iconst X3.here hx rfl (hb hby at_297) q) ?_
      show own_Go _ _ _ _ _ _ _ (T3.setTop (mkF m 298 #[.val (.int p0), .val (.int p1), .val (.int p2), .val (.int p3), .val (.int za), .val (.int zb), .val (.double sc), .second, .val (.double rp), .second, .val (.double rm), .second, .val (.double (FP.dneg (FP.i2d (p3 &&& (65535 : Int32))))), .second, .val (.ref b1), .val (.double s0), .second, .val (.double ex), .second, .val (.int (1 : Int32))] [(.int (1 : Int32))]))
      refine own_go (fun _ q => XS.goto X3.here hx rfl (pc0 := 298) (pc' := 302) rfl (hb hby at_298) (by decide) (by decide) q) ?_
      show own_Go _ _ _ _ _ _ _ (T3.setTop (mkF m 302 #[.val (.int p0), .val (.int p1), .val (.int p2), .val (.int p3), .val (.int za), .val (.int zb), .val (.double sc), .second, .val (.double rp), .second, .val (.double rm), .second, .val (.double (FP.dneg (FP.i2d (p3 &&& (65535 : Int32))))), .second, .val (.ref b1), .val (.double s0), .second, .val (.double ex), .second, .val (.int (1 : Int32))] [(.int (1 : Int32))]))
      refine own_go (fun _ q => XS.istore X3.here hx rfl (hb hby at_302) rfl (l' := #[.val (.int p0), .val (.int p1), .val (.int p2), .val (.int p3), .val (.int za), .val (.int zb), .val (.double sc), .second, .val (.double rp), .second, .val (.double rm), .second, .val (.double (FP.dneg (FP.i2d (p3 &&& (65535 : Int32))))), .second, .val (.ref b1), .val (.double s0), .second, .val (.double ex), .second, .val (.int (1 : Int32))]) rfl q) ?_
      show own_Go _ _ _ _ _ _ _ (T3.setTop (mkF m 304 #[.val (.int p0), .val (.int p1), .val (.int p2), .val (.int p3), .val (.int za), .val (.int zb), .val (.double sc), .second, .val (.double rp), .second, .val (.double rm), .second, .val (.double (FP.dneg (FP.i2d (p3 &&& (65535 : Int32))))), .second, .val (.ref b1), .val (.double s0), .second, .val (.double ex), .second, .val (.int (1 : Int32))] []))
      refine own_go (fun _ q => XS.iload X3.here hx rfl (hb hby at_304) rfl q) ?_
      show own_Go _ _ _ _ _ _ _ (T3.setTop (mkF m 306 #[.val (.int p0), .val (.int p1), .val (.int p2), .val (.int p3), .val (.int za), .val (.int zb), .val (.double sc), .second, .val (.double rp), .second, .val (.double rm), .second, .val (.double (FP.dneg (FP.i2d (p3 &&& (65535 : Int32))))), .second, .val (.ref b1), .val (.double s0), .second, .val (.double ex), .second, .val (.int (1 : Int32))] [(.int (1 : Int32))]))
      exact own_retZ X3 hx hlk hret (hb hby at_306) (by decide) (by decide) (by decide) ⟨rfl, N3⟩
    · refine own_go (own_dcmp X3 hx (g := (mkF m 130 #[.val (.int p0), .val (.int p1), .val (.int p2), .val (.int p3), .val (.int za), .val (.int zb), .val (.double sc), .second, .val (.double rp), .second, .val (.double rm), .second, .val (.double (FP.dneg (FP.i2d (p3 &&& (65535 : Int32))))), .second, .val (.ref b1), .val (.double s0), .second, .val (.double ex), .second, .val (.int (1 : Int32))] [(.double s0), (.double FP.dconst0)])) rfl (o := .lt) (own_zero_gt DS hn0 h21 (by omega)).2 (hb hby at_130) rfl) ?_
      show own_Go _ _ _ _ _ _ _ (T3.setTop (mkF m 131 #[.val (.int p0), .val (.int p1), .val (.int p2), .val (.int p3), .val (.int za), .val (.int zb), .val (.double sc), .second, .val (.double rp), .second, .val (.double rm), .second, .val (.double (FP.dneg (FP.i2d (p3 &&& (65535 : Int32))))), .second, .val (.ref b1), .val (.double s0), .second, .val (.double ex), .second, .val (.int (1 : Int32))] [(.int (-1 : Int32))]))
      refine own_go (fun _ q => XS.ifNo X3.here hx rfl (hb hby at_131) rfl ((if0 _ _).trans (flt (by decide : ¬ ((0 : Int32) < (-1 : Int32)))).2.2.1) q) ?_
      show own_Go _ _ _ _ _ _ _ (T3.setTop (mkF m 134 #[.val (.int p0), .val (.int p1), .val (.int p2), .val (.int p3), .val (.int za), .val (.int zb), .val (.double sc), .second, .val (.double rp), .second, .val (.double rm), .second, .val (.double (FP.dneg (FP.i2d (p3 &&& (65535 : Int32))))), .second, .val (.ref b1), .val (.double s0), .second, .val (.double ex), .second, .val (.int (1 : Int32))] []))
      refine own_go (fun _ q => XT.dload X3.here hx rfl (hb hby at_134) rfl q) ?_
      show own_Go _ _ _ _ _ _ _ (T3.setTop (mkF m 136 #[.val (.int p0), .val (.int p1), .val (.int p2), .val (.int p3), .val (.int za), .val (.int zb), .val (.double sc), .second, .val (.double rp), .second, .val (.double rm), .second, .val (.double (FP.dneg (FP.i2d (p3 &&& (65535 : Int32))))), .second, .val (.ref b1), .val (.double s0), .second, .val (.double ex), .second, .val (.int (1 : Int32))] [(.double s0)]))
      refine own_go (own_dconst1 X3 hx (g := (mkF m 136 #[.val (.int p0), .val (.int p1), .val (.int p2), .val (.int p3), .val (.int za), .val (.int zb), .val (.double sc), .second, .val (.double rp), .second, .val (.double rm), .second, .val (.double (FP.dneg (FP.i2d (p3 &&& (65535 : Int32))))), .second, .val (.ref b1), .val (.double s0), .second, .val (.double ex), .second, .val (.int (1 : Int32))] [(.double s0)])) rfl (hb hby at_136)) ?_
      show own_Go _ _ _ _ _ _ _ (T3.setTop (mkF m 137 #[.val (.int p0), .val (.int p1), .val (.int p2), .val (.int p3), .val (.int za), .val (.int zb), .val (.double sc), .second, .val (.double rp), .second, .val (.double rm), .second, .val (.double (FP.dneg (FP.i2d (p3 &&& (65535 : Int32))))), .second, .val (.ref b1), .val (.double s0), .second, .val (.double ex), .second, .val (.int (1 : Int32))] [(.double FP.dconst1), (.double s0)]))
      refine own_go (own_dcmp X3 hx (g := (mkF m 137 #[.val (.int p0), .val (.int p1), .val (.int p2), .val (.int p3), .val (.int za), .val (.int zb), .val (.double sc), .second, .val (.double rp), .second, .val (.double rm), .second, .val (.double (FP.dneg (FP.i2d (p3 &&& (65535 : Int32))))), .second, .val (.ref b1), .val (.double s0), .second, .val (.double ex), .second, .val (.int (1 : Int32))] [(.double FP.dconst1), (.double s0)])) rfl (o := .lt) (own_one_lt DS h21 (by omega)) (hb hby at_137) rfl) ?_
      show own_Go _ _ _ _ _ _ _ (T3.setTop (mkF m 138 #[.val (.int p0), .val (.int p1), .val (.int p2), .val (.int p3), .val (.int za), .val (.int zb), .val (.double sc), .second, .val (.double rp), .second, .val (.double rm), .second, .val (.double (FP.dneg (FP.i2d (p3 &&& (65535 : Int32))))), .second, .val (.ref b1), .val (.double s0), .second, .val (.double ex), .second, .val (.int (1 : Int32))] [(.int (-1 : Int32))]))
      refine own_go (fun _ q => XS.ifNo X3.here hx rfl (hb hby at_138) rfl ((if0 _ _).trans (flt (by decide : ¬ ((0 : Int32) < (-1 : Int32)))).2.2.1) q) ?_
      show own_Go _ _ _ _ _ _ _ (T3.setTop (mkF m 141 #[.val (.int p0), .val (.int p1), .val (.int p2), .val (.int p3), .val (.int za), .val (.int zb), .val (.double sc), .second, .val (.double rp), .second, .val (.double rm), .second, .val (.double (FP.dneg (FP.i2d (p3 &&& (65535 : Int32))))), .second, .val (.ref b1), .val (.double s0), .second, .val (.double ex), .second, .val (.int (1 : Int32))] []))
      refine own_go (fun _ q => XS.iconst X3.here hx rfl (hb hby at_141) q) ?_
      show own_Go _ _ _ _ _ _ _ (T3.setTop (mkF m 142 #[.val (.int p0), .val (.int p1), .val (.int p2), .val (.int p3), .val (.int za), .val (.int zb), .val (.double sc), .second, .val (.double rp), .second, .val (.double rm), .second, .val (.double (FP.dneg (FP.i2d (p3 &&& (65535 : Int32))))), .second, .val (.ref b1), .val (.double s0), .second, .val (.double ex), .second, .val (.int (1 : Int32))] [(.int (1 : Int32))]))
      refine own_go (fun _ q => XS.goto X3.here hx rfl (pc0 := 142) (pc' := 146) rfl (hb hby at_142) (by decide) (by decide) q) ?_
      show own_Go _ _ _ _ _ _ _ (T3.setTop (mkF m 146 #[.val (.int p0), .val (.int p1), .val (.int p2), .val (.int p3), .val (.int za), .val (.int zb), .val (.double sc), .second, .val (.double rp), .second, .val (.double rm), .second, .val (.double (FP.dneg (FP.i2d (p3 &&& (65535 : Int32))))), .second, .val (.ref b1), .val (.double s0), .second, .val (.double ex), .second, .val (.int (1 : Int32))] [(.int (1 : Int32))]))
      refine own_go (fun _ q => XS.istore X3.here hx rfl (hb hby at_146) rfl (l' := #[.val (.int p0), .val (.int p1), .val (.int p2), .val (.int p3), .val (.int za), .val (.int zb), .val (.double sc), .second, .val (.double rp), .second, .val (.double rm), .second, .val (.double (FP.dneg (FP.i2d (p3 &&& (65535 : Int32))))), .second, .val (.ref b1), .val (.double s0), .second, .val (.double ex), .second, .val (.int (1 : Int32))]) rfl q) ?_
      show own_Go _ _ _ _ _ _ _ (T3.setTop (mkF m 148 #[.val (.int p0), .val (.int p1), .val (.int p2), .val (.int p3), .val (.int za), .val (.int zb), .val (.double sc), .second, .val (.double rp), .second, .val (.double rm), .second, .val (.double (FP.dneg (FP.i2d (p3 &&& (65535 : Int32))))), .second, .val (.ref b1), .val (.double s0), .second, .val (.double ex), .second, .val (.int (1 : Int32))] []))
      refine own_go (fun _ q => XS.iload X3.here hx rfl (hb hby at_148) rfl q) ?_
      show own_Go _ _ _ _ _ _ _ (T3.setTop (mkF m 150 #[.val (.int p0), .val (.int p1), .val (.int p2), .val (.int p3), .val (.int za), .val (.int zb), .val (.double sc), .second, .val (.double rp), .second, .val (.double rm), .second, .val (.double (FP.dneg (FP.i2d (p3 &&& (65535 : Int32))))), .second, .val (.ref b1), .val (.double s0), .second, .val (.double ex), .second, .val (.int (1 : Int32))] [(.int (1 : Int32))]))
      refine own_go (fun _ q => XS.ifNo X3.here hx rfl (hb hby at_150) rfl ((if0 _ _).trans (feq (by decide : ¬ ((1 : Int32) = (0 : Int32)))).1) q) ?_
      show own_Go _ _ _ _ _ _ _ (T3.setTop (mkF m 153 #[.val (.int p0), .val (.int p1), .val (.int p2), .val (.int p3), .val (.int za), .val (.int zb), .val (.double sc), .second, .val (.double rp), .second, .val (.double rm), .second, .val (.double (FP.dneg (FP.i2d (p3 &&& (65535 : Int32))))), .second, .val (.ref b1), .val (.double s0), .second, .val (.double ex), .second, .val (.int (1 : Int32))] []))
      refine own_go (fun _ q => XT.dload X3.here hx rfl (hb hby at_153) rfl q) ?_
      show own_Go _ _ _ _ _ _ _ (T3.setTop (mkF m 155 #[.val (.int p0), .val (.int p1), .val (.int p2), .val (.int p3), .val (.int za), .val (.int zb), .val (.double sc), .second, .val (.double rp), .second, .val (.double rm), .second, .val (.double (FP.dneg (FP.i2d (p3 &&& (65535 : Int32))))), .second, .val (.ref b1), .val (.double s0), .second, .val (.double ex), .second, .val (.int (1 : Int32))] [(.double s0)]))
      refine own_go (X3.ldc2DoubleC hx hown (mvT hZ (hw _ (List.mem_of_getElem? (i := 1) rfl))) (g := (mkF m 155 #[.val (.int p0), .val (.int p1), .val (.int p2), .val (.int p3), .val (.int za), .val (.int zb), .val (.double sc), .second, .val (.double rp), .second, .val (.double rm), .second, .val (.double (FP.dneg (FP.i2d (p3 &&& (65535 : Int32))))), .second, .val (.ref b1), .val (.double s0), .second, .val (.double ex), .second, .val (.int (1 : Int32))] [(.double s0)])) rfl (hb hby at_155)) ?_
      show own_Go _ _ _ _ _ _ _ (T3.setTop (mkF m 158 #[.val (.int p0), .val (.int p1), .val (.int p2), .val (.int p3), .val (.int za), .val (.int zb), .val (.double sc), .second, .val (.double rp), .second, .val (.double rm), .second, .val (.double (FP.dneg (FP.i2d (p3 &&& (65535 : Int32))))), .second, .val (.ref b1), .val (.double s0), .second, .val (.double ex), .second, .val (.int (1 : Int32))] [(.double (4602678819172646912 : UInt64)), (.double s0)]))
      refine own_go (own_dcmp X3 hx (g := (mkF m 158 #[.val (.int p0), .val (.int p1), .val (.int p2), .val (.int p3), .val (.int za), .val (.int zb), .val (.double sc), .second, .val (.double rp), .second, .val (.double rm), .second, .val (.double (FP.dneg (FP.i2d (p3 &&& (65535 : Int32))))), .second, .val (.ref b1), .val (.double s0), .second, .val (.double ex), .second, .val (.int (1 : Int32))] [(.double (4602678819172646912 : UInt64)), (.double s0)])) rfl (o := .lt) (own_half_lt DS rfl h21 (by omega)) (hb hby at_158) rfl) ?_
      show own_Go _ _ _ _ _ _ _ (T3.setTop (mkF m 159 #[.val (.int p0), .val (.int p1), .val (.int p2), .val (.int p3), .val (.int za), .val (.int zb), .val (.double sc), .second, .val (.double rp), .second, .val (.double rm), .second, .val (.double (FP.dneg (FP.i2d (p3 &&& (65535 : Int32))))), .second, .val (.ref b1), .val (.double s0), .second, .val (.double ex), .second, .val (.int (1 : Int32))] [(.int (-1 : Int32))]))
      refine own_go (fun _ q => XS.ifNo X3.here hx rfl (hb hby at_159) rfl ((if0 _ _).trans (tlt (by decide : (-1 : Int32) < (0 : Int32))).2.1) q) ?_
      show own_Go _ _ _ _ _ _ _ (T3.setTop (mkF m 162 #[.val (.int p0), .val (.int p1), .val (.int p2), .val (.int p3), .val (.int za), .val (.int zb), .val (.double sc), .second, .val (.double rp), .second, .val (.double rm), .second, .val (.double (FP.dneg (FP.i2d (p3 &&& (65535 : Int32))))), .second, .val (.ref b1), .val (.double s0), .second, .val (.double ex), .second, .val (.int (1 : Int32))] []))
      refine own_go (fun _ q => XS.iconst X3.here hx rfl (hb hby at_162) q) ?_
      show own_Go _ _ _ _ _ _ _ (T3.setTop (mkF m 163 #[.val (.int p0), .val (.int p1), .val (.int p2), .val (.int p3), .val (.int za), .val (.int zb), .val (.double sc), .second, .val (.double rp), .second, .val (.double rm), .second, .val (.double (FP.dneg (FP.i2d (p3 &&& (65535 : Int32))))), .second, .val (.ref b1), .val (.double s0), .second, .val (.double ex), .second, .val (.int (1 : Int32))] [(.int (1 : Int32))]))
      refine own_go (fun _ q => XS.goto X3.here hx rfl (pc0 := 163) (pc' := 167) rfl (hb hby at_163) (by decide) (by decide) q) ?_
      show own_Go _ _ _ _ _ _ _ (T3.setTop (mkF m 167 #[.val (.int p0), .val (.int p1), .val (.int p2), .val (.int p3), .val (.int za), .val (.int zb), .val (.double sc), .second, .val (.double rp), .second, .val (.double rm), .second, .val (.double (FP.dneg (FP.i2d (p3 &&& (65535 : Int32))))), .second, .val (.ref b1), .val (.double s0), .second, .val (.double ex), .second, .val (.int (1 : Int32))] [(.int (1 : Int32))]))
      refine own_go (fun _ q => XS.iload X3.here hx rfl (hb hby at_167) rfl q) ?_
      show own_Go _ _ _ _ _ _ _ (T3.setTop (mkF m 169 #[.val (.int p0), .val (.int p1), .val (.int p2), .val (.int p3), .val (.int za), .val (.int zb), .val (.double sc), .second, .val (.double rp), .second, .val (.double rm), .second, .val (.double (FP.dneg (FP.i2d (p3 &&& (65535 : Int32))))), .second, .val (.ref b1), .val (.double s0), .second, .val (.double ex), .second, .val (.int (1 : Int32))] [(.int zb), (.int (1 : Int32))]))
      refine own_go (fun _ q => XS.iload X3.here hx rfl (hb hby at_169) rfl q) ?_
      show own_Go _ _ _ _ _ _ _ (T3.setTop (mkF m 171 #[.val (.int p0), .val (.int p1), .val (.int p2), .val (.int p3), .val (.int za), .val (.int zb), .val (.double sc), .second, .val (.double rp), .second, .val (.double rm), .second, .val (.double (FP.dneg (FP.i2d (p3 &&& (65535 : Int32))))), .second, .val (.ref b1), .val (.double s0), .second, .val (.double ex), .second, .val (.int (1 : Int32))] [(.int za), (.int zb), (.int (1 : Int32))]))
      refine own_go (fun _ q => XS.icmpNo X3.here hx rfl (hb hby at_171) rfl (tlt (own_lt (x := zb) (y := za) (by omega))).2.1 q) ?_
      show own_Go _ _ _ _ _ _ _ (T3.setTop (mkF m 174 #[.val (.int p0), .val (.int p1), .val (.int p2), .val (.int p3), .val (.int za), .val (.int zb), .val (.double sc), .second, .val (.double rp), .second, .val (.double rm), .second, .val (.double (FP.dneg (FP.i2d (p3 &&& (65535 : Int32))))), .second, .val (.ref b1), .val (.double s0), .second, .val (.double ex), .second, .val (.int (1 : Int32))] [(.int (1 : Int32))]))
      refine own_go (fun _ q => XS.iconst X3.here hx rfl (hb hby at_174) q) ?_
      show own_Go _ _ _ _ _ _ _ (T3.setTop (mkF m 175 #[.val (.int p0), .val (.int p1), .val (.int p2), .val (.int p3), .val (.int za), .val (.int zb), .val (.double sc), .second, .val (.double rp), .second, .val (.double rm), .second, .val (.double (FP.dneg (FP.i2d (p3 &&& (65535 : Int32))))), .second, .val (.ref b1), .val (.double s0), .second, .val (.double ex), .second, .val (.int (1 : Int32))] [(.int (1 : Int32)), (.int (1 : Int32))]))
      refine own_go (fun _ q => XS.goto X3.here hx rfl (pc0 := 175) (pc' := 179) rfl (hb hby at_175) (by decide) (by decide) q) ?_
      show own_Go _ _ _ _ _ _ _ (T3.setTop (mkF m 179 #[.val (.int p0), .val (.int p1), .val (.int p2), .val (.int p3), .val (.int za), .val (.int zb), .val (.double sc), .second, .val (.double rp), .second, .val (.double rm), .second, .val (.double (FP.dneg (FP.i2d (p3 &&& (65535 : Int32))))), .second, .val (.ref b1), .val (.double s0), .second, .val (.double ex), .second, .val (.int (1 : Int32))] [(.int (1 : Int32)), (.int (1 : Int32))]))
      refine own_go (fun _ q => XS.icmpNo X3.here hx rfl (hb hby at_179) rfl (teq (by decide : (1 : Int32) = (1 : Int32))).2 q) ?_
      show own_Go _ _ _ _ _ _ _ (T3.setTop (mkF m 182 #[.val (.int p0), .val (.int p1), .val (.int p2), .val (.int p3), .val (.int za), .val (.int zb), .val (.double sc), .second, .val (.double rp), .second, .val (.double rm), .second, .val (.double (FP.dneg (FP.i2d (p3 &&& (65535 : Int32))))), .second, .val (.ref b1), .val (.double s0), .second, .val (.double ex), .second, .val (.int (1 : Int32))] []))
      refine own_go (fun _ q => XS.iconst X3.here hx rfl (hb hby at_182) q) ?_
      show own_Go _ _ _ _ _ _ _ (T3.setTop (mkF m 183 #[.val (.int p0), .val (.int p1), .val (.int p2), .val (.int p3), .val (.int za), .val (.int zb), .val (.double sc), .second, .val (.double rp), .second, .val (.double rm), .second, .val (.double (FP.dneg (FP.i2d (p3 &&& (65535 : Int32))))), .second, .val (.ref b1), .val (.double s0), .second, .val (.double ex), .second, .val (.int (1 : Int32))] [(.int (1 : Int32))]))
      refine own_go (fun _ q => XS.goto X3.here hx rfl (pc0 := 183) (pc' := 187) rfl (hb hby at_183) (by decide) (by decide) q) ?_
      show own_Go _ _ _ _ _ _ _ (T3.setTop (mkF m 187 #[.val (.int p0), .val (.int p1), .val (.int p2), .val (.int p3), .val (.int za), .val (.int zb), .val (.double sc), .second, .val (.double rp), .second, .val (.double rm), .second, .val (.double (FP.dneg (FP.i2d (p3 &&& (65535 : Int32))))), .second, .val (.ref b1), .val (.double s0), .second, .val (.double ex), .second, .val (.int (1 : Int32))] [(.int (1 : Int32))]))
      refine own_go (fun _ q => XS.istore X3.here hx rfl (hb hby at_187) rfl (l' := #[.val (.int p0), .val (.int p1), .val (.int p2), .val (.int p3), .val (.int za), .val (.int zb), .val (.double sc), .second, .val (.double rp), .second, .val (.double rm), .second, .val (.double (FP.dneg (FP.i2d (p3 &&& (65535 : Int32))))), .second, .val (.ref b1), .val (.double s0), .second, .val (.double ex), .second, .val (.int (1 : Int32))]) rfl q) ?_
      show own_Go _ _ _ _ _ _ _ (T3.setTop (mkF m 189 #[.val (.int p0), .val (.int p1), .val (.int p2), .val (.int p3), .val (.int za), .val (.int zb), .val (.double sc), .second, .val (.double rp), .second, .val (.double rm), .second, .val (.double (FP.dneg (FP.i2d (p3 &&& (65535 : Int32))))), .second, .val (.ref b1), .val (.double s0), .second, .val (.double ex), .second, .val (.int (1 : Int32))] []))
      refine own_go (fun _ q => XS.iload X3.here hx rfl (hb hby at_189) rfl q) ?_
      show own_Go _ _ _ _ _ _ _ (T3.setTop (mkF m 191 #[.val (.int p0), .val (.int p1), .val (.int p2), .val (.int p3), .val (.int za), .val (.int zb), .val (.double sc), .second, .val (.double rp), .second, .val (.double rm), .second, .val (.double (FP.dneg (FP.i2d (p3 &&& (65535 : Int32))))), .second, .val (.ref b1), .val (.double s0), .second, .val (.double ex), .second, .val (.int (1 : Int32))] [(.int (1 : Int32))]))
      refine own_go (fun _ q => XS.ifNo X3.here hx rfl (hb hby at_191) rfl ((if0 _ _).trans (feq (by decide : ¬ ((1 : Int32) = (0 : Int32)))).1) q) ?_
      show own_Go _ _ _ _ _ _ _ (T3.setTop (mkF m 194 #[.val (.int p0), .val (.int p1), .val (.int p2), .val (.int p3), .val (.int za), .val (.int zb), .val (.double sc), .second, .val (.double rp), .second, .val (.double rm), .second, .val (.double (FP.dneg (FP.i2d (p3 &&& (65535 : Int32))))), .second, .val (.ref b1), .val (.double s0), .second, .val (.double ex), .second, .val (.int (1 : Int32))] []))
      refine own_go (fun _ q => XT.dload X3.here hx rfl (hb hby at_194) rfl q) ?_
      show own_Go _ _ _ _ _ _ _ (T3.setTop (mkF m 196 #[.val (.int p0), .val (.int p1), .val (.int p2), .val (.int p3), .val (.int za), .val (.int zb), .val (.double sc), .second, .val (.double rp), .second, .val (.double rm), .second, .val (.double (FP.dneg (FP.i2d (p3 &&& (65535 : Int32))))), .second, .val (.ref b1), .val (.double s0), .second, .val (.double ex), .second, .val (.int (1 : Int32))] [(.double s0)]))
      refine own_go (X3.ldc2DoubleC hx hown (mvT hZ (hw _ (List.mem_of_getElem? (i := 1) rfl))) (g := (mkF m 196 #[.val (.int p0), .val (.int p1), .val (.int p2), .val (.int p3), .val (.int za), .val (.int zb), .val (.double sc), .second, .val (.double rp), .second, .val (.double rm), .second, .val (.double (FP.dneg (FP.i2d (p3 &&& (65535 : Int32))))), .second, .val (.ref b1), .val (.double s0), .second, .val (.double ex), .second, .val (.int (1 : Int32))] [(.double s0)])) rfl (hb hby at_196)) ?_
      show own_Go _ _ _ _ _ _ _ (T3.setTop (mkF m 199 #[.val (.int p0), .val (.int p1), .val (.int p2), .val (.int p3), .val (.int za), .val (.int zb), .val (.double sc), .second, .val (.double rp), .second, .val (.double rm), .second, .val (.double (FP.dneg (FP.i2d (p3 &&& (65535 : Int32))))), .second, .val (.ref b1), .val (.double s0), .second, .val (.double ex), .second, .val (.int (1 : Int32))] [(.double (4602678819172646912 : UInt64)), (.double s0)]))
      refine own_go (own_dcmp X3 hx (g := (mkF m 199 #[.val (.int p0), .val (.int p1), .val (.int p2), .val (.int p3), .val (.int za), .val (.int zb), .val (.double sc), .second, .val (.double rp), .second, .val (.double rm), .second, .val (.double (FP.dneg (FP.i2d (p3 &&& (65535 : Int32))))), .second, .val (.ref b1), .val (.double s0), .second, .val (.double ex), .second, .val (.int (1 : Int32))] [(.double (4602678819172646912 : UInt64)), (.double s0)])) rfl (o := .lt) (own_half_lt DS rfl h21 (by omega)) (hb hby at_199) rfl) ?_
      show own_Go _ _ _ _ _ _ _ (T3.setTop (mkF m 200 #[.val (.int p0), .val (.int p1), .val (.int p2), .val (.int p3), .val (.int za), .val (.int zb), .val (.double sc), .second, .val (.double rp), .second, .val (.double rm), .second, .val (.double (FP.dneg (FP.i2d (p3 &&& (65535 : Int32))))), .second, .val (.ref b1), .val (.double s0), .second, .val (.double ex), .second, .val (.int (1 : Int32))] [(.int (-1 : Int32))]))
      refine own_go (fun _ q => XS.ifYes X3.here hx rfl (pc0 := 200) (pc' := 207) rfl (hb hby at_200) rfl ((if0 _ _).trans (feq (by decide : ¬ ((-1 : Int32) = (0 : Int32)))).2) (by decide) (by decide) q) ?_
      show own_Go _ _ _ _ _ _ _ (T3.setTop (mkF m 207 #[.val (.int p0), .val (.int p1), .val (.int p2), .val (.int p3), .val (.int za), .val (.int zb), .val (.double sc), .second, .val (.double rp), .second, .val (.double rm), .second, .val (.double (FP.dneg (FP.i2d (p3 &&& (65535 : Int32))))), .second, .val (.ref b1), .val (.double s0), .second, .val (.double ex), .second, .val (.int (1 : Int32))] []))
      refine own_go (fun _ q => XS.iconst X3.here hx rfl (hb hby at_207) q) ?_
      show own_Go _ _ _ _ _ _ _ (T3.setTop (mkF m 208 #[.val (.int p0), .val (.int p1), .val (.int p2), .val (.int p3), .val (.int za), .val (.int zb), .val (.double sc), .second, .val (.double rp), .second, .val (.double rm), .second, .val (.double (FP.dneg (FP.i2d (p3 &&& (65535 : Int32))))), .second, .val (.ref b1), .val (.double s0), .second, .val (.double ex), .second, .val (.int (1 : Int32))] [(.int (0 : Int32))]))
      refine own_go (fun _ q => XS.iload X3.here hx rfl (hb hby at_208) rfl q) ?_
      show own_Go _ _ _ _ _ _ _ (T3.setTop (mkF m 210 #[.val (.int p0), .val (.int p1), .val (.int p2), .val (.int p3), .val (.int za), .val (.int zb), .val (.double sc), .second, .val (.double rp), .second, .val (.double rm), .second, .val (.double (FP.dneg (FP.i2d (p3 &&& (65535 : Int32))))), .second, .val (.ref b1), .val (.double s0), .second, .val (.double ex), .second, .val (.int (1 : Int32))] [(.int za), (.int (0 : Int32))]))
      refine own_go (fun _ q => XS.iload X3.here hx rfl (hb hby at_210) rfl q) ?_
      show own_Go _ _ _ _ _ _ _ (T3.setTop (mkF m 212 #[.val (.int p0), .val (.int p1), .val (.int p2), .val (.int p3), .val (.int za), .val (.int zb), .val (.double sc), .second, .val (.double rp), .second, .val (.double rm), .second, .val (.double (FP.dneg (FP.i2d (p3 &&& (65535 : Int32))))), .second, .val (.ref b1), .val (.double s0), .second, .val (.double ex), .second, .val (.int (1 : Int32))] [(.int zb), (.int za), (.int (0 : Int32))]))
      refine own_go (fun _ q => XS.icmpYes X3.here hx rfl (pc0 := 212) (pc' := 219) rfl (hb hby at_212) rfl (feq (own_ne (x := za) (y := zb) (by have e0 : (0 : Int32).toInt = 0 := rfl; omega))).2 (by decide) (by decide) q) ?_
      show own_Go _ _ _ _ _ _ _ (T3.setTop (mkF m 219 #[.val (.int p0), .val (.int p1), .val (.int p2), .val (.int p3), .val (.int za), .val (.int zb), .val (.double sc), .second, .val (.double rp), .second, .val (.double rm), .second, .val (.double (FP.dneg (FP.i2d (p3 &&& (65535 : Int32))))), .second, .val (.ref b1), .val (.double s0), .second, .val (.double ex), .second, .val (.int (1 : Int32))] [(.int (0 : Int32))]))
      refine own_go (fun _ q => XS.iconst X3.here hx rfl (hb hby at_219) q) ?_
      show own_Go _ _ _ _ _ _ _ (T3.setTop (mkF m 220 #[.val (.int p0), .val (.int p1), .val (.int p2), .val (.int p3), .val (.int za), .val (.int zb), .val (.double sc), .second, .val (.double rp), .second, .val (.double rm), .second, .val (.double (FP.dneg (FP.i2d (p3 &&& (65535 : Int32))))), .second, .val (.ref b1), .val (.double s0), .second, .val (.double ex), .second, .val (.int (1 : Int32))] [(.int (0 : Int32)), (.int (0 : Int32))]))
      refine own_go (fun _ q => XS.icmpNo X3.here hx rfl (hb hby at_220) rfl (teq (by decide : (0 : Int32) = (0 : Int32))).2 q) ?_
      show own_Go _ _ _ _ _ _ _ (T3.setTop (mkF m 223 #[.val (.int p0), .val (.int p1), .val (.int p2), .val (.int p3), .val (.int za), .val (.int zb), .val (.double sc), .second, .val (.double rp), .second, .val (.double rm), .second, .val (.double (FP.dneg (FP.i2d (p3 &&& (65535 : Int32))))), .second, .val (.ref b1), .val (.double s0), .second, .val (.double ex), .second, .val (.int (1 : Int32))] []))
      refine own_go (fun _ q => XS.iconst X3.here hx rfl (hb hby at_223) q) ?_
      show own_Go _ _ _ _ _ _ _ (T3.setTop (mkF m 224 #[.val (.int p0), .val (.int p1), .val (.int p2), .val (.int p3), .val (.int za), .val (.int zb), .val (.double sc), .second, .val (.double rp), .second, .val (.double rm), .second, .val (.double (FP.dneg (FP.i2d (p3 &&& (65535 : Int32))))), .second, .val (.ref b1), .val (.double s0), .second, .val (.double ex), .second, .val (.int (1 : Int32))] [(.int (1 : Int32))]))
      refine own_go (fun _ q => XS.goto X3.here hx rfl (pc0 := 224) (pc' := 228) rfl (hb hby at_224) (by decide) (by decide) q) ?_
      show own_Go _ _ _ _ _ _ _ (T3.setTop (mkF m 228 #[.val (.int p0), .val (.int p1), .val (.int p2), .val (.int p3), .val (.int za), .val (.int zb), .val (.double sc), .second, .val (.double rp), .second, .val (.double rm), .second, .val (.double (FP.dneg (FP.i2d (p3 &&& (65535 : Int32))))), .second, .val (.ref b1), .val (.double s0), .second, .val (.double ex), .second, .val (.int (1 : Int32))] [(.int (1 : Int32))]))
      refine own_go (fun _ q => XS.istore X3.here hx rfl (hb hby at_228) rfl (l' := #[.val (.int p0), .val (.int p1), .val (.int p2), .val (.int p3), .val (.int za), .val (.int zb), .val (.double sc), .second, .val (.double rp), .second, .val (.double rm), .second, .val (.double (FP.dneg (FP.i2d (p3 &&& (65535 : Int32))))), .second, .val (.ref b1), .val (.double s0), .second, .val (.double ex), .second, .val (.int (1 : Int32))]) rfl q) ?_
      show own_Go _ _ _ _ _ _ _ (T3.setTop (mkF m 230 #[.val (.int p0), .val (.int p1), .val (.int p2), .val (.int p3), .val (.int za), .val (.int zb), .val (.double sc), .second, .val (.double rp), .second, .val (.double rm), .second, .val (.double (FP.dneg (FP.i2d (p3 &&& (65535 : Int32))))), .second, .val (.ref b1), .val (.double s0), .second, .val (.double ex), .second, .val (.int (1 : Int32))] []))
      refine own_go (fun _ q => XS.iload X3.here hx rfl (hb hby at_230) rfl q) ?_
      show own_Go _ _ _ _ _ _ _ (T3.setTop (mkF m 232 #[.val (.int p0), .val (.int p1), .val (.int p2), .val (.int p3), .val (.int za), .val (.int zb), .val (.double sc), .second, .val (.double rp), .second, .val (.double rm), .second, .val (.double (FP.dneg (FP.i2d (p3 &&& (65535 : Int32))))), .second, .val (.ref b1), .val (.double s0), .second, .val (.double ex), .second, .val (.int (1 : Int32))] [(.int (1 : Int32))]))
      refine own_go (fun _ q => XS.ifNo X3.here hx rfl (hb hby at_232) rfl ((if0 _ _).trans (feq (by decide : ¬ ((1 : Int32) = (0 : Int32)))).1) q) ?_
      show own_Go _ _ _ _ _ _ _ (T3.setTop (mkF m 235 #[.val (.int p0), .val (.int p1), .val (.int p2), .val (.int p3), .val (.int za), .val (.int zb), .val (.double sc), .second, .val (.double rp), .second, .val (.double rm), .second, .val (.double (FP.dneg (FP.i2d (p3 &&& (65535 : Int32))))), .second, .val (.ref b1), .val (.double s0), .second, .val (.double ex), .second, .val (.int (1 : Int32))] []))
      refine own_go (fun _ q => XT.dload X3.here hx rfl (hb hby at_235) rfl q) ?_
      show own_Go _ _ _ _ _ _ _ (T3.setTop (mkF m 237 #[.val (.int p0), .val (.int p1), .val (.int p2), .val (.int p3), .val (.int za), .val (.int zb), .val (.double sc), .second, .val (.double rp), .second, .val (.double rm), .second, .val (.double (FP.dneg (FP.i2d (p3 &&& (65535 : Int32))))), .second, .val (.ref b1), .val (.double s0), .second, .val (.double ex), .second, .val (.int (1 : Int32))] [(.double s0)]))
      refine own_go (own_dconst0 X3 hx (g := (mkF m 237 #[.val (.int p0), .val (.int p1), .val (.int p2), .val (.int p3), .val (.int za), .val (.int zb), .val (.double sc), .second, .val (.double rp), .second, .val (.double rm), .second, .val (.double (FP.dneg (FP.i2d (p3 &&& (65535 : Int32))))), .second, .val (.ref b1), .val (.double s0), .second, .val (.double ex), .second, .val (.int (1 : Int32))] [(.double s0)])) rfl (hb hby at_237)) ?_
      show own_Go _ _ _ _ _ _ _ (T3.setTop (mkF m 238 #[.val (.int p0), .val (.int p1), .val (.int p2), .val (.int p3), .val (.int za), .val (.int zb), .val (.double sc), .second, .val (.double rp), .second, .val (.double rm), .second, .val (.double (FP.dneg (FP.i2d (p3 &&& (65535 : Int32))))), .second, .val (.ref b1), .val (.double s0), .second, .val (.double ex), .second, .val (.int (1 : Int32))] [(.double FP.dconst0), (.double s0)]))
      refine own_go (own_dcmp X3 hx (g := (mkF m 238 #[.val (.int p0), .val (.int p1), .val (.int p2), .val (.int p3), .val (.int za), .val (.int zb), .val (.double sc), .second, .val (.double rp), .second, .val (.double rm), .second, .val (.double (FP.dneg (FP.i2d (p3 &&& (65535 : Int32))))), .second, .val (.ref b1), .val (.double s0), .second, .val (.double ex), .second, .val (.int (1 : Int32))] [(.double FP.dconst0), (.double s0)])) rfl (o := .gt) (own_zero_gt DS hn0 h21 (by omega)).1 (hb hby at_238) rfl) ?_
      show own_Go _ _ _ _ _ _ _ (T3.setTop (mkF m 239 #[.val (.int p0), .val (.int p1), .val (.int p2), .val (.int p3), .val (.int za), .val (.int zb), .val (.double sc), .second, .val (.double rp), .second, .val (.double rm), .second, .val (.double (FP.dneg (FP.i2d (p3 &&& (65535 : Int32))))), .second, .val (.ref b1), .val (.double s0), .second, .val (.double ex), .second, .val (.int (1 : Int32))] [(.int (1 : Int32))]))
      refine own_go (fun _ q => XS.ifYes X3.here hx rfl (pc0 := 239) (pc' := 246) rfl (hb hby at_239) rfl ((if0 _ _).trans (feq (by decide : ¬ ((1 : Int32) = (0 : Int32)))).2) (by decide) (by decide) q) ?_
      show own_Go _ _ _ _ _ _ _ (T3.setTop (mkF m 246 #[.val (.int p0), .val (.int p1), .val (.int p2), .val (.int p3), .val (.int za), .val (.int zb), .val (.double sc), .second, .val (.double rp), .second, .val (.double rm), .second, .val (.double (FP.dneg (FP.i2d (p3 &&& (65535 : Int32))))), .second, .val (.ref b1), .val (.double s0), .second, .val (.double ex), .second, .val (.int (1 : Int32))] []))
      refine own_go (fun _ q => XS.iconst X3.here hx rfl (hb hby at_246) q) ?_
      show own_Go _ _ _ _ _ _ _ (T3.setTop (mkF m 247 #[.val (.int p0), .val (.int p1), .val (.int p2), .val (.int p3), .val (.int za), .val (.int zb), .val (.double sc), .second, .val (.double rp), .second, .val (.double rm), .second, .val (.double (FP.dneg (FP.i2d (p3 &&& (65535 : Int32))))), .second, .val (.ref b1), .val (.double s0), .second, .val (.double ex), .second, .val (.int (1 : Int32))] [(.int (0 : Int32))]))
      refine own_go (fun _ q => XS.iload X3.here hx rfl (hb hby at_247) rfl q) ?_
      show own_Go _ _ _ _ _ _ _ (T3.setTop (mkF m 249 #[.val (.int p0), .val (.int p1), .val (.int p2), .val (.int p3), .val (.int za), .val (.int zb), .val (.double sc), .second, .val (.double rp), .second, .val (.double rm), .second, .val (.double (FP.dneg (FP.i2d (p3 &&& (65535 : Int32))))), .second, .val (.ref b1), .val (.double s0), .second, .val (.double ex), .second, .val (.int (1 : Int32))] [(.int zb), (.int (0 : Int32))]))
      refine own_go (fun _ q => XS.ifYes X3.here hx rfl (pc0 := 249) (pc' := 256) rfl (hb hby at_249) rfl ((if0 _ _).trans (feq (own_ne (x := zb) (y := 0) (by have e0 : (0 : Int32).toInt = 0 := rfl; omega))).2) (by decide) (by decide) q) ?_
      show own_Go _ _ _ _ _ _ _ (T3.setTop (mkF m 256 #[.val (.int p0), .val (.int p1), .val (.int p2), .val (.int p3), .val (.int za), .val (.int zb), .val (.double sc), .second, .val (.double rp), .second, .val (.double rm), .second, .val (.double (FP.dneg (FP.i2d (p3 &&& (65535 : Int32))))), .second, .val (.ref b1), .val (.double s0), .second, .val (.double ex), .second, .val (.int (1 : Int32))] [(.int (0 : Int32))]))
      refine own_go (fun _ q => XS.iconst X3.here hx rfl (hb hby at_256) q) ?_
      show own_Go _ _ _ _ _ _ _ (T3.setTop (mkF m 257 #[.val (.int p0), .val (.int p1), .val (.int p2), .val (.int p3), .val (.int za), .val (.int zb), .val (.double sc), .second, .val (.double rp), .second, .val (.double rm), .second, .val (.double (FP.dneg (FP.i2d (p3 &&& (65535 : Int32))))), .second, .val (.ref b1), .val (.double s0), .second, .val (.double ex), .second, .val (.int (1 : Int32))] [(.int (0 : Int32)), (.int (0 : Int32))]))
      refine own_go (fun _ q => XS.icmpNo X3.here hx rfl (hb hby at_257) rfl (teq (by decide : (0 : Int32) = (0 : Int32))).2 q) ?_
      show own_Go _ _ _ _ _ _ _ (T3.setTop (mkF m 260 #[.val (.int p0), .val (.int p1), .val (.int p2), .val (.int p3), .val (.int za), .val (.int zb), .val (.double sc), .second, .val (.double rp), .second, .val (.double rm), .second, .val (.double (FP.dneg (FP.i2d (p3 &&& (65535 : Int32))))), .second, .val (.ref b1), .val (.double s0), .second, .val (.double ex), .second, .val (.int (1 : Int32))] []))
      refine own_go (fun _ q => XS.iconst X3.here hx rfl (hb hby at_260) q) ?_
      show own_Go _ _ _ _ _ _ _ (T3.setTop (mkF m 261 #[.val (.int p0), .val (.int p1), .val (.int p2), .val (.int p3), .val (.int za), .val (.int zb), .val (.double sc), .second, .val (.double rp), .second, .val (.double rm), .second, .val (.double (FP.dneg (FP.i2d (p3 &&& (65535 : Int32))))), .second, .val (.ref b1), .val (.double s0), .second, .val (.double ex), .second, .val (.int (1 : Int32))] [(.int (1 : Int32))]))
      refine own_go (fun _ q => XS.goto X3.here hx rfl (pc0 := 261) (pc' := 265) rfl (hb hby at_261) (by decide) (by decide) q) ?_
      show own_Go _ _ _ _ _ _ _ (T3.setTop (mkF m 265 #[.val (.int p0), .val (.int p1), .val (.int p2), .val (.int p3), .val (.int za), .val (.int zb), .val (.double sc), .second, .val (.double rp), .second, .val (.double rm), .second, .val (.double (FP.dneg (FP.i2d (p3 &&& (65535 : Int32))))), .second, .val (.ref b1), .val (.double s0), .second, .val (.double ex), .second, .val (.int (1 : Int32))] [(.int (1 : Int32))]))
      refine own_go (fun _ q => XS.istore X3.here hx rfl (hb hby at_265) rfl (l' := #[.val (.int p0), .val (.int p1), .val (.int p2), .val (.int p3), .val (.int za), .val (.int zb), .val (.double sc), .second, .val (.double rp), .second, .val (.double rm), .second, .val (.double (FP.dneg (FP.i2d (p3 &&& (65535 : Int32))))), .second, .val (.ref b1), .val (.double s0), .second, .val (.double ex), .second, .val (.int (1 : Int32))]) rfl q) ?_
      show own_Go _ _ _ _ _ _ _ (T3.setTop (mkF m 267 #[.val (.int p0), .val (.int p1), .val (.int p2), .val (.int p3), .val (.int za), .val (.int zb), .val (.double sc), .second, .val (.double rp), .second, .val (.double rm), .second, .val (.double (FP.dneg (FP.i2d (p3 &&& (65535 : Int32))))), .second, .val (.ref b1), .val (.double s0), .second, .val (.double ex), .second, .val (.int (1 : Int32))] []))
      refine own_go (fun _ q => XS.iload X3.here hx rfl (hb hby at_267) rfl q) ?_
      show own_Go _ _ _ _ _ _ _ (T3.setTop (mkF m 269 #[.val (.int p0), .val (.int p1), .val (.int p2), .val (.int p3), .val (.int za), .val (.int zb), .val (.double sc), .second, .val (.double rp), .second, .val (.double rm), .second, .val (.double (FP.dneg (FP.i2d (p3 &&& (65535 : Int32))))), .second, .val (.ref b1), .val (.double s0), .second, .val (.double ex), .second, .val (.int (1 : Int32))] [(.int (1 : Int32))]))
      refine own_go (fun _ q => XS.ifNo X3.here hx rfl (hb hby at_269) rfl ((if0 _ _).trans (feq (by decide : ¬ ((1 : Int32) = (0 : Int32)))).1) q) ?_
      show own_Go _ _ _ _ _ _ _ (T3.setTop (mkF m 272 #[.val (.int p0), .val (.int p1), .val (.int p2), .val (.int p3), .val (.int za), .val (.int zb), .val (.double sc), .second, .val (.double rp), .second, .val (.double rm), .second, .val (.double (FP.dneg (FP.i2d (p3 &&& (65535 : Int32))))), .second, .val (.ref b1), .val (.double s0), .second, .val (.double ex), .second, .val (.int (1 : Int32))] []))
      refine own_go (fun _ q => XT.dload X3.here hx rfl (hb hby at_272) rfl q) ?_
      show own_Go _ _ _ _ _ _ _ (T3.setTop (mkF m 274 #[.val (.int p0), .val (.int p1), .val (.int p2), .val (.int p3), .val (.int za), .val (.int zb), .val (.double sc), .second, .val (.double rp), .second, .val (.double rm), .second, .val (.double (FP.dneg (FP.i2d (p3 &&& (65535 : Int32))))), .second, .val (.ref b1), .val (.double s0), .second, .val (.double ex), .second, .val (.int (1 : Int32))] [(.double s0)]))
      refine own_go (own_dconst1 X3 hx (g := (mkF m 274 #[.val (.int p0), .val (.int p1), .val (.int p2), .val (.int p3), .val (.int za), .val (.int zb), .val (.double sc), .second, .val (.double rp), .second, .val (.double rm), .second, .val (.double (FP.dneg (FP.i2d (p3 &&& (65535 : Int32))))), .second, .val (.ref b1), .val (.double s0), .second, .val (.double ex), .second, .val (.int (1 : Int32))] [(.double s0)])) rfl (hb hby at_274)) ?_
      show own_Go _ _ _ _ _ _ _ (T3.setTop (mkF m 275 #[.val (.int p0), .val (.int p1), .val (.int p2), .val (.int p3), .val (.int za), .val (.int zb), .val (.double sc), .second, .val (.double rp), .second, .val (.double rm), .second, .val (.double (FP.dneg (FP.i2d (p3 &&& (65535 : Int32))))), .second, .val (.ref b1), .val (.double s0), .second, .val (.double ex), .second, .val (.int (1 : Int32))] [(.double FP.dconst1), (.double s0)]))
      refine own_go (own_dcmp X3 hx (g := (mkF m 275 #[.val (.int p0), .val (.int p1), .val (.int p2), .val (.int p3), .val (.int za), .val (.int zb), .val (.double sc), .second, .val (.double rp), .second, .val (.double rm), .second, .val (.double (FP.dneg (FP.i2d (p3 &&& (65535 : Int32))))), .second, .val (.ref b1), .val (.double s0), .second, .val (.double ex), .second, .val (.int (1 : Int32))] [(.double FP.dconst1), (.double s0)])) rfl (o := .lt) (own_one_lt DS h21 (by omega)) (hb hby at_275) rfl) ?_
      show own_Go _ _ _ _ _ _ _ (T3.setTop (mkF m 276 #[.val (.int p0), .val (.int p1), .val (.int p2), .val (.int p3), .val (.int za), .val (.int zb), .val (.double sc), .second, .val (.double rp), .second, .val (.double rm), .second, .val (.double (FP.dneg (FP.i2d (p3 &&& (65535 : Int32))))), .second, .val (.ref b1), .val (.double s0), .second, .val (.double ex), .second, .val (.int (1 : Int32))] [(.int (-1 : Int32))]))
      refine own_go (fun _ q => XS.ifYes X3.here hx rfl (pc0 := 276) (pc' := 283) rfl (hb hby at_276) rfl ((if0 _ _).trans (feq (by decide : ¬ ((-1 : Int32) = (0 : Int32)))).2) (by decide) (by decide) q) ?_
      show own_Go _ _ _ _ _ _ _ (T3.setTop (mkF m 283 #[.val (.int p0), .val (.int p1), .val (.int p2), .val (.int p3), .val (.int za), .val (.int zb), .val (.double sc), .second, .val (.double rp), .second, .val (.double rm), .second, .val (.double (FP.dneg (FP.i2d (p3 &&& (65535 : Int32))))), .second, .val (.ref b1), .val (.double s0), .second, .val (.double ex), .second, .val (.int (1 : Int32))] []))
      refine own_go (fun _ q => XS.iconst X3.here hx rfl (hb hby at_283) q) ?_
      show own_Go _ _ _ _ _ _ _ (T3.setTop (mkF m 284 #[.val (.int p0), .val (.int p1), .val (.int p2), .val (.int p3), .val (.int za), .val (.int zb), .val (.double sc), .second, .val (.double rp), .second, .val (.double rm), .second, .val (.double (FP.dneg (FP.i2d (p3 &&& (65535 : Int32))))), .second, .val (.ref b1), .val (.double s0), .second, .val (.double ex), .second, .val (.int (1 : Int32))] [(.int (0 : Int32))]))
      refine own_go (fun _ q => XS.iload X3.here hx rfl (hb hby at_284) rfl q) ?_
      show own_Go _ _ _ _ _ _ _ (T3.setTop (mkF m 286 #[.val (.int p0), .val (.int p1), .val (.int p2), .val (.int p3), .val (.int za), .val (.int zb), .val (.double sc), .second, .val (.double rp), .second, .val (.double rm), .second, .val (.double (FP.dneg (FP.i2d (p3 &&& (65535 : Int32))))), .second, .val (.ref b1), .val (.double s0), .second, .val (.double ex), .second, .val (.int (1 : Int32))] [(.int za), (.int (0 : Int32))]))
      refine own_go (fun _ q => XS.ifYes X3.here hx rfl (pc0 := 286) (pc' := 293) rfl (hb hby at_286) rfl ((if0 _ _).trans (feq (own_ne (x := za) (y := 0) (by have e0 : (0 : Int32).toInt = 0 := rfl; omega))).2) (by decide) (by decide) q) ?_
      show own_Go _ _ _ _ _ _ _ (T3.setTop (mkF m 293 #[.val (.int p0), .val (.int p1), .val (.int p2), .val (.int p3), .val (.int za), .val (.int zb), .val (.double sc), .second, .val (.double rp), .second, .val (.double rm), .second, .val (.double (FP.dneg (FP.i2d (p3 &&& (65535 : Int32))))), .second, .val (.ref b1), .val (.double s0), .second, .val (.double ex), .second, .val (.int (1 : Int32))] [(.int (0 : Int32))]))
      refine own_go (fun _ q => XS.iconst X3.here hx rfl (hb hby at_293) q) ?_
      show own_Go _ _ _ _ _ _ _ (T3.setTop (mkF m 294 #[.val (.int p0), .val (.int p1), .val (.int p2), .val (.int p3), .val (.int za), .val (.int zb), .val (.double sc), .second, .val (.double rp), .second, .val (.double rm), .second, .val (.double (FP.dneg (FP.i2d (p3 &&& (65535 : Int32))))), .second, .val (.ref b1), .val (.double s0), .second, .val (.double ex), .second, .val (.int (1 : Int32))] [(.int (0 : Int32)), (.int (0 : Int32))]))
      refine own_go (fun _ q => XS.icmpNo X3.here hx rfl (hb hby at_294) rfl (teq (by decide : (0 : Int32) = (0 : Int32))).2 q) ?_
      show own_Go _ _ _ _ _ _ _ (T3.setTop (mkF m 297 #[.val (.int p0), .val (.int p1), .val (.int p2), .val (.int p3), .val (.int za), .val (.int zb), .val (.double sc), .second, .val (.double rp), .second, .val (.double rm), .second, .val (.double (FP.dneg (FP.i2d (p3 &&& (65535 : Int32))))), .second, .val (.ref b1), .val (.double s0), .second, .val (.double ex), .second, .val (.int (1 : Int32))] []))
      refine own_go (fun _ q => XS.iconst X3.here hx rfl (hb hby at_297) q) ?_
      show own_Go _ _ _ _ _ _ _ (T3.setTop (mkF m 298 #[.val (.int p0), .val (.int p1), .val (.int p2), .val (.int p3), .val (.int za), .val (.int zb), .val (.double sc), .second, .val (.double rp), .second, .val (.double rm), .second, .val (.double (FP.dneg (FP.i2d (p3 &&& (65535 : Int32))))), .second, .val (.ref b1), .val (.double s0), .second, .val (.double ex), .second, .val (.int (1 : Int32))] [(.int (1 : Int32))]))
      refine own_go (fun _ q => XS.goto X3.here hx rfl (pc0 := 298) (pc' := 302) rfl (hb hby at_298) (by decide) (by decide) q) ?_
      show own_Go _ _ _ _ _ _ _ (T3.setTop (mkF m 302 #[.val (.int p0), .val (.int p1), .val (.int p2), .val (.int p3), .val (.int za), .val (.int zb), .val (.double sc), .second, .val (.double rp), .second, .val (.double rm), .second, .val (.double (FP.dneg (FP.i2d (p3 &&& (65535 : Int32))))), .second, .val (.ref b1), .val (.double s0), .second, .val (.double ex), .second, .val (.int (1 : Int32))] [(.int (1 : Int32))]))
      refine own_go (fun _ q => XS.istore X3.here hx rfl (hb hby at_302) rfl (l' := #[.val (.int p0), .val (.int p1), .val (.int p2), .val (.int p3), .val (.int za), .val (.int zb), .val (.double sc), .second, .val (.double rp), .second, .val (.double rm), .second, .val (.double (FP.dneg (FP.i2d (p3 &&& (65535 : Int32))))), .second, .val (.ref b1), .val (.double s0), .second, .val (.double ex), .second, .val (.int (1 : Int32))]) rfl q) ?_
      show own_Go _ _ _ _ _ _ _ (T3.setTop (mkF m 304 #[.val (.int p0), .val (.int p1), .val (.int p2), .val (.int p3), .val (.int za), .val (.int zb), .val (.double sc), .second, .val (.double rp), .second, .val (.double rm), .second, .val (.double (FP.dneg (FP.i2d (p3 &&& (65535 : Int32))))), .second, .val (.ref b1), .val (.double s0), .second, .val (.double ex), .second, .val (.int (1 : Int32))] []))
      refine own_go (fun _ q => XS.iload X3.here hx rfl (hb hby at_304) rfl q) ?_
      show own_Go _ _ _ _ _ _ _ (T3.setTop (mkF m 306 #[.val (.int p0), .val (.int p1), .val (.int p2), .val (.int p3), .val (.int za), .val (.int zb), .val (.double sc), .second, .val (.double rp), .second, .val (.double rm), .second, .val (.double (FP.dneg (FP.i2d (p3 &&& (65535 : Int32))))), .second, .val (.ref b1), .val (.double s0), .second, .val (.double ex), .second, .val (.int (1 : Int32))] [(.int (1 : Int32))]))
      exact own_retZ X3 hx hlk hret (hb hby at_306) (by decide) (by decide) (by decide) ⟨rfl, N3⟩
    · refine own_go (own_dcmp X3 hx (g := (mkF m 130 #[.val (.int p0), .val (.int p1), .val (.int p2), .val (.int p3), .val (.int za), .val (.int zb), .val (.double sc), .second, .val (.double rp), .second, .val (.double rm), .second, .val (.double (FP.dneg (FP.i2d (p3 &&& (65535 : Int32))))), .second, .val (.ref b1), .val (.double s0), .second, .val (.double ex), .second, .val (.int (1 : Int32))] [(.double s0), (.double FP.dconst0)])) rfl (o := .lt) (own_zero_gt DS hn0 h21 (by omega)).2 (hb hby at_130) rfl) ?_
      show own_Go _ _ _ _ _ _ _ (T3.setTop (mkF m 131 #[.val (.int p0), .val (.int p1), .val (.int p2), .val (.int p3), .val (.int za), .val (.int zb), .val (.double sc), .second, .val (.double rp), .second, .val (.double rm), .second, .val (.double (FP.dneg (FP.i2d (p3 &&& (65535 : Int32))))), .second, .val (.ref b1), .val (.double s0), .second, .val (.double ex), .second, .val (.int (1 : Int32))] [(.int (-1 : Int32))]))
      refine own_go (fun _ q => XS.ifNo X3.here hx rfl (hb hby at_131) rfl ((if0 _ _).trans (flt (by decide : ¬ ((0 : Int32) < (-1 : Int32)))).2.2.1) q) ?_
      show own_Go _ _ _ _ _ _ _ (T3.setTop (mkF m 134 #[.val (.int p0), .val (.int p1), .val (.int p2), .val (.int p3), .val (.int za), .val (.int zb), .val (.double sc), .second, .val (.double rp), .second, .val (.double rm), .second, .val (.double (FP.dneg (FP.i2d (p3 &&& (65535 : Int32))))), .second, .val (.ref b1), .val (.double s0), .second, .val (.double ex), .second, .val (.int (1 : Int32))] []))
      refine own_go (fun _ q => XT.dload X3.here hx rfl (hb hby at_134) rfl q) ?_
      show own_Go _ _ _ _ _ _ _ (T3.setTop (mkF m 136 #[.val (.int p0), .val (.int p1), .val (.int p2), .val (.int p3), .val (.int za), .val (.int zb), .val (.double sc), .second, .val (.double rp), .second, .val (.double rm), .second, .val (.double (FP.dneg (FP.i2d (p3 &&& (65535 : Int32))))), .second, .val (.ref b1), .val (.double s0), .second, .val (.double ex), .second, .val (.int (1 : Int32))] [(.double s0)]))
      refine own_go (own_dconst1 X3 hx (g := (mkF m 136 #[.val (.int p0), .val (.int p1), .val (.int p2), .val (.int p3), .val (.int za), .val (.int zb), .val (.double sc), .second, .val (.double rp), .second, .val (.double rm), .second, .val (.double (FP.dneg (FP.i2d (p3 &&& (65535 : Int32))))), .second, .val (.ref b1), .val (.double s0), .second, .val (.double ex), .second, .val (.int (1 : Int32))] [(.double s0)])) rfl (hb hby at_136)) ?_
      show own_Go _ _ _ _ _ _ _ (T3.setTop (mkF m 137 #[.val (.int p0), .val (.int p1), .val (.int p2), .val (.int p3), .val (.int za), .val (.int zb), .val (.double sc), .second, .val (.double rp), .second, .val (.double rm), .second, .val (.double (FP.dneg (FP.i2d (p3 &&& (65535 : Int32))))), .second, .val (.ref b1), .val (.double s0), .second, .val (.double ex), .second, .val (.int (1 : Int32))] [(.double FP.dconst1), (.double s0)]))
      refine own_go (own_dcmp X3 hx (g := (mkF m 137 #[.val (.int p0), .val (.int p1), .val (.int p2), .val (.int p3), .val (.int za), .val (.int zb), .val (.double sc), .second, .val (.double rp), .second, .val (.double rm), .second, .val (.double (FP.dneg (FP.i2d (p3 &&& (65535 : Int32))))), .second, .val (.ref b1), .val (.double s0), .second, .val (.double ex), .second, .val (.int (1 : Int32))] [(.double FP.dconst1), (.double s0)])) rfl (o := .lt) (own_one_lt DS h21 (by omega)) (hb hby at_137) rfl) ?_
      show own_Go _ _ _ _ _ _ _ (T3.setTop (mkF m 138 #[.val (.int p0), .val (.int p1), .val (.int p2), .val (.int p3), .val (.int za), .val (.int zb), .val (.double sc), .second, .val (.double rp), .second, .val (.double rm), .second, .val (.double (FP.dneg (FP.i2d (p3 &&& (65535 : Int32))))), .second, .val (.ref b1), .val (.double s0), .second, .val (.double ex), .second, .val (.int (1 : Int32))] [(.int (-1 : Int32))]))
      refine own_go (fun _ q => XS.ifNo X3.here hx rfl (hb hby at_138) rfl ((if0 _ _).trans (flt (by decide : ¬ ((0 : Int32) < (-1 : Int32)))).2.2.1) q) ?_
      show own_Go _ _ _ _ _ _ _ (T3.setTop (mkF m 141 #[.val (.int p0), .val (.int p1), .val (.int p2), .val (.int p3), .val (.int za), .val (.int zb), .val (.double sc), .second, .val (.double rp), .second, .val (.double rm), .second, .val (.double (FP.dneg (FP.i2d (p3 &&& (65535 : Int32))))), .second, .val (.ref b1), .val (.double s0), .second, .val (.double ex), .second, .val (.int (1 : Int32))] []))
      refine own_go (fun _ q => XS.iconst X3.here hx rfl (hb hby at_141) q) ?_
      show own_Go _ _ _ _ _ _ _ (T3.setTop (mkF m 142 #[.val (.int p0), .val (.int p1), .val (.int p2), .val (.int p3), .val (.int za), .val (.int zb), .val (.double sc), .second, .val (.double rp), .second, .val (.double rm), .second, .val (.double (FP.dneg (FP.i2d (p3 &&& (65535 : Int32))))), .second, .val (.ref b1), .val (.double s0), .second, .val (.double ex), .second, .val (.int (1 : Int32))] [(.int (1 : Int32))]))
      refine own_go (fun _ q => XS.goto X3.here hx rfl (pc0 := 142) (pc' := 146) rfl (hb hby at_142) (by decide) (by decide) q) ?_
      show own_Go _ _ _ _ _ _ _ (T3.setTop (mkF m 146 #[.val (.int p0), .val (.int p1), .val (.int p2), .val (.int p3), .val (.int za), .val (.int zb), .val (.double sc), .second, .val (.double rp), .second, .val (.double rm), .second, .val (.double (FP.dneg (FP.i2d (p3 &&& (65535 : Int32))))), .second, .val (.ref b1), .val (.double s0), .second, .val (.double ex), .second, .val (.int (1 : Int32))] [(.int (1 : Int32))]))
      refine own_go (fun _ q => XS.istore X3.here hx rfl (hb hby at_146) rfl (l' := #[.val (.int p0), .val (.int p1), .val (.int p2), .val (.int p3), .val (.int za), .val (.int zb), .val (.double sc), .second, .val (.double rp), .second, .val (.double rm), .second, .val (.double (FP.dneg (FP.i2d (p3 &&& (65535 : Int32))))), .second, .val (.ref b1), .val (.double s0), .second, .val (.double ex), .second, .val (.int (1 : Int32))]) rfl q) ?_
      show own_Go _ _ _ _ _ _ _ (T3.setTop (mkF m 148 #[.val (.int p0), .val (.int p1), .val (.int p2), .val (.int p3), .val (.int za), .val (.int zb), .val (.double sc), .second, .val (.double rp), .second, .val (.double rm), .second, .val (.double (FP.dneg (FP.i2d (p3 &&& (65535 : Int32))))), .second, .val (.ref b1), .val (.double s0), .second, .val (.double ex), .second, .val (.int (1 : Int32))] []))
      refine own_go (fun _ q => XS.iload X3.here hx rfl (hb hby at_148) rfl q) ?_
      show own_Go _ _ _ _ _ _ _ (T3.setTop (mkF m 150 #[.val (.int p0), .val (.int p1), .val (.int p2), .val (.int p3), .val (.int za), .val (.int zb), .val (.double sc), .second, .val (.double rp), .second, .val (.double rm), .second, .val (.double (FP.dneg (FP.i2d (p3 &&& (65535 : Int32))))), .second, .val (.ref b1), .val (.double s0), .second, .val (.double ex), .second, .val (.int (1 : Int32))] [(.int (1 : Int32))]))
      refine own_go (fun _ q => XS.ifNo X3.here hx rfl (hb hby at_150) rfl ((if0 _ _).trans (feq (by decide : ¬ ((1 : Int32) = (0 : Int32)))).1) q) ?_
      show own_Go _ _ _ _ _ _ _ (T3.setTop (mkF m 153 #[.val (.int p0), .val (.int p1), .val (.int p2), .val (.int p3), .val (.int za), .val (.int zb), .val (.double sc), .second, .val (.double rp), .second, .val (.double rm), .second, .val (.double (FP.dneg (FP.i2d (p3 &&& (65535 : Int32))))), .second, .val (.ref b1), .val (.double s0), .second, .val (.double ex), .second, .val (.int (1 : Int32))] []))
      refine own_go (fun _ q => XT.dload X3.here hx rfl (hb hby at_153) rfl q) ?_
      show own_Go _ _ _ _ _ _ _ (T3.setTop (mkF m 155 #[.val (.int p0), .val (.int p1), .val (.int p2), .val (.int p3), .val (.int za), .val (.int zb), .val (.double sc), .second, .val (.double rp), .second, .val (.double rm), .second, .val (.double (FP.dneg (FP.i2d (p3 &&& (65535 : Int32))))), .second, .val (.ref b1), .val (.double s0), .second, .val (.double ex), .second, .val (.int (1 : Int32))] [(.double s0)]))
      refine own_go (X3.ldc2DoubleC hx hown (mvT hZ (hw _ (List.mem_of_getElem? (i := 1) rfl))) (g := (mkF m 155 #[.val (.int p0), .val (.int p1), .val (.int p2), .val (.int p3), .val (.int za), .val (.int zb), .val (.double sc), .second, .val (.double rp), .second, .val (.double rm), .second, .val (.double (FP.dneg (FP.i2d (p3 &&& (65535 : Int32))))), .second, .val (.ref b1), .val (.double s0), .second, .val (.double ex), .second, .val (.int (1 : Int32))] [(.double s0)])) rfl (hb hby at_155)) ?_
      show own_Go _ _ _ _ _ _ _ (T3.setTop (mkF m 158 #[.val (.int p0), .val (.int p1), .val (.int p2), .val (.int p3), .val (.int za), .val (.int zb), .val (.double sc), .second, .val (.double rp), .second, .val (.double rm), .second, .val (.double (FP.dneg (FP.i2d (p3 &&& (65535 : Int32))))), .second, .val (.ref b1), .val (.double s0), .second, .val (.double ex), .second, .val (.int (1 : Int32))] [(.double (4602678819172646912 : UInt64)), (.double s0)]))
      refine own_go (own_dcmp X3 hx (g := (mkF m 158 #[.val (.int p0), .val (.int p1), .val (.int p2), .val (.int p3), .val (.int za), .val (.int zb), .val (.double sc), .second, .val (.double rp), .second, .val (.double rm), .second, .val (.double (FP.dneg (FP.i2d (p3 &&& (65535 : Int32))))), .second, .val (.ref b1), .val (.double s0), .second, .val (.double ex), .second, .val (.int (1 : Int32))] [(.double (4602678819172646912 : UInt64)), (.double s0)])) rfl (o := .eq) (own_half_eq DS rfl hn0 (by omega)) (hb hby at_158) rfl) ?_
      show own_Go _ _ _ _ _ _ _ (T3.setTop (mkF m 159 #[.val (.int p0), .val (.int p1), .val (.int p2), .val (.int p3), .val (.int za), .val (.int zb), .val (.double sc), .second, .val (.double rp), .second, .val (.double rm), .second, .val (.double (FP.dneg (FP.i2d (p3 &&& (65535 : Int32))))), .second, .val (.ref b1), .val (.double s0), .second, .val (.double ex), .second, .val (.int (1 : Int32))] [(.int (0 : Int32))]))
      refine own_go (fun _ q => XS.ifYes X3.here hx rfl (pc0 := 159) (pc' := 166) rfl (hb hby at_159) rfl ((if0 _ _).trans (flt (by decide : ¬ ((0 : Int32) < (0 : Int32)))).2.1) (by decide) (by decide) q) ?_
      show own_Go _ _ _ _ _ _ _ (T3.setTop (mkF m 166 #[.val (.int p0), .val (.int p1), .val (.int p2), .val (.int p3), .val (.int za), .val (.int zb), .val (.double sc), .second, .val (.double rp), .second, .val (.double rm), .second, .val (.double (FP.dneg (FP.i2d (p3 &&& (65535 : Int32))))), .second, .val (.ref b1), .val (.double s0), .second, .val (.double ex), .second, .val (.int (1 : Int32))] []))
      refine own_go (fun _ q => XS.iconst X3.here hx rfl (hb hby at_166) q) ?_
      show own_Go _ _ _ _ _ _ _ (T3.setTop (mkF m 167 #[.val (.int p0), .val (.int p1), .val (.int p2), .val (.int p3), .val (.int za), .val (.int zb), .val (.double sc), .second, .val (.double rp), .second, .val (.double rm), .second, .val (.double (FP.dneg (FP.i2d (p3 &&& (65535 : Int32))))), .second, .val (.ref b1), .val (.double s0), .second, .val (.double ex), .second, .val (.int (1 : Int32))] [(.int (0 : Int32))]))
      refine own_go (fun _ q => XS.iload X3.here hx rfl (hb hby at_167) rfl q) ?_
      show own_Go _ _ _ _ _ _ _ (T3.setTop (mkF m 169 #[.val (.int p0), .val (.int p1), .val (.int p2), .val (.int p3), .val (.int za), .val (.int zb), .val (.double sc), .second, .val (.double rp), .second, .val (.double rm), .second, .val (.double (FP.dneg (FP.i2d (p3 &&& (65535 : Int32))))), .second, .val (.ref b1), .val (.double s0), .second, .val (.double ex), .second, .val (.int (1 : Int32))] [(.int zb), (.int (0 : Int32))]))
      refine own_go (fun _ q => XS.iload X3.here hx rfl (hb hby at_169) rfl q) ?_
      show own_Go _ _ _ _ _ _ _ (T3.setTop (mkF m 171 #[.val (.int p0), .val (.int p1), .val (.int p2), .val (.int p3), .val (.int za), .val (.int zb), .val (.double sc), .second, .val (.double rp), .second, .val (.double rm), .second, .val (.double (FP.dneg (FP.i2d (p3 &&& (65535 : Int32))))), .second, .val (.ref b1), .val (.double s0), .second, .val (.double ex), .second, .val (.int (1 : Int32))] [(.int za), (.int zb), (.int (0 : Int32))]))
      refine own_go (fun _ q => XS.icmpYes X3.here hx rfl (pc0 := 171) (pc' := 178) rfl (hb hby at_171) rfl (flt (own_nlt (x := zb) (y := za) (by omega))).2.1 (by decide) (by decide) q) ?_
      show own_Go _ _ _ _ _ _ _ (T3.setTop (mkF m 178 #[.val (.int p0), .val (.int p1), .val (.int p2), .val (.int p3), .val (.int za), .val (.int zb), .val (.double sc), .second, .val (.double rp), .second, .val (.double rm), .second, .val (.double (FP.dneg (FP.i2d (p3 &&& (65535 : Int32))))), .second, .val (.ref b1), .val (.double s0), .second, .val (.double ex), .second, .val (.int (1 : Int32))] [(.int (0 : Int32))]))
      refine own_go (fun _ q => XS.iconst X3.here hx rfl (hb hby at_178) q) ?_
      show own_Go _ _ _ _ _ _ _ (T3.setTop (mkF m 179 #[.val (.int p0), .val (.int p1), .val (.int p2), .val (.int p3), .val (.int za), .val (.int zb), .val (.double sc), .second, .val (.double rp), .second, .val (.double rm), .second, .val (.double (FP.dneg (FP.i2d (p3 &&& (65535 : Int32))))), .second, .val (.ref b1), .val (.double s0), .second, .val (.double ex), .second, .val (.int (1 : Int32))] [(.int (0 : Int32)), (.int (0 : Int32))]))
      refine own_go (fun _ q => XS.icmpNo X3.here hx rfl (hb hby at_179) rfl (teq (by decide : (0 : Int32) = (0 : Int32))).2 q) ?_
      show own_Go _ _ _ _ _ _ _ (T3.setTop (mkF m 182 #[.val (.int p0), .val (.int p1), .val (.int p2), .val (.int p3), .val (.int za), .val (.int zb), .val (.double sc), .second, .val (.double rp), .second, .val (.double rm), .second, .val (.double (FP.dneg (FP.i2d (p3 &&& (65535 : Int32))))), .second, .val (.ref b1), .val (.double s0), .second, .val (.double ex), .second, .val (.int (1 : Int32))] []))
      refine own_go (fun _ q => XS.iconst X3.here hx rfl (hb hby at_182) q) ?_
      show own_Go _ _ _ _ _ _ _ (T3.setTop (mkF m 183 #[.val (.int p0), .val (.int p1), .val (.int p2), .val (.int p3), .val (.int za), .val (.int zb), .val (.double sc), .second, .val (.double rp), .second, .val (.double rm), .second, .val (.double (FP.dneg (FP.i2d (p3 &&& (65535 : Int32))))), .second, .val (.ref b1), .val (.double s0), .second, .val (.double ex), .second, .val (.int (1 : Int32))] [(.int (1 : Int32))]))
      refine own_go (fun _ q => XS.goto X3.here hx rfl (pc0 := 183) (pc' := 187) rfl (hb hby at_183) (by decide) (by decide) q) ?_
      show own_Go _ _ _ _ _ _ _ (T3.setTop (mkF m 187 #[.val (.int p0), .val (.int p1), .val (.int p2), .val (.int p3), .val (.int za), .val (.int zb), .val (.double sc), .second, .val (.double rp), .second, .val (.double rm), .second, .val (.double (FP.dneg (FP.i2d (p3 &&& (65535 : Int32))))), .second, .val (.ref b1), .val (.double s0), .second, .val (.double ex), .second, .val (.int (1 : Int32))] [(.int (1 : Int32))]))
      refine own_go (fun _ q => XS.istore X3.here hx rfl (hb hby at_187) rfl (l' := #[.val (.int p0), .val (.int p1), .val (.int p2), .val (.int p3), .val (.int za), .val (.int zb), .val (.double sc), .second, .val (.double rp), .second, .val (.double rm), .second, .val (.double (FP.dneg (FP.i2d (p3 &&& (65535 : Int32))))), .second, .val (.ref b1), .val (.double s0), .second, .val (.double ex), .second, .val (.int (1 : Int32))]) rfl q) ?_
      show own_Go _ _ _ _ _ _ _ (T3.setTop (mkF m 189 #[.val (.int p0), .val (.int p1), .val (.int p2), .val (.int p3), .val (.int za), .val (.int zb), .val (.double sc), .second, .val (.double rp), .second, .val (.double rm), .second, .val (.double (FP.dneg (FP.i2d (p3 &&& (65535 : Int32))))), .second, .val (.ref b1), .val (.double s0), .second, .val (.double ex), .second, .val (.int (1 : Int32))] []))
      refine own_go (fun _ q => XS.iload X3.here hx rfl (hb hby at_189) rfl q) ?_
      show own_Go _ _ _ _ _ _ _ (T3.setTop (mkF m 191 #[.val (.int p0), .val (.int p1), .val (.int p2), .val (.int p3), .val (.int za), .val (.int zb), .val (.double sc), .second, .val (.double rp), .second, .val (.double rm), .second, .val (.double (FP.dneg (FP.i2d (p3 &&& (65535 : Int32))))), .second, .val (.ref b1), .val (.double s0), .second, .val (.double ex), .second, .val (.int (1 : Int32))] [(.int (1 : Int32))]))
      refine own_go (fun _ q => XS.ifNo X3.here hx rfl (hb hby at_191) rfl ((if0 _ _).trans (feq (by decide : ¬ ((1 : Int32) = (0 : Int32)))).1) q) ?_
      show own_Go _ _ _ _ _ _ _ (T3.setTop (mkF m 194 #[.val (.int p0), .val (.int p1), .val (.int p2), .val (.int p3), .val (.int za), .val (.int zb), .val (.double sc), .second, .val (.double rp), .second, .val (.double rm), .second, .val (.double (FP.dneg (FP.i2d (p3 &&& (65535 : Int32))))), .second, .val (.ref b1), .val (.double s0), .second, .val (.double ex), .second, .val (.int (1 : Int32))] []))
      refine own_go (fun _ q => XT.dload X3.here hx rfl (hb hby at_194) rfl q) ?_
      show own_Go _ _ _ _ _ _ _ (T3.setTop (mkF m 196 #[.val (.int p0), .val (.int p1), .val (.int p2), .val (.int p3), .val (.int za), .val (.int zb), .val (.double sc), .second, .val (.double rp), .second, .val (.double rm), .second, .val (.double (FP.dneg (FP.i2d (p3 &&& (65535 : Int32))))), .second, .val (.ref b1), .val (.double s0), .second, .val (.double ex), .second, .val (.int (1 : Int32))] [(.double s0)]))
      refine own_go (X3.ldc2DoubleC hx hown (mvT hZ (hw _ (List.mem_of_getElem? (i := 1) rfl))) (g := (mkF m 196 #[.val (.int p0), .val (.int p1), .val (.int p2), .val (.int p3), .val (.int za), .val (.int zb), .val (.double sc), .second, .val (.double rp), .second, .val (.double rm), .second, .val (.double (FP.dneg (FP.i2d (p3 &&& (65535 : Int32))))), .second, .val (.ref b1), .val (.double s0), .second, .val (.double ex), .second, .val (.int (1 : Int32))] [(.double s0)])) rfl (hb hby at_196)) ?_
      show own_Go _ _ _ _ _ _ _ (T3.setTop (mkF m 199 #[.val (.int p0), .val (.int p1), .val (.int p2), .val (.int p3), .val (.int za), .val (.int zb), .val (.double sc), .second, .val (.double rp), .second, .val (.double rm), .second, .val (.double (FP.dneg (FP.i2d (p3 &&& (65535 : Int32))))), .second, .val (.ref b1), .val (.double s0), .second, .val (.double ex), .second, .val (.int (1 : Int32))] [(.double (4602678819172646912 : UInt64)), (.double s0)]))
      refine own_go (own_dcmp X3 hx (g := (mkF m 199 #[.val (.int p0), .val (.int p1), .val (.int p2), .val (.int p3), .val (.int za), .val (.int zb), .val (.double sc), .second, .val (.double rp), .second, .val (.double rm), .second, .val (.double (FP.dneg (FP.i2d (p3 &&& (65535 : Int32))))), .second, .val (.ref b1), .val (.double s0), .second, .val (.double ex), .second, .val (.int (1 : Int32))] [(.double (4602678819172646912 : UInt64)), (.double s0)])) rfl (o := .eq) (own_half_eq DS rfl hn0 (by omega)) (hb hby at_199) rfl) ?_
      show own_Go _ _ _ _ _ _ _ (T3.setTop (mkF m 200 #[.val (.int p0), .val (.int p1), .val (.int p2), .val (.int p3), .val (.int za), .val (.int zb), .val (.double sc), .second, .val (.double rp), .second, .val (.double rm), .second, .val (.double (FP.dneg (FP.i2d (p3 &&& (65535 : Int32))))), .second, .val (.ref b1), .val (.double s0), .second, .val (.double ex), .second, .val (.int (1 : Int32))] [(.int (0 : Int32))]))
      refine own_go (fun _ q => XS.ifNo X3.here hx rfl (hb hby at_200) rfl ((if0 _ _).trans (teq (by decide : (0 : Int32) = (0 : Int32))).2) q) ?_
      show own_Go _ _ _ _ _ _ _ (T3.setTop (mkF m 203 #[.val (.int p0), .val (.int p1), .val (.int p2), .val (.int p3), .val (.int za), .val (.int zb), .val (.double sc), .second, .val (.double rp), .second, .val (.double rm), .second, .val (.double (FP.dneg (FP.i2d (p3 &&& (65535 : Int32))))), .second, .val (.ref b1), .val (.double s0), .second, .val (.double ex), .second, .val (.int (1 : Int32))] []))
      refine own_go (fun _ q => XS.iconst X3.here hx rfl (hb hby at_203) q) ?_
      show own_Go _ _ _ _ _ _ _ (T3.setTop (mkF m 204 #[.val (.int p0), .val (.int p1), .val (.int p2), .val (.int p3), .val (.int za), .val (.int zb), .val (.double sc), .second, .val (.double rp), .second, .val (.double rm), .second, .val (.double (FP.dneg (FP.i2d (p3 &&& (65535 : Int32))))), .second, .val (.ref b1), .val (.double s0), .second, .val (.double ex), .second, .val (.int (1 : Int32))] [(.int (1 : Int32))]))
      refine own_go (fun _ q => XS.goto X3.here hx rfl (pc0 := 204) (pc' := 208) rfl (hb hby at_204) (by decide) (by decide) q) ?_
      show own_Go _ _ _ _ _ _ _ (T3.setTop (mkF m 208 #[.val (.int p0), .val (.int p1), .val (.int p2), .val (.int p3), .val (.int za), .val (.int zb), .val (.double sc), .second, .val (.double rp), .second, .val (.double rm), .second, .val (.double (FP.dneg (FP.i2d (p3 &&& (65535 : Int32))))), .second, .val (.ref b1), .val (.double s0), .second, .val (.double ex), .second, .val (.int (1 : Int32))] [(.int (1 : Int32))]))
      refine own_go (fun _ q => XS.iload X3.here hx rfl (hb hby at_208) rfl q) ?_
      show own_Go _ _ _ _ _ _ _ (T3.setTop (mkF m 210 #[.val (.int p0), .val (.int p1), .val (.int p2), .val (.int p3), .val (.int za), .val (.int zb), .val (.double sc), .second, .val (.double rp), .second, .val (.double rm), .second, .val (.double (FP.dneg (FP.i2d (p3 &&& (65535 : Int32))))), .second, .val (.ref b1), .val (.double s0), .second, .val (.double ex), .second, .val (.int (1 : Int32))] [(.int za), (.int (1 : Int32))]))
      refine own_go (fun _ q => XS.iload X3.here hx rfl (hb hby at_210) rfl q) ?_
      show own_Go _ _ _ _ _ _ _ (T3.setTop (mkF m 212 #[.val (.int p0), .val (.int p1), .val (.int p2), .val (.int p3), .val (.int za), .val (.int zb), .val (.double sc), .second, .val (.double rp), .second, .val (.double rm), .second, .val (.double (FP.dneg (FP.i2d (p3 &&& (65535 : Int32))))), .second, .val (.ref b1), .val (.double s0), .second, .val (.double ex), .second, .val (.int (1 : Int32))] [(.int zb), (.int za), (.int (1 : Int32))]))
      refine own_go (fun _ q => XS.icmpNo X3.here hx rfl (hb hby at_212) rfl (teq (own_eq (x := za) (y := zb) (by have e0 : (0 : Int32).toInt = 0 := rfl; omega))).2 q) ?_
      show own_Go _ _ _ _ _ _ _ (T3.setTop (mkF m 215 #[.val (.int p0), .val (.int p1), .val (.int p2), .val (.int p3), .val (.int za), .val (.int zb), .val (.double sc), .second, .val (.double rp), .second, .val (.double rm), .second, .val (.double (FP.dneg (FP.i2d (p3 &&& (65535 : Int32))))), .second, .val (.ref b1), .val (.double s0), .second, .val (.double ex), .second, .val (.int (1 : Int32))] [(.int (1 : Int32))]))
      refine own_go (fun _ q => XS.iconst X3.here hx rfl (hb hby at_215) q) ?_
      show own_Go _ _ _ _ _ _ _ (T3.setTop (mkF m 216 #[.val (.int p0), .val (.int p1), .val (.int p2), .val (.int p3), .val (.int za), .val (.int zb), .val (.double sc), .second, .val (.double rp), .second, .val (.double rm), .second, .val (.double (FP.dneg (FP.i2d (p3 &&& (65535 : Int32))))), .second, .val (.ref b1), .val (.double s0), .second, .val (.double ex), .second, .val (.int (1 : Int32))] [(.int (1 : Int32)), (.int (1 : Int32))]))
      refine own_go (fun _ q => XS.goto X3.here hx rfl (pc0 := 216) (pc' := 220) rfl (hb hby at_216) (by decide) (by decide) q) ?_
      show own_Go _ _ _ _ _ _ _ (T3.setTop (mkF m 220 #[.val (.int p0), .val (.int p1), .val (.int p2), .val (.int p3), .val (.int za), .val (.int zb), .val (.double sc), .second, .val (.double rp), .second, .val (.double rm), .second, .val (.double (FP.dneg (FP.i2d (p3 &&& (65535 : Int32))))), .second, .val (.ref b1), .val (.double s0), .second, .val (.double ex), .second, .val (.int (1 : Int32))] [(.int (1 : Int32)), (.int (1 : Int32))]))
      refine own_go (fun _ q => XS.icmpNo X3.here hx rfl (hb hby at_220) rfl (teq (by decide : (1 : Int32) = (1 : Int32))).2 q) ?_
      show own_Go _ _ _ _ _ _ _ (T3.setTop (mkF m 223 #[.val (.int p0), .val (.int p1), .val (.int p2), .val (.int p3), .val (.int za), .val (.int zb), .val (.double sc), .second, .val (.double rp), .second, .val (.double rm), .second, .val (.double (FP.dneg (FP.i2d (p3 &&& (65535 : Int32))))), .second, .val (.ref b1), .val (.double s0), .second, .val (.double ex), .second, .val (.int (1 : Int32))] []))
      refine own_go (fun _ q => XS.iconst X3.here hx rfl (hb hby at_223) q) ?_
      show own_Go _ _ _ _ _ _ _ (T3.setTop (mkF m 224 #[.val (.int p0), .val (.int p1), .val (.int p2), .val (.int p3), .val (.int za), .val (.int zb), .val (.double sc), .second, .val (.double rp), .second, .val (.double rm), .second, .val (.double (FP.dneg (FP.i2d (p3 &&& (65535 : Int32))))), .second, .val (.ref b1), .val (.double s0), .second, .val (.double ex), .second, .val (.int (1 : Int32))] [(.int (1 : Int32))]))
      refine own_go (fun _ q => XS.goto X3.here hx rfl (pc0 := 224) (pc' := 228) rfl (hb hby at_224) (by decide) (by decide) q) ?_
      show own_Go _ _ _ _ _ _ _ (T3.setTop (mkF m 228 #[.val (.int p0), .val (.int p1), .val (.int p2), .val (.int p3), .val (.int za), .val (.int zb), .val (.double sc), .second, .val (.double rp), .second, .val (.double rm), .second, .val (.double (FP.dneg (FP.i2d (p3 &&& (65535 : Int32))))), .second, .val (.ref b1), .val (.double s0), .second, .val (.double ex), .second, .val (.int (1 : Int32))] [(.int (1 : Int32))]))
      refine own_go (fun _ q => XS.istore X3.here hx rfl (hb hby at_228) rfl (l' := #[.val (.int p0), .val (.int p1), .val (.int p2), .val (.int p3), .val (.int za), .val (.int zb), .val (.double sc), .second, .val (.double rp), .second, .val (.double rm), .second, .val (.double (FP.dneg (FP.i2d (p3 &&& (65535 : Int32))))), .second, .val (.ref b1), .val (.double s0), .second, .val (.double ex), .second, .val (.int (1 : Int32))]) rfl q) ?_
      show own_Go _ _ _ _ _ _ _ (T3.setTop (mkF m 230 #[.val (.int p0), .val (.int p1), .val (.int p2), .val (.int p3), .val (.int za), .val (.int zb), .val (.double sc), .second, .val (.double rp), .second, .val (.double rm), .second, .val (.double (FP.dneg (FP.i2d (p3 &&& (65535 : Int32))))), .second, .val (.ref b1), .val (.double s0), .second, .val (.double ex), .second, .val (.int (1 : Int32))] []))
      refine own_go (fun _ q => XS.iload X3.here hx rfl (hb hby at_230) rfl q) ?_
      show own_Go _ _ _ _ _ _ _ (T3.setTop (mkF m 232 #[.val (.int p0), .val (.int p1), .val (.int p2), .val (.int p3), .val (.int za), .val (.int zb), .val (.double sc), .second, .val (.double rp), .second, .val (.double rm), .second, .val (.double (FP.dneg (FP.i2d (p3 &&& (65535 : Int32))))), .second, .val (.ref b1), .val (.double s0), .second, .val (.double ex), .second, .val (.int (1 : Int32))] [(.int (1 : Int32))]))
      refine own_go (fun _ q => XS.ifNo X3.here hx rfl (hb hby at_232) rfl ((if0 _ _).trans (feq (by decide : ¬ ((1 : Int32) = (0 : Int32)))).1) q) ?_
      show own_Go _ _ _ _ _ _ _ (T3.setTop (mkF m 235 #[.val (.int p0), .val (.int p1), .val (.int p2), .val (.int p3), .val (.int za), .val (.int zb), .val (.double sc), .second, .val (.double rp), .second, .val (.double rm), .second, .val (.double (FP.dneg (FP.i2d (p3 &&& (65535 : Int32))))), .second, .val (.ref b1), .val (.double s0), .second, .val (.double ex), .second, .val (.int (1 : Int32))] []))
      refine own_go (fun _ q => XT.dload X3.here hx rfl (hb hby at_235) rfl q) ?_
      show own_Go _ _ _ _ _ _ _ (T3.setTop (mkF m 237 #[.val (.int p0), .val (.int p1), .val (.int p2), .val (.int p3), .val (.int za), .val (.int zb), .val (.double sc), .second, .val (.double rp), .second, .val (.double rm), .second, .val (.double (FP.dneg (FP.i2d (p3 &&& (65535 : Int32))))), .second, .val (.ref b1), .val (.double s0), .second, .val (.double ex), .second, .val (.int (1 : Int32))] [(.double s0)]))
      refine own_go (own_dconst0 X3 hx (g := (mkF m 237 #[.val (.int p0), .val (.int p1), .val (.int p2), .val (.int p3), .val (.int za), .val (.int zb), .val (.double sc), .second, .val (.double rp), .second, .val (.double rm), .second, .val (.double (FP.dneg (FP.i2d (p3 &&& (65535 : Int32))))), .second, .val (.ref b1), .val (.double s0), .second, .val (.double ex), .second, .val (.int (1 : Int32))] [(.double s0)])) rfl (hb hby at_237)) ?_
      show own_Go _ _ _ _ _ _ _ (T3.setTop (mkF m 238 #[.val (.int p0), .val (.int p1), .val (.int p2), .val (.int p3), .val (.int za), .val (.int zb), .val (.double sc), .second, .val (.double rp), .second, .val (.double rm), .second, .val (.double (FP.dneg (FP.i2d (p3 &&& (65535 : Int32))))), .second, .val (.ref b1), .val (.double s0), .second, .val (.double ex), .second, .val (.int (1 : Int32))] [(.double FP.dconst0), (.double s0)]))
      refine own_go (own_dcmp X3 hx (g := (mkF m 238 #[.val (.int p0), .val (.int p1), .val (.int p2), .val (.int p3), .val (.int za), .val (.int zb), .val (.double sc), .second, .val (.double rp), .second, .val (.double rm), .second, .val (.double (FP.dneg (FP.i2d (p3 &&& (65535 : Int32))))), .second, .val (.ref b1), .val (.double s0), .second, .val (.double ex), .second, .val (.int (1 : Int32))] [(.double FP.dconst0), (.double s0)])) rfl (o := .gt) (own_zero_gt DS hn0 h21 (by omega)).1 (hb hby at_238) rfl) ?_
      show own_Go _ _ _ _ _ _ _ (T3.setTop (mkF m 239 #[.val (.int p0), .val (.int p1), .val (.int p2), .val (.int p3), .val (.int za), .val (.int zb), .val (.double sc), .second, .val (.double rp), .second, .val (.double rm), .second, .val (.double (FP.dneg (FP.i2d (p3 &&& (65535 : Int32))))), .second, .val (.ref b1), .val (.double s0), .second, .val (.double ex), .second, .val (.int (1 : Int32))] [(.int (1 : Int32))]))
      refine own_go (fun _ q => XS.ifYes X3.here hx rfl (pc0 := 239) (pc' := 246) rfl (hb hby at_239) rfl ((if0 _ _).trans (feq (by decide : ¬ ((1 : Int32) = (0 : Int32)))).2) (by decide) (by decide) q) ?_
      show own_Go _ _ _ _ _ _ _ (T3.setTop (mkF m 246 #[.val (.int p0), .val (.int p1), .val (.int p2), .val (.int p3), .val (.int za), .val (.int zb), .val (.double sc), .second, .val (.double rp), .second, .val (.double rm), .second, .val (.double (FP.dneg (FP.i2d (p3 &&& (65535 : Int32))))), .second, .val (.ref b1), .val (.double s0), .second, .val (.double ex), .second, .val (.int (1 : Int32))] []))
      refine own_go (fun _ q => XS.iconst X3.here hx rfl (hb hby at_246) q) ?_
      show own_Go _ _ _ _ _ _ _ (T3.setTop (mkF m 247 #[.val (.int p0), .val (.int p1), .val (.int p2), .val (.int p3), .val (.int za), .val (.int zb), .val (.double sc), .second, .val (.double rp), .second, .val (.double rm), .second, .val (.double (FP.dneg (FP.i2d (p3 &&& (65535 : Int32))))), .second, .val (.ref b1), .val (.double s0), .second, .val (.double ex), .second, .val (.int (1 : Int32))] [(.int (0 : Int32))]))
      refine own_go (fun _ q => XS.iload X3.here hx rfl (hb hby at_247) rfl q) ?_
      show own_Go _ _ _ _ _ _ _ (T3.setTop (mkF m 249 #[.val (.int p0), .val (.int p1), .val (.int p2), .val (.int p3), .val (.int za), .val (.int zb), .val (.double sc), .second, .val (.double rp), .second, .val (.double rm), .second, .val (.double (FP.dneg (FP.i2d (p3 &&& (65535 : Int32))))), .second, .val (.ref b1), .val (.double s0), .second, .val (.double ex), .second, .val (.int (1 : Int32))] [(.int zb), (.int (0 : Int32))]))
      refine own_go (fun _ q => XS.ifYes X3.here hx rfl (pc0 := 249) (pc' := 256) rfl (hb hby at_249) rfl ((if0 _ _).trans (feq (own_ne (x := zb) (y := 0) (by have e0 : (0 : Int32).toInt = 0 := rfl; omega))).2) (by decide) (by decide) q) ?_
      show own_Go _ _ _ _ _ _ _ (T3.setTop (mkF m 256 #[.val (.int p0), .val (.int p1), .val (.int p2), .val (.int p3), .val (.int za), .val (.int zb), .val (.double sc), .second, .val (.double rp), .second, .val (.double rm), .second, .val (.double (FP.dneg (FP.i2d (p3 &&& (65535 : Int32))))), .second, .val (.ref b1), .val (.double s0), .second, .val (.double ex), .second, .val (.int (1 : Int32))] [(.int (0 : Int32))]))
      refine own_go (fun _ q => XS.iconst X3.here hx rfl (hb hby at_256) q) ?_
      show own_Go _ _ _ _ _ _ _ (T3.setTop (mkF m 257 #[.val (.int p0), .val (.int p1), .val (.int p2), .val (.int p3), .val (.int za), .val (.int zb), .val (.double sc), .second, .val (.double rp), .second, .val (.double rm), .second, .val (.double (FP.dneg (FP.i2d (p3 &&& (65535 : Int32))))), .second, .val (.ref b1), .val (.double s0), .second, .val (.double ex), .second, .val (.int (1 : Int32))] [(.int (0 : Int32)), (.int (0 : Int32))]))
      refine own_go (fun _ q => XS.icmpNo X3.here hx rfl (hb hby at_257) rfl (teq (by decide : (0 : Int32) = (0 : Int32))).2 q) ?_
      show own_Go _ _ _ _ _ _ _ (T3.setTop (mkF m 260 #[.val (.int p0), .val (.int p1), .val (.int p2), .val (.int p3), .val (.int za), .val (.int zb), .val (.double sc), .second, .val (.double rp), .second, .val (.double rm), .second, .val (.double (FP.dneg (FP.i2d (p3 &&& (65535 : Int32))))), .second, .val (.ref b1), .val (.double s0), .second, .val (.double ex), .second, .val (.int (1 : Int32))] []))
      refine own_go (fun _ q => XS.iconst X3.here hx rfl (hb hby at_260) q) ?_
      show own_Go _ _ _ _ _ _ _ (T3.setTop (mkF m 261 #[.val (.int p0), .val (.int p1), .val (.int p2), .val (.int p3), .val (.int za), .val (.int zb), .val (.double sc), .second, .val (.double rp), .second, .val (.double rm), .second, .val (.double (FP.dneg (FP.i2d (p3 &&& (65535 : Int32))))), .second, .val (.ref b1), .val (.double s0), .second, .val (.double ex), .second, .val (.int (1 : Int32))] [(.int (1 : Int32))]))
      refine own_go (fun _ q => XS.goto X3.here hx rfl (pc0 := 261) (pc' := 265) rfl (hb hby at_261) (by decide) (by decide) q) ?_
      show own_Go _ _ _ _ _ _ _ (T3.setTop (mkF m 265 #[.val (.int p0), .val (.int p1), .val (.int p2), .val (.int p3), .val (.int za), .val (.int zb), .val (.double sc), .second, .val (.double rp), .second, .val (.double rm), .second, .val (.double (FP.dneg (FP.i2d (p3 &&& (65535 : Int32))))), .second, .val (.ref b1), .val (.double s0), .second, .val (.double ex), .second, .val (.int (1 : Int32))] [(.int (1 : Int32))]))
      refine own_go (fun _ q => XS.istore X3.here hx rfl (hb hby at_265) rfl (l' := #[.val (.int p0), .val (.int p1), .val (.int p2), .val (.int p3), .val (.int za), .val (.int zb), .val (.double sc), .second, .val (.double rp), .second, .val (.double rm), .second, .val (.double (FP.dneg (FP.i2d (p3 &&& (65535 : Int32))))), .second, .val (.ref b1), .val (.double s0), .second, .val (.double ex), .second, .val (.int (1 : Int32))]) rfl q) ?_
      show own_Go _ _ _ _ _ _ _ (T3.setTop (mkF m 267 #[.val (.int p0), .val (.int p1), .val (.int p2), .val (.int p3), .val (.int za), .val (.int zb), .val (.double sc), .second, .val (.double rp), .second, .val (.double rm), .second, .val (.double (FP.dneg (FP.i2d (p3 &&& (65535 : Int32))))), .second, .val (.ref b1), .val (.double s0), .second, .val (.double ex), .second, .val (.int (1 : Int32))] []))
      refine own_go (fun _ q => XS.iload X3.here hx rfl (hb hby at_267) rfl q) ?_
      show own_Go _ _ _ _ _ _ _ (T3.setTop (mkF m 269 #[.val (.int p0), .val (.int p1), .val (.int p2), .val (.int p3), .val (.int za), .val (.int zb), .val (.double sc), .second, .val (.double rp), .second, .val (.double rm), .second, .val (.double (FP.dneg (FP.i2d (p3 &&& (65535 : Int32))))), .second, .val (.ref b1), .val (.double s0), .second, .val (.double ex), .second, .val (.int (1 : Int32))] [(.int (1 : Int32))]))
      refine own_go (fun _ q => XS.ifNo X3.here hx rfl (hb hby at_269) rfl ((if0 _ _).trans (feq (by decide : ¬ ((1 : Int32) = (0 : Int32)))).1) q) ?_
      show own_Go _ _ _ _ _ _ _ (T3.setTop (mkF m 272 #[.val (.int p0), .val (.int p1), .val (.int p2), .val (.int p3), .val (.int za), .val (.int zb), .val (.double sc), .second, .val (.double rp), .second, .val (.double rm), .second, .val (.double (FP.dneg (FP.i2d (p3 &&& (65535 : Int32))))), .second, .val (.ref b1), .val (.double s0), .second, .val (.double ex), .second, .val (.int (1 : Int32))] []))
      refine own_go (fun _ q => XT.dload X3.here hx rfl (hb hby at_272) rfl q) ?_
      show own_Go _ _ _ _ _ _ _ (T3.setTop (mkF m 274 #[.val (.int p0), .val (.int p1), .val (.int p2), .val (.int p3), .val (.int za), .val (.int zb), .val (.double sc), .second, .val (.double rp), .second, .val (.double rm), .second, .val (.double (FP.dneg (FP.i2d (p3 &&& (65535 : Int32))))), .second, .val (.ref b1), .val (.double s0), .second, .val (.double ex), .second, .val (.int (1 : Int32))] [(.double s0)]))
      refine own_go (own_dconst1 X3 hx (g := (mkF m 274 #[.val (.int p0), .val (.int p1), .val (.int p2), .val (.int p3), .val (.int za), .val (.int zb), .val (.double sc), .second, .val (.double rp), .second, .val (.double rm), .second, .val (.double (FP.dneg (FP.i2d (p3 &&& (65535 : Int32))))), .second, .val (.ref b1), .val (.double s0), .second, .val (.double ex), .second, .val (.int (1 : Int32))] [(.double s0)])) rfl (hb hby at_274)) ?_
      show own_Go _ _ _ _ _ _ _ (T3.setTop (mkF m 275 #[.val (.int p0), .val (.int p1), .val (.int p2), .val (.int p3), .val (.int za), .val (.int zb), .val (.double sc), .second, .val (.double rp), .second, .val (.double rm), .second, .val (.double (FP.dneg (FP.i2d (p3 &&& (65535 : Int32))))), .second, .val (.ref b1), .val (.double s0), .second, .val (.double ex), .second, .val (.int (1 : Int32))] [(.double FP.dconst1), (.double s0)]))
      refine own_go (own_dcmp X3 hx (g := (mkF m 275 #[.val (.int p0), .val (.int p1), .val (.int p2), .val (.int p3), .val (.int za), .val (.int zb), .val (.double sc), .second, .val (.double rp), .second, .val (.double rm), .second, .val (.double (FP.dneg (FP.i2d (p3 &&& (65535 : Int32))))), .second, .val (.ref b1), .val (.double s0), .second, .val (.double ex), .second, .val (.int (1 : Int32))] [(.double FP.dconst1), (.double s0)])) rfl (o := .lt) (own_one_lt DS h21 (by omega)) (hb hby at_275) rfl) ?_
      show own_Go _ _ _ _ _ _ _ (T3.setTop (mkF m 276 #[.val (.int p0), .val (.int p1), .val (.int p2), .val (.int p3), .val (.int za), .val (.int zb), .val (.double sc), .second, .val (.double rp), .second, .val (.double rm), .second, .val (.double (FP.dneg (FP.i2d (p3 &&& (65535 : Int32))))), .second, .val (.ref b1), .val (.double s0), .second, .val (.double ex), .second, .val (.int (1 : Int32))] [(.int (-1 : Int32))]))
      refine own_go (fun _ q => XS.ifYes X3.here hx rfl (pc0 := 276) (pc' := 283) rfl (hb hby at_276) rfl ((if0 _ _).trans (feq (by decide : ¬ ((-1 : Int32) = (0 : Int32)))).2) (by decide) (by decide) q) ?_
      show own_Go _ _ _ _ _ _ _ (T3.setTop (mkF m 283 #[.val (.int p0), .val (.int p1), .val (.int p2), .val (.int p3), .val (.int za), .val (.int zb), .val (.double sc), .second, .val (.double rp), .second, .val (.double rm), .second, .val (.double (FP.dneg (FP.i2d (p3 &&& (65535 : Int32))))), .second, .val (.ref b1), .val (.double s0), .second, .val (.double ex), .second, .val (.int (1 : Int32))] []))
      refine own_go (fun _ q => XS.iconst X3.here hx rfl (hb hby at_283) q) ?_
      show own_Go _ _ _ _ _ _ _ (T3.setTop (mkF m 284 #[.val (.int p0), .val (.int p1), .val (.int p2), .val (.int p3), .val (.int za), .val (.int zb), .val (.double sc), .second, .val (.double rp), .second, .val (.double rm), .second, .val (.double (FP.dneg (FP.i2d (p3 &&& (65535 : Int32))))), .second, .val (.ref b1), .val (.double s0), .second, .val (.double ex), .second, .val (.int (1 : Int32))] [(.int (0 : Int32))]))
      refine own_go (fun _ q => XS.iload X3.here hx rfl (hb hby at_284) rfl q) ?_
      show own_Go _ _ _ _ _ _ _ (T3.setTop (mkF m 286 #[.val (.int p0), .val (.int p1), .val (.int p2), .val (.int p3), .val (.int za), .val (.int zb), .val (.double sc), .second, .val (.double rp), .second, .val (.double rm), .second, .val (.double (FP.dneg (FP.i2d (p3 &&& (65535 : Int32))))), .second, .val (.ref b1), .val (.double s0), .second, .val (.double ex), .second, .val (.int (1 : Int32))] [(.int za), (.int (0 : Int32))]))
      refine own_go (fun _ q => XS.ifYes X3.here hx rfl (pc0 := 286) (pc' := 293) rfl (hb hby at_286) rfl ((if0 _ _).trans (feq (own_ne (x := za) (y := 0) (by have e0 : (0 : Int32).toInt = 0 := rfl; omega))).2) (by decide) (by decide) q) ?_
      show own_Go _ _ _ _ _ _ _ (T3.setTop (mkF m 293 #[.val (.int p0), .val (.int p1), .val (.int p2), .val (.int p3), .val (.int za), .val (.int zb), .val (.double sc), .second, .val (.double rp), .second, .val (.double rm), .second, .val (.double (FP.dneg (FP.i2d (p3 &&& (65535 : Int32))))), .second, .val (.ref b1), .val (.double s0), .second, .val (.double ex), .second, .val (.int (1 : Int32))] [(.int (0 : Int32))]))
      refine own_go (fun _ q => XS.iconst X3.here hx rfl (hb hby at_293) q) ?_
      show own_Go _ _ _ _ _ _ _ (T3.setTop (mkF m 294 #[.val (.int p0), .val (.int p1), .val (.int p2), .val (.int p3), .val (.int za), .val (.int zb), .val (.double sc), .second, .val (.double rp), .second, .val (.double rm), .second, .val (.double (FP.dneg (FP.i2d (p3 &&& (65535 : Int32))))), .second, .val (.ref b1), .val (.double s0), .second, .val (.double ex), .second, .val (.int (1 : Int32))] [(.int (0 : Int32)), (.int (0 : Int32))]))
      refine own_go (fun _ q => XS.icmpNo X3.here hx rfl (hb hby at_294) rfl (teq (by decide : (0 : Int32) = (0 : Int32))).2 q) ?_
      show own_Go _ _ _ _ _ _ _ (T3.setTop (mkF m 297 #[.val (.int p0), .val (.int p1), .val (.int p2), .val (.int p3), .val (.int za), .val (.int zb), .val (.double sc), .second, .val (.double rp), .second, .val (.double rm), .second, .val (.double (FP.dneg (FP.i2d (p3 &&& (65535 : Int32))))), .second, .val (.ref b1), .val (.double s0), .second, .val (.double ex), .second, .val (.int (1 : Int32))] []))
      refine own_go (fun _ q => XS.iconst X3.here hx rfl (hb hby at_297) q) ?_
      show own_Go _ _ _ _ _ _ _ (T3.setTop (mkF m 298 #[.val (.int p0), .val (.int p1), .val (.int p2), .val (.int p3), .val (.int za), .val (.int zb), .val (.double sc), .second, .val (.double rp), .second, .val (.double rm), .second, .val (.double (FP.dneg (FP.i2d (p3 &&& (65535 : Int32))))), .second, .val (.ref b1), .val (.double s0), .second, .val (.double ex), .second, .val (.int (1 : Int32))] [(.int (1 : Int32))]))
      refine own_go (fun _ q => XS.goto X3.here hx rfl (pc0 := 298) (pc' := 302) rfl (hb hby at_298) (by decide) (by decide) q) ?_
      show own_Go _ _ _ _ _ _ _ (T3.setTop (mkF m 302 #[.val (.int p0), .val (.int p1), .val (.int p2), .val (.int p3), .val (.int za), .val (.int zb), .val (.double sc), .second, .val (.double rp), .second, .val (.double rm), .second, .val (.double (FP.dneg (FP.i2d (p3 &&& (65535 : Int32))))), .second, .val (.ref b1), .val (.double s0), .second, .val (.double ex), .second, .val (.int (1 : Int32))] [(.int (1 : Int32))]))
      refine own_go (fun _ q => XS.istore X3.here hx rfl (hb hby at_302) rfl (l' := #[.val (.int p0), .val (.int p1), .val (.int p2), .val (.int p3), .val (.int za), .val (.int zb), .val (.double sc), .second, .val (.double rp), .second, .val (.double rm), .second, .val (.double (FP.dneg (FP.i2d (p3 &&& (65535 : Int32))))), .second, .val (.ref b1), .val (.double s0), .second, .val (.double ex), .second, .val (.int (1 : Int32))]) rfl q) ?_
      show own_Go _ _ _ _ _ _ _ (T3.setTop (mkF m 304 #[.val (.int p0), .val (.int p1), .val (.int p2), .val (.int p3), .val (.int za), .val (.int zb), .val (.double sc), .second, .val (.double rp), .second, .val (.double rm), .second, .val (.double (FP.dneg (FP.i2d (p3 &&& (65535 : Int32))))), .second, .val (.ref b1), .val (.double s0), .second, .val (.double ex), .second, .val (.int (1 : Int32))] []))
      refine own_go (fun _ q => XS.iload X3.here hx rfl (hb hby at_304) rfl q) ?_
      show own_Go _ _ _ _ _ _ _ (T3.setTop (mkF m 306 #[.val (.int p0), .val (.int p1), .val (.int p2), .val (.int p3), .val (.int za), .val (.int zb), .val (.double sc), .second, .val (.double rp), .second, .val (.double rm), .second, .val (.double (FP.dneg (FP.i2d (p3 &&& (65535 : Int32))))), .second, .val (.ref b1), .val (.double s0), .second, .val (.double ex), .second, .val (.int (1 : Int32))] [(.int (1 : Int32))]))
      exact own_retZ X3 hx hlk hret (hb hby at_306) (by decide) (by decide) (by decide) ⟨rfl, N3⟩
    · refine own_go (own_dcmp X3 hx (g := (mkF m 130 #[.val (.int p0), .val (.int p1), .val (.int p2), .val (.int p3), .val (.int za), .val (.int zb), .val (.double sc), .second, .val (.double rp), .second, .val (.double rm), .second, .val (.double (FP.dneg (FP.i2d (p3 &&& (65535 : Int32))))), .second, .val (.ref b1), .val (.double s0), .second, .val (.double ex), .second, .val (.int (1 : Int32))] [(.double s0), (.double FP.dconst0)])) rfl (o := .lt) (own_zero_gt DS hn0 h21 (by omega)).2 (hb hby at_130) rfl) ?_
      show own_Go _ _ _ _ _ _ _ (T3.setTop (mkF m 131 #[.val (.int p0), .val (.int p1), .val (.int p2), .val (.int p3), .val (.int za), .val (.int zb), .val (.double sc), .second, .val (.double rp), .second, .val (.double rm), .second, .val (.double (FP.dneg (FP.i2d (p3 &&& (65535 : Int32))))), .second, .val (.ref b1), .val (.double s0), .second, .val (.double ex), .second, .val (.int (1 : Int32))] [(.int (-1 : Int32))]))
      refine own_go (fun _ q => XS.ifNo X3.here hx rfl (hb hby at_131) rfl ((if0 _ _).trans (flt (by decide : ¬ ((0 : Int32) < (-1 : Int32)))).2.2.1) q) ?_
      show own_Go _ _ _ _ _ _ _ (T3.setTop (mkF m 134 #[.val (.int p0), .val (.int p1), .val (.int p2), .val (.int p3), .val (.int za), .val (.int zb), .val (.double sc), .second, .val (.double rp), .second, .val (.double rm), .second, .val (.double (FP.dneg (FP.i2d (p3 &&& (65535 : Int32))))), .second, .val (.ref b1), .val (.double s0), .second, .val (.double ex), .second, .val (.int (1 : Int32))] []))
      refine own_go (fun _ q => XT.dload X3.here hx rfl (hb hby at_134) rfl q) ?_
      show own_Go _ _ _ _ _ _ _ (T3.setTop (mkF m 136 #[.val (.int p0), .val (.int p1), .val (.int p2), .val (.int p3), .val (.int za), .val (.int zb), .val (.double sc), .second, .val (.double rp), .second, .val (.double rm), .second, .val (.double (FP.dneg (FP.i2d (p3 &&& (65535 : Int32))))), .second, .val (.ref b1), .val (.double s0), .second, .val (.double ex), .second, .val (.int (1 : Int32))] [(.double s0)]))
      refine own_go (own_dconst1 X3 hx (g := (mkF m 136 #[.val (.int p0), .val (.int p1), .val (.int p2), .val (.int p3), .val (.int za), .val (.int zb), .val (.double sc), .second, .val (.double rp), .second, .val (.double rm), .second, .val (.double (FP.dneg (FP.i2d (p3 &&& (65535 : Int32))))), .second, .val (.ref b1), .val (.double s0), .second, .val (.double ex), .second, .val (.int (1 : Int32))] [(.double s0)])) rfl (hb hby at_136)) ?_
      show own_Go _ _ _ _ _ _ _ (T3.setTop (mkF m 137 #[.val (.int p0), .val (.int p1), .val (.int p2), .val (.int p3), .val (.int za), .val (.int zb), .val (.double sc), .second, .val (.double rp), .second, .val (.double rm), .second, .val (.double (FP.dneg (FP.i2d (p3 &&& (65535 : Int32))))), .second, .val (.ref b1), .val (.double s0), .second, .val (.double ex), .second, .val (.int (1 : Int32))] [(.double FP.dconst1), (.double s0)]))
      refine own_go (own_dcmp X3 hx (g := (mkF m 137 #[.val (.int p0), .val (.int p1), .val (.int p2), .val (.int p3), .val (.int za), .val (.int zb), .val (.double sc), .second, .val (.double rp), .second, .val (.double rm), .second, .val (.double (FP.dneg (FP.i2d (p3 &&& (65535 : Int32))))), .second, .val (.ref b1), .val (.double s0), .second, .val (.double ex), .second, .val (.int (1 : Int32))] [(.double FP.dconst1), (.double s0)])) rfl (o := .lt) (own_one_lt DS h21 (by omega)) (hb hby at_137) rfl) ?_
      show own_Go _ _ _ _ _ _ _ (T3.setTop (mkF m 138 #[.val (.int p0), .val (.int p1), .val (.int p2), .val (.int p3), .val (.int za), .val (.int zb), .val (.double sc), .second, .val (.double rp), .second, .val (.double rm), .second, .val (.double (FP.dneg (FP.i2d (p3 &&& (65535 : Int32))))), .second, .val (.ref b1), .val (.double s0), .second, .val (.double ex), .second, .val (.int (1 : Int32))] [(.int (-1 : Int32))]))
      refine own_go (fun _ q => XS.ifNo X3.here hx rfl (hb hby at_138) rfl ((if0 _ _).trans (flt (by decide : ¬ ((0 : Int32) < (-1 : Int32)))).2.2.1) q) ?_
      show own_Go _ _ _ _ _ _ _ (T3.setTop (mkF m 141 #[.val (.int p0), .val (.int p1), .val (.int p2), .val (.int p3), .val (.int za), .val (.int zb), .val (.double sc), .second, .val (.double rp), .second, .val (.double rm), .second, .val (.double (FP.dneg (FP.i2d (p3 &&& (65535 : Int32))))), .second, .val (.ref b1), .val (.double s0), .second, .val (.double ex), .second, .val (.int (1 : Int32))] []))
      refine own_go (fun _ q => XS.iconst X3.here hx rfl (hb hby at_141) q) ?_
      show own_Go _ _ _ _ _ _ _ (T3.setTop (mkF m 142 #[.val (.int p0), .val (.int p1), .val (.int p2), .val (.int p3), .val (.int za), .val (.int zb), .val (.double sc), .second, .val (.double rp), .second, .val (.double rm), .second, .val (.double (FP.dneg (FP.i2d (p3 &&& (65535 : Int32))))), .second, .val (.ref b1), .val (.double s0), .second, .val (.double ex), .second, .val (.int (1 : Int32))] [(.int (1 : Int32))]))
      refine own_go (fun _ q => XS.goto X3.here hx rfl (pc0 := 142) (pc' := 146) rfl (hb hby at_142) (by decide) (by decide) q) ?_
      show own_Go _ _ _ _ _ _ _ (T3.setTop (mkF m 146 #[.val (.int p0), .val (.int p1), .val (.int p2), .val (.int p3), .val (.int za), .val (.int zb), .val (.double sc), .second, .val (.double rp), .second, .val (.double rm), .second, .val (.double (FP.dneg (FP.i2d (p3 &&& (65535 : Int32))))), .second, .val (.ref b1), .val (.double s0), .second, .val (.double ex), .second, .val (.int (1 : Int32))] [(.int (1 : Int32))]))
      refine own_go (fun _ q => XS.istore X3.here hx rfl (hb hby at_146) rfl (l' := #[.val (.int p0), .val (.int p1), .val (.int p2), .val (.int p3), .val (.int za), .val (.int zb), .val (.double sc), .second, .val (.double rp), .second, .val (.double rm), .second, .val (.double (FP.dneg (FP.i2d (p3 &&& (65535 : Int32))))), .second, .val (.ref b1), .val (.double s0), .second, .val (.double ex), .second, .val (.int (1 : Int32))]) rfl q) ?_
      show own_Go _ _ _ _ _ _ _ (T3.setTop (mkF m 148 #[.val (.int p0), .val (.int p1), .val (.int p2), .val (.int p3), .val (.int za), .val (.int zb), .val (.double sc), .second, .val (.double rp), .second, .val (.double rm), .second, .val (.double (FP.dneg (FP.i2d (p3 &&& (65535 : Int32))))), .second, .val (.ref b1), .val (.double s0), .second, .val (.double ex), .second, .val (.int (1 : Int32))] []))
      refine own_go (fun _ q => XS.iload X3.here hx rfl (hb hby at_148) rfl q) ?_
      show own_Go _ _ _ _ _ _ _ (T3.setTop (mkF m 150 #[.val (.int p0), .val (.int p1), .val (.int p2), .val (.int p3), .val (.int za), .val (.int zb), .val (.double sc), .second, .val (.double rp), .second, .val (.double rm), .second, .val (.double (FP.dneg (FP.i2d (p3 &&& (65535 : Int32))))), .second, .val (.ref b1), .val (.double s0), .second, .val (.double ex), .second, .val (.int (1 : Int32))] [(.int (1 : Int32))]))
      refine own_go (fun _ q => XS.ifNo X3.here hx rfl (hb hby at_150) rfl ((if0 _ _).trans (feq (by decide : ¬ ((1 : Int32) = (0 : Int32)))).1) q) ?_
      show own_Go _ _ _ _ _ _ _ (T3.setTop (mkF m 153 #[.val (.int p0), .val (.int p1), .val (.int p2), .val (.int p3), .val (.int za), .val (.int zb), .val (.double sc), .second, .val (.double rp), .second, .val (.double rm), .second, .val (.double (FP.dneg (FP.i2d (p3 &&& (65535 : Int32))))), .second, .val (.ref b1), .val (.double s0), .second, .val (.double ex), .second, .val (.int (1 : Int32))] []))
      refine own_go (fun _ q => XT.dload X3.here hx rfl (hb hby at_153) rfl q) ?_
      show own_Go _ _ _ _ _ _ _ (T3.setTop (mkF m 155 #[.val (.int p0), .val (.int p1), .val (.int p2), .val (.int p3), .val (.int za), .val (.int zb), .val (.double sc), .second, .val (.double rp), .second, .val (.double rm), .second, .val (.double (FP.dneg (FP.i2d (p3 &&& (65535 : Int32))))), .second, .val (.ref b1), .val (.double s0), .second, .val (.double ex), .second, .val (.int (1 : Int32))] [(.double s0)]))
      refine own_go (X3.ldc2DoubleC hx hown (mvT hZ (hw _ (List.mem_of_getElem? (i := 1) rfl))) (g := (mkF m 155 #[.val (.int p0), .val (.int p1), .val (.int p2), .val (.int p3), .val (.int za), .val (.int zb), .val (.double sc), .second, .val (.double rp), .second, .val (.double rm), .second, .val (.double (FP.dneg (FP.i2d (p3 &&& (65535 : Int32))))), .second, .val (.ref b1), .val (.double s0), .second, .val (.double ex), .second, .val (.int (1 : Int32))] [(.double s0)])) rfl (hb hby at_155)) ?_
      show own_Go _ _ _ _ _ _ _ (T3.setTop (mkF m 158 #[.val (.int p0), .val (.int p1), .val (.int p2), .val (.int p3), .val (.int za), .val (.int zb), .val (.double sc), .second, .val (.double rp), .second, .val (.double rm), .second, .val (.double (FP.dneg (FP.i2d (p3 &&& (65535 : Int32))))), .second, .val (.ref b1), .val (.double s0), .second, .val (.double ex), .second, .val (.int (1 : Int32))] [(.double (4602678819172646912 : UInt64)), (.double s0)]))
      refine own_go (own_dcmp X3 hx (g := (mkF m 158 #[.val (.int p0), .val (.int p1), .val (.int p2), .val (.int p3), .val (.int za), .val (.int zb), .val (.double sc), .second, .val (.double rp), .second, .val (.double rm), .second, .val (.double (FP.dneg (FP.i2d (p3 &&& (65535 : Int32))))), .second, .val (.ref b1), .val (.double s0), .second, .val (.double ex), .second, .val (.int (1 : Int32))] [(.double (4602678819172646912 : UInt64)), (.double s0)])) rfl (o := .gt) (own_half_gt DS rfl h21 (by omega)) (hb hby at_158) rfl) ?_
      show own_Go _ _ _ _ _ _ _ (T3.setTop (mkF m 159 #[.val (.int p0), .val (.int p1), .val (.int p2), .val (.int p3), .val (.int za), .val (.int zb), .val (.double sc), .second, .val (.double rp), .second, .val (.double rm), .second, .val (.double (FP.dneg (FP.i2d (p3 &&& (65535 : Int32))))), .second, .val (.ref b1), .val (.double s0), .second, .val (.double ex), .second, .val (.int (1 : Int32))] [(.int (1 : Int32))]))
      refine own_go (fun _ q => XS.ifYes X3.here hx rfl (pc0 := 159) (pc' := 166) rfl (hb hby at_159) rfl ((if0 _ _).trans (flt (by decide : ¬ ((1 : Int32) < (0 : Int32)))).2.1) (by decide) (by decide) q) ?_
      show own_Go _ _ _ _ _ _ _ (T3.setTop (mkF m 166 #[.val (.int p0), .val (.int p1), .val (.int p2), .val (.int p3), .val (.int za), .val (.int zb), .val (.double sc), .second, .val (.double rp), .second, .val (.double rm), .second, .val (.double (FP.dneg (FP.i2d (p3 &&& (65535 : Int32))))), .second, .val (.ref b1), .val (.double s0), .second, .val (.double ex), .second, .val (.int (1 : Int32))] []))
      refine own_go (fun _ q => XS.iconst X3.here hx rfl (hb hby at_166) q) ?_
      show own_Go _ _ _ _ _ _ _ (T3.setTop (mkF m 167 #[.val (.int p0), .val (.int p1), .val (.int p2), .val (.int p3), .val (.int za), .val (.int zb), .val (.double sc), .second, .val (.double rp), .second, .val (.double rm), .second, .val (.double (FP.dneg (FP.i2d (p3 &&& (65535 : Int32))))), .second, .val (.ref b1), .val (.double s0), .second, .val (.double ex), .second, .val (.int (1 : Int32))] [(.int (0 : Int32))]))
      refine own_go (fun _ q => XS.iload X3.here hx rfl (hb hby at_167) rfl q) ?_
      show own_Go _ _ _ _ _ _ _ (T3.setTop (mkF m 169 #[.val (.int p0), .val (.int p1), .val (.int p2), .val (.int p3), .val (.int za), .val (.int zb), .val (.double sc), .second, .val (.double rp), .second, .val (.double rm), .second, .val (.double (FP.dneg (FP.i2d (p3 &&& (65535 : Int32))))), .second, .val (.ref b1), .val (.double s0), .second, .val (.double ex), .second, .val (.int (1 : Int32))] [(.int zb), (.int (0 : Int32))]))
      refine own_go (fun _ q => XS.iload X3.here hx rfl (hb hby at_169) rfl q) ?_
      show own_Go _ _ _ _ _ _ _ (T3.setTop (mkF m 171 #[.val (.int p0), .val (.int p1), .val (.int p2), .val (.int p3), .val (.int za), .val (.int zb), .val (.double sc), .second, .val (.double rp), .second, .val (.double rm), .second, .val (.double (FP.dneg (FP.i2d (p3 &&& (65535 : Int32))))), .second, .val (.ref b1), .val (.double s0), .second, .val (.double ex), .second, .val (.int (1 : Int32))] [(.int za), (.int zb), (.int (0 : Int32))]))
      refine own_go (fun _ q => XS.icmpYes X3.here hx rfl (pc0 := 171) (pc' := 178) rfl (hb hby at_171) rfl (flt (own_nlt (x := zb) (y := za) (by omega))).2.1 (by decide) (by decide) q) ?_
      show own_Go _ _ _ _ _ _ _ (T3.setTop (mkF m 178 #[.val (.int p0), .val (.int p1), .val (.int p2), .val (.int p3), .val (.int za), .val (.int zb), .val (.double sc), .second, .val (.double rp), .second, .val (.double rm), .second, .val (.double (FP.dneg (FP.i2d (p3 &&& (65535 : Int32))))), .second, .val (.ref b1), .val (.double s0), .second, .val (.double ex), .second, .val (.int (1 : Int32))] [(.int (0 : Int32))]))
      refine own_go (fun _ q => XS.iconst X3.here hx rfl (hb hby at_178) q) ?_
      show own_Go _ _ _ _ _ _ _ (T3.setTop (mkF m 179 #[.val (.int p0), .val (.int p1), .val (.int p2), .val (.int p3), .val (.int za), .val (.int zb), .val (.double sc), .second, .val (.double rp), .second, .val (.double rm), .second, .val (.double (FP.dneg (FP.i2d (p3 &&& (65535 : Int32))))), .second, .val (.ref b1), .val (.double s0), .second, .val (.double ex), .second, .val (.int (1 : Int32))] [(.int (0 : Int32)), (.int (0 : Int32))]))
      refine own_go (fun _ q => XS.icmpNo X3.here hx rfl (hb hby at_179) rfl (teq (by decide : (0 : Int32) = (0 : Int32))).2 q) ?_
      show own_Go _ _ _ _ _ _ _ (T3.setTop (mkF m 182 #[.val (.int p0), .val (.int p1), .val (.int p2), .val (.int p3), .val (.int za), .val (.int zb), .val (.double sc), .second, .val (.double rp), .second, .val (.double rm), .second, .val (.double (FP.dneg (FP.i2d (p3 &&& (65535 : Int32))))), .second, .val (.ref b1), .val (.double s0), .second, .val (.double ex), .second, .val (.int (1 : Int32))] []))
      refine own_go (fun _ q => XS.iconst X3.here hx rfl (hb hby at_182) q) ?_
      show own_Go _ _ _ _ _ _ _ (T3.setTop (mkF m 183 #[.val (.int p0), .val (.int p1), .val (.int p2), .val (.int p3), .val (.int za), .val (.int zb), .val (.double sc), .second, .val (.double rp), .second, .val (.double rm), .second, .val (.double (FP.dneg (FP.i2d (p3 &&& (65535 : Int32))))), .second, .val (.ref b1), .val (.double s0), .second, .val (.double ex), .second, .val (.int (1 : Int32))] [(.int (1 : Int32))]))
      refine own_go (fun _ q => XS.goto X3.here hx rfl (pc0 := 183) (pc' := 187) rfl (hb hby at_183) (by decide) (by decide) q) ?_
      show own_Go _ _ _ _ _ _ _ (T3.setTop (mkF m 187 #[.val (.int p0), .val (.int p1), .val (.int p2), .val (.int p3), .val (.int za), .val (.int zb), .val (.double sc), .second, .val (.double rp), .second, .val (.double rm), .second, .val (.double (FP.dneg (FP.i2d (p3 &&& (65535 : Int32))))), .second, .val (.ref b1), .val (.double s0), .second, .val (.double ex), .second, .val (.int (1 : Int32))] [(.int (1 : Int32))]))
      refine own_go (fun _ q => XS.istore X3.here hx rfl (hb hby at_187) rfl (l' := #[.val (.int p0), .val (.int p1), .val (.int p2), .val (.int p3), .val (.int za), .val (.int zb), .val (.double sc), .second, .val (.double rp), .second, .val (.double rm), .second, .val (.double (FP.dneg (FP.i2d (p3 &&& (65535 : Int32))))), .second, .val (.ref b1), .val (.double s0), .second, .val (.double ex), .second, .val (.int (1 : Int32))]) rfl q) ?_
      show own_Go _ _ _ _ _ _ _ (T3.setTop (mkF m 189 #[.val (.int p0), .val (.int p1), .val (.int p2), .val (.int p3), .val (.int za), .val (.int zb), .val (.double sc), .second, .val (.double rp), .second, .val (.double rm), .second, .val (.double (FP.dneg (FP.i2d (p3 &&& (65535 : Int32))))), .second, .val (.ref b1), .val (.double s0), .second, .val (.double ex), .second, .val (.int (1 : Int32))] []))
      refine own_go (fun _ q => XS.iload X3.here hx rfl (hb hby at_189) rfl q) ?_
      show own_Go _ _ _ _ _ _ _ (T3.setTop (mkF m 191 #[.val (.int p0), .val (.int p1), .val (.int p2), .val (.int p3), .val (.int za), .val (.int zb), .val (.double sc), .second, .val (.double rp), .second, .val (.double rm), .second, .val (.double (FP.dneg (FP.i2d (p3 &&& (65535 : Int32))))), .second, .val (.ref b1), .val (.double s0), .second, .val (.double ex), .second, .val (.int (1 : Int32))] [(.int (1 : Int32))]))
      refine own_go (fun _ q => XS.ifNo X3.here hx rfl (hb hby at_191) rfl ((if0 _ _).trans (feq (by decide : ¬ ((1 : Int32) = (0 : Int32)))).1) q) ?_
      show own_Go _ _ _ _ _ _ _ (T3.setTop (mkF m 194 #[.val (.int p0), .val (.int p1), .val (.int p2), .val (.int p3), .val (.int za), .val (.int zb), .val (.double sc), .second, .val (.double rp), .second, .val (.double rm), .second, .val (.double (FP.dneg (FP.i2d (p3 &&& (65535 : Int32))))), .second, .val (.ref b1), .val (.double s0), .second, .val (.double ex), .second, .val (.int (1 : Int32))] []))
      refine own_go (fun _ q => XT.dload X3.here hx rfl (hb hby at_194) rfl q) ?_
      show own_Go _ _ _ _ _ _ _ (T3.setTop (mkF m 196 #[.val (.int p0), .val (.int p1), .val (.int p2), .val (.int p3), .val (.int za), .val (.int zb), .val (.double sc), .second, .val (.double rp), .second, .val (.double rm), .second, .val (.double (FP.dneg (FP.i2d (p3 &&& (65535 : Int32))))), .second, .val (.ref b1), .val (.double s0), .second, .val (.double ex), .second, .val (.int (1 : Int32))] [(.double s0)]))
      refine own_go (X3.ldc2DoubleC hx hown (mvT hZ (hw _ (List.mem_of_getElem? (i := 1) rfl))) (g := (mkF m 196 #[.val (.int p0), .val (.int p1), .val (.int p2), .val (.int p3), .val (.int za), .val (.int zb), .val (.double sc), .second, .val (.double rp), .second, .val (.double rm), .second, .val (.double (FP.dneg (FP.i2d (p3 &&& (65535 : Int32))))), .second, .val (.ref b1), .val (.double s0), .second, .val (.double ex), .second, .val (.int (1 : Int32))] [(.double s0)])) rfl (hb hby at_196)) ?_
      show own_Go _ _ _ _ _ _ _ (T3.setTop (mkF m 199 #[.val (.int p0), .val (.int p1), .val (.int p2), .val (.int p3), .val (.int za), .val (.int zb), .val (.double sc), .second, .val (.double rp), .second, .val (.double rm), .second, .val (.double (FP.dneg (FP.i2d (p3 &&& (65535 : Int32))))), .second, .val (.ref b1), .val (.double s0), .second, .val (.double ex), .second, .val (.int (1 : Int32))] [(.double (4602678819172646912 : UInt64)), (.double s0)]))
      refine own_go (own_dcmp X3 hx (g := (mkF m 199 #[.val (.int p0), .val (.int p1), .val (.int p2), .val (.int p3), .val (.int za), .val (.int zb), .val (.double sc), .second, .val (.double rp), .second, .val (.double rm), .second, .val (.double (FP.dneg (FP.i2d (p3 &&& (65535 : Int32))))), .second, .val (.ref b1), .val (.double s0), .second, .val (.double ex), .second, .val (.int (1 : Int32))] [(.double (4602678819172646912 : UInt64)), (.double s0)])) rfl (o := .gt) (own_half_gt DS rfl h21 (by omega)) (hb hby at_199) rfl) ?_
      show own_Go _ _ _ _ _ _ _ (T3.setTop (mkF m 200 #[.val (.int p0), .val (.int p1), .val (.int p2), .val (.int p3), .val (.int za), .val (.int zb), .val (.double sc), .second, .val (.double rp), .second, .val (.double rm), .second, .val (.double (FP.dneg (FP.i2d (p3 &&& (65535 : Int32))))), .second, .val (.ref b1), .val (.double s0), .second, .val (.double ex), .second, .val (.int (1 : Int32))] [(.int (1 : Int32))]))
      refine own_go (fun _ q => XS.ifYes X3.here hx rfl (pc0 := 200) (pc' := 207) rfl (hb hby at_200) rfl ((if0 _ _).trans (feq (by decide : ¬ ((1 : Int32) = (0 : Int32)))).2) (by decide) (by decide) q) ?_
      show own_Go _ _ _ _ _ _ _ (T3.setTop (mkF m 207 #[.val (.int p0), .val (.int p1), .val (.int p2), .val (.int p3), .val (.int za), .val (.int zb), .val (.double sc), .second, .val (.double rp), .second, .val (.double rm), .second, .val (.double (FP.dneg (FP.i2d (p3 &&& (65535 : Int32))))), .second, .val (.ref b1), .val (.double s0), .second, .val (.double ex), .second, .val (.int (1 : Int32))] []))
      refine own_go (fun _ q => XS.iconst X3.here hx rfl (hb hby at_207) q) ?_
      show own_Go _ _ _ _ _ _ _ (T3.setTop (mkF m 208 #[.val (.int p0), .val (.int p1), .val (.int p2), .val (.int p3), .val (.int za), .val (.int zb), .val (.double sc), .second, .val (.double rp), .second, .val (.double rm), .second, .val (.double (FP.dneg (FP.i2d (p3 &&& (65535 : Int32))))), .second, .val (.ref b1), .val (.double s0), .second, .val (.double ex), .second, .val (.int (1 : Int32))] [(.int (0 : Int32))]))
      refine own_go (fun _ q => XS.iload X3.here hx rfl (hb hby at_208) rfl q) ?_
      show own_Go _ _ _ _ _ _ _ (T3.setTop (mkF m 210 #[.val (.int p0), .val (.int p1), .val (.int p2), .val (.int p3), .val (.int za), .val (.int zb), .val (.double sc), .second, .val (.double rp), .second, .val (.double rm), .second, .val (.double (FP.dneg (FP.i2d (p3 &&& (65535 : Int32))))), .second, .val (.ref b1), .val (.double s0), .second, .val (.double ex), .second, .val (.int (1 : Int32))] [(.int za), (.int (0 : Int32))]))
      refine own_go (fun _ q => XS.iload X3.here hx rfl (hb hby at_210) rfl q) ?_
      show own_Go _ _ _ _ _ _ _ (T3.setTop (mkF m 212 #[.val (.int p0), .val (.int p1), .val (.int p2), .val (.int p3), .val (.int za), .val (.int zb), .val (.double sc), .second, .val (.double rp), .second, .val (.double rm), .second, .val (.double (FP.dneg (FP.i2d (p3 &&& (65535 : Int32))))), .second, .val (.ref b1), .val (.double s0), .second, .val (.double ex), .second, .val (.int (1 : Int32))] [(.int zb), (.int za), (.int (0 : Int32))]))
      refine own_go (fun _ q => XS.icmpYes X3.here hx rfl (pc0 := 212) (pc' := 219) rfl (hb hby at_212) rfl (feq (own_ne (x := za) (y := zb) (by have e0 : (0 : Int32).toInt = 0 := rfl; omega))).2 (by decide) (by decide) q) ?_
      show own_Go _ _ _ _ _ _ _ (T3.setTop (mkF m 219 #[.val (.int p0), .val (.int p1), .val (.int p2), .val (.int p3), .val (.int za), .val (.int zb), .val (.double sc), .second, .val (.double rp), .second, .val (.double rm), .second, .val (.double (FP.dneg (FP.i2d (p3 &&& (65535 : Int32))))), .second, .val (.ref b1), .val (.double s0), .second, .val (.double ex), .second, .val (.int (1 : Int32))] [(.int (0 : Int32))]))
      refine own_go (fun _ q => XS.iconst X3.here hx rfl (hb hby at_219) q) ?_
      show own_Go _ _ _ _ _ _ _ (T3.setTop (mkF m 220 #[.val (.int p0), .val (.int p1), .val (.int p2), .val (.int p3), .val (.int za), .val (.int zb), .val (.double sc), .second, .val (.double rp), .second, .val (.double rm), .second, .val (.double (FP.dneg (FP.i2d (p3 &&& (65535 : Int32))))), .second, .val (.ref b1), .val (.double s0), .second, .val (.double ex), .second, .val (.int (1 : Int32))] [(.int (0 : Int32)), (.int (0 : Int32))]))
      refine own_go (fun _ q => XS.icmpNo X3.here hx rfl (hb hby at_220) rfl (teq (by decide : (0 : Int32) = (0 : Int32))).2 q) ?_
      show own_Go _ _ _ _ _ _ _ (T3.setTop (mkF m 223 #[.val (.int p0), .val (.int p1), .val (.int p2), .val (.int p3), .val (.int za), .val (.int zb), .val (.double sc), .second, .val (.double rp), .second, .val (.double rm), .second, .val (.double (FP.dneg (FP.i2d (p3 &&& (65535 : Int32))))), .second, .val (.ref b1), .val (.double s0), .second, .val (.double ex), .second, .val (.int (1 : Int32))] []))
      refine own_go (fun _ q => XS.iconst X3.here hx rfl (hb hby at_223) q) ?_
      show own_Go _ _ _ _ _ _ _ (T3.setTop (mkF m 224 #[.val (.int p0), .val (.int p1), .val (.int p2), .val (.int p3), .val (.int za), .val (.int zb), .val (.double sc), .second, .val (.double rp), .second, .val (.double rm), .second, .val (.double (FP.dneg (FP.i2d (p3 &&& (65535 : Int32))))), .second, .val (.ref b1), .val (.double s0), .second, .val (.double ex), .second, .val (.int (1 : Int32))] [(.int (1 : Int32))]))
      refine own_go (fun _ q => XS.goto X3.here hx rfl (pc0 := 224) (pc' := 228) rfl (hb hby at_224) (by decide) (by decide) q) ?_
      show own_Go _ _ _ _ _ _ _ (T3.setTop (mkF m 228 #[.val (.int p0), .val (.int p1), .val (.int p2), .val (.int p3), .val (.int za), .val (.int zb), .val (.double sc), .second, .val (.double rp), .second, .val (.double rm), .second, .val (.double (FP.dneg (FP.i2d (p3 &&& (65535 : Int32))))), .second, .val (.ref b1), .val (.double s0), .second, .val (.double ex), .second, .val (.int (1 : Int32))] [(.int (1 : Int32))]))
      refine own_go (fun _ q => XS.istore X3.here hx rfl (hb hby at_228) rfl (l' := #[.val (.int p0), .val (.int p1), .val (.int p2), .val (.int p3), .val (.int za), .val (.int zb), .val (.double sc), .second, .val (.double rp), .second, .val (.double rm), .second, .val (.double (FP.dneg (FP.i2d (p3 &&& (65535 : Int32))))), .second, .val (.ref b1), .val (.double s0), .second, .val (.double ex), .second, .val (.int (1 : Int32))]) rfl q) ?_
      show own_Go _ _ _ _ _ _ _ (T3.setTop (mkF m 230 #[.val (.int p0), .val (.int p1), .val (.int p2), .val (.int p3), .val (.int za), .val (.int zb), .val (.double sc), .second, .val (.double rp), .second, .val (.double rm), .second, .val (.double (FP.dneg (FP.i2d (p3 &&& (65535 : Int32))))), .second, .val (.ref b1), .val (.double s0), .second, .val (.double ex), .second, .val (.int (1 : Int32))] []))
      refine own_go (fun _ q => XS.iload X3.here hx rfl (hb hby at_230) rfl q) ?_
      show own_Go _ _ _ _ _ _ _ (T3.setTop (mkF m 232 #[.val (.int p0), .val (.int p1), .val (.int p2), .val (.int p3), .val (.int za), .val (.int zb), .val (.double sc), .second, .val (.double rp), .second, .val (.double rm), .second, .val (.double (FP.dneg (FP.i2d (p3 &&& (65535 : Int32))))), .second, .val (.ref b1), .val (.double s0), .second, .val (.double ex), .second, .val (.int (1 : Int32))] [(.int (1 : Int32))]))
      refine own_go (fun _ q => XS.ifNo X3.here hx rfl (hb hby at_232) rfl ((if0 _ _).trans (feq (by decide : ¬ ((1 : Int32) = (0 : Int32)))).1) q) ?_
      show own_Go _ _ _ _ _ _ _ (T3.setTop (mkF m 235 #[.val (.int p0), .val (.int p1), .val (.int p2), .val (.int p3), .val (.int za), .val (.int zb), .val (.double sc), .second, .val (.double rp), .second, .val (.double rm), .second, .val (.double (FP.dneg (FP.i2d (p3 &&& (65535 : Int32))))), .second, .val (.ref b1), .val (.double s0), .second, .val (.double ex), .second, .val (.int (1 : Int32))] []))
      refine own_go (fun _ q => XT.dload X3.here hx rfl (hb hby at_235) rfl q) ?_
      show own_Go _ _ _ _ _ _ _ (T3.setTop (mkF m 237 #[.val (.int p0), .val (.int p1), .val (.int p2), .val (.int p3), .val (.int za), .val (.int zb), .val (.double sc), .second, .val (.double rp), .second, .val (.double rm), .second, .val (.double (FP.dneg (FP.i2d (p3 &&& (65535 : Int32))))), .second, .val (.ref b1), .val (.double s0), .second, .val (.double ex), .second, .val (.int (1 : Int32))] [(.double s0)]))
      refine own_go (own_dconst0 X3 hx (g := (mkF m 237 #[.val (.int p0), .val (.int p1), .val (.int p2), .val (.int p3), .val (.int za), .val (.int zb), .val (.double sc), .second, .val (.double rp), .second, .val (.double rm), .second, .val (.double (FP.dneg (FP.i2d (p3 &&& (65535 : Int32))))), .second, .val (.ref b1), .val (.double s0), .second, .val (.double ex), .second, .val (.int (1 : Int32))] [(.double s0)])) rfl (hb hby at_237)) ?_
      show own_Go _ _ _ _ _ _ _ (T3.setTop (mkF m 238 #[.val (.int p0), .val (.int p1), .val (.int p2), .val (.int p3), .val (.int za), .val (.int zb), .val (.double sc), .second, .val (.double rp), .second, .val (.double rm), .second, .val (.double (FP.dneg (FP.i2d (p3 &&& (65535 : Int32))))), .second, .val (.ref b1), .val (.double s0), .second, .val (.double ex), .second, .val (.int (1 : Int32))] [(.double FP.dconst0), (.double s0)]))
      refine own_go (own_dcmp X3 hx (g := (mkF m 238 #[.val (.int p0), .val (.int p1), .val (.int p2), .val (.int p3), .val (.int za), .val (.int zb), .val (.double sc), .second, .val (.double rp), .second, .val (.double rm), .second, .val (.double (FP.dneg (FP.i2d (p3 &&& (65535 : Int32))))), .second, .val (.ref b1), .val (.double s0), .second, .val (.double ex), .second, .val (.int (1 : Int32))] [(.double FP.dconst0), (.double s0)])) rfl (o := .gt) (own_zero_gt DS hn0 h21 (by omega)).1 (hb hby at_238) rfl) ?_
      show own_Go _ _ _ _ _ _ _ (T3.setTop (mkF m 239 #[.val (.int p0), .val (.int p1), .val (.int p2), .val (.int p3), .val (.int za), .val (.int zb), .val (.double sc), .second, .val (.double rp), .second, .val (.double rm), .second, .val (.double (FP.dneg (FP.i2d (p3 &&& (65535 : Int32))))), .second, .val (.ref b1), .val (.double s0), .second, .val (.double ex), .second, .val (.int (1 : Int32))] [(.int (1 : Int32))]))
      refine own_go (fun _ q => XS.ifYes X3.here hx rfl (pc0 := 239) (pc' := 246) rfl (hb hby at_239) rfl ((if0 _ _).trans (feq (by decide : ¬ ((1 : Int32) = (0 : Int32)))).2) (by decide) (by decide) q) ?_
      show own_Go _ _ _ _ _ _ _ (T3.setTop (mkF m 246 #[.val (.int p0), .val (.int p1), .val (.int p2), .val (.int p3), .val (.int za), .val (.int zb), .val (.double sc), .second, .val (.double rp), .second, .val (.double rm), .second, .val (.double (FP.dneg (FP.i2d (p3 &&& (65535 : Int32))))), .second, .val (.ref b1), .val (.double s0), .second, .val (.double ex), .second, .val (.int (1 : Int32))] []))
      refine own_go (fun _ q => XS.iconst X3.here hx rfl (hb hby at_246) q) ?_
      show own_Go _ _ _ _ _ _ _ (T3.setTop (mkF m 247 #[.val (.int p0), .val (.int p1), .val (.int p2), .val (.int p3), .val (.int za), .val (.int zb), .val (.double sc), .second, .val (.double rp), .second, .val (.double rm), .second, .val (.double (FP.dneg (FP.i2d (p3 &&& (65535 : Int32))))), .second, .val (.ref b1), .val (.double s0), .second, .val (.double ex), .second, .val (.int (1 : Int32))] [(.int (0 : Int32))]))
      refine own_go (fun _ q => XS.iload X3.here hx rfl (hb hby at_247) rfl q) ?_
      show own_Go _ _ _ _ _ _ _ (T3.setTop (mkF m 249 #[.val (.int p0), .val (.int p1), .val (.int p2), .val (.int p3), .val (.int za), .val (.int zb), .val (.double sc), .second, .val (.double rp), .second, .val (.double rm), .second, .val (.double (FP.dneg (FP.i2d (p3 &&& (65535 : Int32))))), .second, .val (.ref b1), .val (.double s0), .second, .val (.double ex), .second, .val (.int (1 : Int32))] [(.int zb), (.int (0 : Int32))]))
      refine own_go (fun _ q => XS.ifYes X3.here hx rfl (pc0 := 249) (pc' := 256) rfl (hb hby at_249) rfl ((if0 _ _).trans (feq (own_ne (x := zb) (y := 0) (by have e0 : (0 : Int32).toInt = 0 := rfl; omega))).2) (by decide) (by decide) q) ?_
      show own_Go _ _ _ _ _ _ _ (T3.setTop (mkF m 256 #[.val (.int p0), .val (.int p1), .val (.int p2), .val (.int p3), .val (.int za), .val (.int zb), .val (.double sc), .second, .val (.double rp), .second, .val (.double rm), .second, .val (.double (FP.dneg (FP.i2d (p3 &&& (65535 : Int32))))), .second, .val (.ref b1), .val (.double s0), .second, .val (.double ex), .second, .val (.int (1 : Int32))] [(.int (0 : Int32))]))
      refine own_go (fun _ q => XS.iconst X3.here hx rfl (hb hby at_256) q) ?_
      show own_Go _ _ _ _ _ _ _ (T3.setTop (mkF m 257 #[.val (.int p0), .val (.int p1), .val (.int p2), .val (.int p3), .val (.int za), .val (.int zb), .val (.double sc), .second, .val (.double rp), .second, .val (.double rm), .second, .val (.double (FP.dneg (FP.i2d (p3 &&& (65535 : Int32))))), .second, .val (.ref b1), .val (.double s0), .second, .val (.double ex), .second, .val (.int (1 : Int32))] [(.int (0 : Int32)), (.int (0 : Int32))]))
      refine own_go (fun _ q => XS.icmpNo X3.here hx rfl (hb hby at_257) rfl (teq (by decide : (0 : Int32) = (0 : Int32))).2 q) ?_
      show own_Go _ _ _ _ _ _ _ (T3.setTop (mkF m 260 #[.val (.int p0), .val (.int p1), .val (.int p2), .val (.int p3), .val (.int za), .val (.int zb), .val (.double sc), .second, .val (.double rp), .second, .val (.double rm), .second, .val (.double (FP.dneg (FP.i2d (p3 &&& (65535 : Int32))))), .second, .val (.ref b1), .val (.double s0), .second, .val (.double ex), .second, .val (.int (1 : Int32))] []))
      refine own_go (fun _ q => XS.iconst X3.here hx rfl (hb hby at_260) q) ?_
      show own_Go _ _ _ _ _ _ _ (T3.setTop (mkF m 261 #[.val (.int p0), .val (.int p1), .val (.int p2), .val (.int p3), .val (.int za), .val (.int zb), .val (.double sc), .second, .val (.double rp), .second, .val (.double rm), .second, .val (.double (FP.dneg (FP.i2d (p3 &&& (65535 : Int32))))), .second, .val (.ref b1), .val (.double s0), .second, .val (.double ex), .second, .val (.int (1 : Int32))] [(.int (1 : Int32))]))
      refine own_go (fun _ q => XS.goto X3.here hx rfl (pc0 := 261) (pc' := 265) rfl (hb hby at_261) (by decide) (by decide) q) ?_
      show own_Go _ _ _ _ _ _ _ (T3.setTop (mkF m 265 #[.val (.int p0), .val (.int p1), .val (.int p2), .val (.int p3), .val (.int za), .val (.int zb), .val (.double sc), .second, .val (.double rp), .second, .val (.double rm), .second, .val (.double (FP.dneg (FP.i2d (p3 &&& (65535 : Int32))))), .second, .val (.ref b1), .val (.double s0), .second, .val (.double ex), .second, .val (.int (1 : Int32))] [(.int (1 : Int32))]))
      refine own_go (fun _ q => XS.istore X3.here hx rfl (hb hby at_265) rfl (l' := #[.val (.int p0), .val (.int p1), .val (.int p2), .val (.int p3), .val (.int za), .val (.int zb), .val (.double sc), .second, .val (.double rp), .second, .val (.double rm), .second, .val (.double (FP.dneg (FP.i2d (p3 &&& (65535 : Int32))))), .second, .val (.ref b1), .val (.double s0), .second, .val (.double ex), .second, .val (.int (1 : Int32))]) rfl q) ?_
      show own_Go _ _ _ _ _ _ _ (T3.setTop (mkF m 267 #[.val (.int p0), .val (.int p1), .val (.int p2), .val (.int p3), .val (.int za), .val (.int zb), .val (.double sc), .second, .val (.double rp), .second, .val (.double rm), .second, .val (.double (FP.dneg (FP.i2d (p3 &&& (65535 : Int32))))), .second, .val (.ref b1), .val (.double s0), .second, .val (.double ex), .second, .val (.int (1 : Int32))] []))
      refine own_go (fun _ q => XS.iload X3.here hx rfl (hb hby at_267) rfl q) ?_
      show own_Go _ _ _ _ _ _ _ (T3.setTop (mkF m 269 #[.val (.int p0), .val (.int p1), .val (.int p2), .val (.int p3), .val (.int za), .val (.int zb), .val (.double sc), .second, .val (.double rp), .second, .val (.double rm), .second, .val (.double (FP.dneg (FP.i2d (p3 &&& (65535 : Int32))))), .second, .val (.ref b1), .val (.double s0), .second, .val (.double ex), .second, .val (.int (1 : Int32))] [(.int (1 : Int32))]))
      refine own_go (fun _ q => XS.ifNo X3.here hx rfl (hb hby at_269) rfl ((if0 _ _).trans (feq (by decide : ¬ ((1 : Int32) = (0 : Int32)))).1) q) ?_
      show own_Go _ _ _ _ _ _ _ (T3.setTop (mkF m 272 #[.val (.int p0), .val (.int p1), .val (.int p2), .val (.int p3), .val (.int za), .val (.int zb), .val (.double sc), .second, .val (.double rp), .second, .val (.double rm), .second, .val (.double (FP.dneg (FP.i2d (p3 &&& (65535 : Int32))))), .second, .val (.ref b1), .val (.double s0), .second, .val (.double ex), .second, .val (.int (1 : Int32))] []))
      refine own_go (fun _ q => XT.dload X3.here hx rfl (hb hby at_272) rfl q) ?_
      show own_Go _ _ _ _ _ _ _ (T3.setTop (mkF m 274 #[.val (.int p0), .val (.int p1), .val (.int p2), .val (.int p3), .val (.int za), .val (.int zb), .val (.double sc), .second, .val (.double rp), .second, .val (.double rm), .second, .val (.double (FP.dneg (FP.i2d (p3 &&& (65535 : Int32))))), .second, .val (.ref b1), .val (.double s0), .second, .val (.double ex), .second, .val (.int (1 : Int32))] [(.double s0)]))
      refine own_go (own_dconst1 X3 hx (g := (mkF m 274 #[.val (.int p0), .val (.int p1), .val (.int p2), .val (.int p3), .val (.int za), .val (.int zb), .val (.double sc), .second, .val (.double rp), .second, .val (.double rm), .second, .val (.double (FP.dneg (FP.i2d (p3 &&& (65535 : Int32))))), .second, .val (.ref b1), .val (.double s0), .second, .val (.double ex), .second, .val (.int (1 : Int32))] [(.double s0)])) rfl (hb hby at_274)) ?_
      show own_Go _ _ _ _ _ _ _ (T3.setTop (mkF m 275 #[.val (.int p0), .val (.int p1), .val (.int p2), .val (.int p3), .val (.int za), .val (.int zb), .val (.double sc), .second, .val (.double rp), .second, .val (.double rm), .second, .val (.double (FP.dneg (FP.i2d (p3 &&& (65535 : Int32))))), .second, .val (.ref b1), .val (.double s0), .second, .val (.double ex), .second, .val (.int (1 : Int32))] [(.double FP.dconst1), (.double s0)]))
      refine own_go (own_dcmp X3 hx (g := (mkF m 275 #[.val (.int p0), .val (.int p1), .val (.int p2), .val (.int p3), .val (.int za), .val (.int zb), .val (.double sc), .second, .val (.double rp), .second, .val (.double rm), .second, .val (.double (FP.dneg (FP.i2d (p3 &&& (65535 : Int32))))), .second, .val (.ref b1), .val (.double s0), .second, .val (.double ex), .second, .val (.int (1 : Int32))] [(.double FP.dconst1), (.double s0)])) rfl (o := .lt) (own_one_lt DS h21 (by omega)) (hb hby at_275) rfl) ?_
      show own_Go _ _ _ _ _ _ _ (T3.setTop (mkF m 276 #[.val (.int p0), .val (.int p1), .val (.int p2), .val (.int p3), .val (.int za), .val (.int zb), .val (.double sc), .second, .val (.double rp), .second, .val (.double rm), .second, .val (.double (FP.dneg (FP.i2d (p3 &&& (65535 : Int32))))), .second, .val (.ref b1), .val (.double s0), .second, .val (.double ex), .second, .val (.int (1 : Int32))] [(.int (-1 : Int32))]))
      refine own_go (fun _ q => XS.ifYes X3.here hx rfl (pc0 := 276) (pc' := 283) rfl (hb hby at_276) rfl ((if0 _ _).trans (feq (by decide : ¬ ((-1 : Int32) = (0 : Int32)))).2) (by decide) (by decide) q) ?_
      show own_Go _ _ _ _ _ _ _ (T3.setTop (mkF m 283 #[.val (.int p0), .val (.int p1), .val (.int p2), .val (.int p3), .val (.int za), .val (.int zb), .val (.double sc), .second, .val (.double rp), .second, .val (.double rm), .second, .val (.double (FP.dneg (FP.i2d (p3 &&& (65535 : Int32))))), .second, .val (.ref b1), .val (.double s0), .second, .val (.double ex), .second, .val (.int (1 : Int32))] []))
      refine own_go (fun _ q => XS.iconst X3.here hx rfl (hb hby at_283) q) ?_
      show own_Go _ _ _ _ _ _ _ (T3.setTop (mkF m 284 #[.val (.int p0), .val (.int p1), .val (.int p2), .val (.int p3), .val (.int za), .val (.int zb), .val (.double sc), .second, .val (.double rp), .second, .val (.double rm), .second, .val (.double (FP.dneg (FP.i2d (p3 &&& (65535 : Int32))))), .second, .val (.ref b1), .val (.double s0), .second, .val (.double ex), .second, .val (.int (1 : Int32))] [(.int (0 : Int32))]))
      refine own_go (fun _ q => XS.iload X3.here hx rfl (hb hby at_284) rfl q) ?_
      show own_Go _ _ _ _ _ _ _ (T3.setTop (mkF m 286 #[.val (.int p0), .val (.int p1), .val (.int p2), .val (.int p3), .val (.int za), .val (.int zb), .val (.double sc), .second, .val (.double rp), .second, .val (.double rm), .second, .val (.double (FP.dneg (FP.i2d (p3 &&& (65535 : Int32))))), .second, .val (.ref b1), .val (.double s0), .second, .val (.double ex), .second, .val (.int (1 : Int32))] [(.int za), (.int (0 : Int32))]))
      refine own_go (fun _ q => XS.ifYes X3.here hx rfl (pc0 := 286) (pc' := 293) rfl (hb hby at_286) rfl ((if0 _ _).trans (feq (own_ne (x := za) (y := 0) (by have e0 : (0 : Int32).toInt = 0 := rfl; omega))).2) (by decide) (by decide) q) ?_
      show own_Go _ _ _ _ _ _ _ (T3.setTop (mkF m 293 #[.val (.int p0), .val (.int p1), .val (.int p2), .val (.int p3), .val (.int za), .val (.int zb), .val (.double sc), .second, .val (.double rp), .second, .val (.double rm), .second, .val (.double (FP.dneg (FP.i2d (p3 &&& (65535 : Int32))))), .second, .val (.ref b1), .val (.double s0), .second, .val (.double ex), .second, .val (.int (1 : Int32))] [(.int (0 : Int32))]))
      refine own_go (fun _ q => XS.iconst X3.here hx rfl (hb hby at_293) q) ?_
      show own_Go _ _ _ _ _ _ _ (T3.setTop (mkF m 294 #[.val (.int p0), .val (.int p1), .val (.int p2), .val (.int p3), .val (.int za), .val (.int zb), .val (.double sc), .second, .val (.double rp), .second, .val (.double rm), .second, .val (.double (FP.dneg (FP.i2d (p3 &&& (65535 : Int32))))), .second, .val (.ref b1), .val (.double s0), .second, .val (.double ex), .second, .val (.int (1 : Int32))] [(.int (0 : Int32)), (.int (0 : Int32))]))
      refine own_go (fun _ q => XS.icmpNo X3.here hx rfl (hb hby at_294) rfl (teq (by decide : (0 : Int32) = (0 : Int32))).2 q) ?_
      show own_Go _ _ _ _ _ _ _ (T3.setTop (mkF m 297 #[.val (.int p0), .val (.int p1), .val (.int p2), .val (.int p3), .val (.int za), .val (.int zb), .val (.double sc), .second, .val (.double rp), .second, .val (.double rm), .second, .val (.double (FP.dneg (FP.i2d (p3 &&& (65535 : Int32))))), .second, .val (.ref b1), .val (.double s0), .second, .val (.double ex), .second, .val (.int (1 : Int32))] []))
      refine own_go (fun _ q => XS.iconst X3.here hx rfl (hb hby at_297) q) ?_
      show own_Go _ _ _ _ _ _ _ (T3.setTop (mkF m 298 #[.val (.int p0), .val (.int p1), .val (.int p2), .val (.int p3), .val (.int za), .val (.int zb), .val (.double sc), .second, .val (.double rp), .second, .val (.double rm), .second, .val (.double (FP.dneg (FP.i2d (p3 &&& (65535 : Int32))))), .second, .val (.ref b1), .val (.double s0), .second, .val (.double ex), .second, .val (.int (1 : Int32))] [(.int (1 : Int32))]))
      refine own_go (fun _ q => XS.goto X3.here hx rfl (pc0 := 298) (pc' := 302) rfl (hb hby at_298) (by decide) (by decide) q) ?_
      show own_Go _ _ _ _ _ _ _ (T3.setTop (mkF m 302 #[.val (.int p0), .val (.int p1), .val (.int p2), .val (.int p3), .val (.int za), .val (.int zb), .val (.double sc), .second, .val (.double rp), .second, .val (.double rm), .second, .val (.double (FP.dneg (FP.i2d (p3 &&& (65535 : Int32))))), .second, .val (.ref b1), .val (.double s0), .second, .val (.double ex), .second, .val (.int (1 : Int32))] [(.int (1 : Int32))]))
      refine own_go (fun _ q => XS.istore X3.here hx rfl (hb hby at_302) rfl (l' := #[.val (.int p0), .val (.int p1), .val (.int p2), .val (.int p3), .val (.int za), .val (.int zb), .val (.double sc), .second, .val (.double rp), .second, .val (.double rm), .second, .val (.double (FP.dneg (FP.i2d (p3 &&& (65535 : Int32))))), .second, .val (.ref b1), .val (.double s0), .second, .val (.double ex), .second, .val (.int (1 : Int32))]) rfl q) ?_
      show own_Go _ _ _ _ _ _ _ (T3.setTop (mkF m 304 #[.val (.int p0), .val (.int p1), .val (.int p2), .val (.int p3), .val (.int za), .val (.int zb), .val (.double sc), .second, .val (.double rp), .second, .val (.double rm), .second, .val (.double (FP.dneg (FP.i2d (p3 &&& (65535 : Int32))))), .second, .val (.ref b1), .val (.double s0), .second, .val (.double ex), .second, .val (.int (1 : Int32))] []))
      refine own_go (fun _ q => XS.iload X3.here hx rfl (hb hby at_304) rfl q) ?_
      show own_Go _ _ _ _ _ _ _ (T3.setTop (mkF m 306 #[.val (.int p0), .val (.int p1), .val (.int p2), .val (.int p3), .val (.int za), .val (.int zb), .val (.double sc), .second, .val (.double rp), .second, .val (.double rm), .second, .val (.double (FP.dneg (FP.i2d (p3 &&& (65535 : Int32))))), .second, .val (.ref b1), .val (.double s0), .second, .val (.double ex), .second, .val (.int (1 : Int32))] [(.int (1 : Int32))]))
      exact own_retZ X3 hx hlk hret (hb hby at_306) (by decide) (by decide) (by decide) ⟨rfl, N3⟩
set_option maxRecDepth 65536 in
set_option maxHeartbeats 40000000 in
theorem comes_1 {Post : Tables → Env → Array Value → State → Outcome → State → Prop} (hpost : ∀ tb e args s v u, (limb_1_1.after args s (.returned v) u = true ∧ limb_1_2.after args s (.returned v) u = true ∧ True) → FrameEnd s (.returned v) u (Jvm.fieldLocs frame_1_writes args s ++ Jvm.arrayLocs frame_1_arrays args s ++ Jvm.staticLocs frame_1_statics s) 16 128 → Post tb e args s (.returned v) u) :
    ArmFor flags0 classFile x code maxLocals ret World_1 tables_1 room_1 Calls_1 rest_1 Pre_1 Post := by
  intro l hfl _ _ p e ha hc hk s m args below hf hA hF happ hP
  obtain ⟨hcalls, hrest, hpre⟩ := hP
  obtain ⟨-, -, -, hnamed, -, -, -, hat⟩ := (Spec.applies_iff hf).mp happ
  obtain ⟨hg, hn⟩ := and_e (Cond.before_iff.mp (show (Jvm.Cond.and given_1 narrow_1).before args s = true from hpre))
  obtain ⟨ga1, gb1⟩ := and_e hg
  obtain ⟨ga2, gb2⟩ := and_e gb1
  obtain ⟨ga3, gb3⟩ := and_e gb2
  obtain ⟨ga4, gb4⟩ := and_e gb3
  obtain ⟨w0, w1, w2, w3, rfl⟩ : ∃ w0 w1 w2 w3 : Value, args = #[w0, w1, w2, w3] := by
    have hs : args.size = 4 := by simpa [Cond.value, given_1] using ga1
    obtain ⟨L⟩ := args
    match L, hs with
    | [w0, w1, w2, w3], _ => exact ⟨w0, w1, w2, w3, rfl⟩
  have hw := fun d (hd : d ∈ tables_1) => atoms_spec (ws := Jvm.Cond.code x code maxLocals ret :: tables_1) hat d (List.mem_cons_of_mem _ hd)
  obtain ⟨i0, ei0⟩ := is_v ga2
  obtain rfl : w0 = (.int i0) := Option.some.inj ei0
  obtain ⟨i1, ei1⟩ := is_v ga3
  obtain rfl : w1 = (.int i1) := Option.some.inj ei1
  obtain ⟨i2, ei2⟩ := is_v ga4
  obtain rfl : w2 = (.int i2) := Option.some.inj ei2
  obtain ⟨i3, ei3⟩ := is_v gb4
  obtain rfl : w3 = (.int i3) := Option.some.inj ei3
  obtain ⟨n, o, h1, h2, h3, _, L, rfl, ⟨rfl, N⟩, hq⟩ := rm0 l s _ hw tables_1 i0 i1 i2 i3 s.heap s.heap.size (Nat.le_refl _)  p e ha hc hk s m _ below hf ((Spec.applies_iff_loose hf).mp happ).1 ⟨rfl, State.Warmed39.refl s, rfl⟩ trivial
  refine ⟨n, _, h1, h2, h3, hpost _ _ _ _ _ _ ⟨Cond.after_iff.mpr rfl, Cond.after_iff.mpr (eq_i res_at (Term.int_eval (1)) rfl), trivial⟩ ⟨hq.1, hq.2.1, (hq.2.2.sift fun y hy => Or.inr (N y hy)).mono (by decide) (by decide)⟩⟩
theorem main_1_1 : Claimed_1_1 := comes_1 fun _ _ _ _ _ _ h hF => ⟨h.1, hF⟩
theorem main_1_2 : Claimed_1_2 := comes_1 fun _ _ _ _ _ _ h hF => ⟨h.2.1, hF⟩
end Jvm.Pilot.@@N@@
namespace Jvm.Pilot.@@N@@
open Jvm Jvm.ClassFile Sem Op Lib Jvm.Free Jvm.Stand Jvm.Pilot.@@N@@.Jvm.D
/-! MADE BY PROGRAM (witnessworld.py) out of the Statement's table words and the real class files: 10 classes; the members and pool entries that the words name. The judged class is class 1, her method 1. -/
namespace start1
open Jvm.ClassFile
def u (s : String) : CpInfo := .utf8 (stringToUtf16 s)
/-- a pool by its gaps: so many unusable entries, then the entry; so many at the end -/
def gap : Nat → List CpInfo → List CpInfo
  | 0, r => r
  | n + 1, r => .unusable :: gap n r
def poolList (es : List (Nat × CpInfo)) (last : Nat) : List CpInfo := es.foldr (fun e r => gap e.1 (e.2 :: r)) (gap last [])
def pool (es : List (Nat × CpInfo)) (last : Nat) : Array CpInfo := ⟨poolList es last⟩
def fileOf (pool : Array CpInfo) (this : Nat) (attrs : Array Attribute := #[]) (ms : Array MethodInfo := #[]) (fl : Nat := 33) (sup : Nat := 0) (ifs : Array Nat := #[]) (fds : Array FieldInfo := #[]) : ClassFile where
  minorVersion := 0
  majorVersion := 65
  constantPool := pool
  accessFlags := fl
  thisClass := this
  superClass := sup
  interfaces := ifs
  fields := fds
  methods := ms
  attributes := attrs
def plain (name : String) (sup : Option ClassId) : Class where
  name := name
  kind := .ordinary
  loader := none
  accessFlags := 33
  super := sup
  interfaces := #[]
  cf := none
  fields := #[]
  methods := #[]
  instanceTypes := #[]
  staticTypes := #[]
  resolved := #[]
  callSites := []
  init := .initialized
  statics := none
  mirror := none

def pool0 : Array CpInfo := pool [(5, u "<init>"), (0, u "()V"), (1, .class_ 10), (1, u "java/lang/Object")] 113

def k0c0 : Code := { maxStack := 0, maxLocals := 1, code := object_method_1_code, exceptionTable := #[], attributes := #[] }
def k0m0 : Method := { name := "<init>", desc := "()V", sig := { parameters := [], returnType := none }, accessFlags := 1, code := some k0c0 }
/-- java/lang/Object -/
def k0 : Class := { plain "java/lang/Object" none with
  accessFlags := 33
  interfaces := #[]
  cf := some (fileOf pool0 8 #[] #[{ accessFlags := 1, nameIndex := 5, descriptorIndex := 6, attributes := #[] }] 33 0 #[] #[])
  fields := #[]
  methods := #[k0m0]
  instanceTypes := #[]
  staticTypes := #[]
  resolved := Array.replicate 124 none
  statics := none }

def pool1 : Array CpInfo := pool [(2, .class_ 4), (1, u "java/lang/Object"), (0, u "<init>"), (0, u "()V"), (0, .integer 1048575), (0, .double 4602678819172646912), (1, .integer 65535), (0, .class_ 12), (0, u "com/example/hyperrelay/hyperrelay/study/Wilcoxon"), (0, .methodref 11 14), (0, .nameAndType 5 15), (0, u "(DDDD)V"), (0, .methodref 11 17), (0, .nameAndType 18 19), (0, u "shareWorse"), (0, u "()D"), (0, .class_ 21), (0, u "com/example/hyperrelay/hyperrelay/study/WilcoxonShareWorsePinLaw"), (2, u "law"), (0, u "(IIII)Z")] 3

def k1m0 : Method := { name := "<init>", desc := "()V", sig := { parameters := [], returnType := none }, accessFlags := 2, code := none }
def k1c1 : Code := { maxStack := 10, maxLocals := 20, code := code, exceptionTable := #[], attributes := #[] }
def k1m1 : Method := { name := "law", desc := "(IIII)Z", sig := { parameters := [.int, .int, .int, .int], returnType := some .boolean }, accessFlags := 9, code := some k1c1 }
/-- com/example/hyperrelay/hyperrelay/study/WilcoxonShareWorsePinLaw -/
def k1 : Class := { plain "com/example/hyperrelay/hyperrelay/study/WilcoxonShareWorsePinLaw" (some 0) with
  accessFlags := 49
  interfaces := #[]
  cf := some (fileOf pool1 20 #[] #[{ accessFlags := 2, nameIndex := 5, descriptorIndex := 6, attributes := #[] }, { accessFlags := 9, nameIndex := 24, descriptorIndex := 25, attributes := #[] }] 49 2 #[] #[])
  fields := #[]
  methods := #[k1m0, k1m1]
  instanceTypes := #[]
  staticTypes := #[]
  resolved := Array.replicate 29 none
  statics := none }

def pool2 : Array CpInfo := pool [(1, .methodref 2 3), (0, .class_ 4), (0, .nameAndType 5 6), (0, u "java/lang/Object"), (0, u "<init>"), (0, u "()V"), (0, .class_ 8), (0, u "java/lang/Record")] 13

def k2c0 : Code := { maxStack := 1, maxLocals := 1, code := jdk_30_method_1_code, exceptionTable := #[], attributes := #[] }
def k2m0 : Method := { name := "<init>", desc := "()V", sig := { parameters := [], returnType := none }, accessFlags := 4, code := some k2c0 }
/-- java/lang/Record -/
def k2 : Class := { plain "java/lang/Record" (some 0) with
  accessFlags := 1057
  interfaces := #[]
  cf := some (fileOf pool2 7 #[] #[{ accessFlags := 4, nameIndex := 5, descriptorIndex := 6, attributes := #[] }] 1057 2 #[] #[])
  fields := #[]
  methods := #[k2m0]
  instanceTypes := #[]
  staticTypes := #[]
  resolved := Array.replicate 22 none
  statics := none }

def pool3 : Array CpInfo := pool [(1, .methodref 2 3), (0, .class_ 4), (0, .nameAndType 5 6), (0, u "java/lang/Record"), (0, u "<init>"), (0, u "()V"), (0, .fieldref 8 9), (0, .class_ 10), (0, .nameAndType 11 12), (0, u "com/example/hyperrelay/hyperrelay/study/Wilcoxon"), (0, u "rPlus"), (0, u "D"), (0, .fieldref 8 14), (0, .nameAndType 15 12), (0, u "rMinus"), (0, .fieldref 8 17), (0, .nameAndType 18 12), (0, u "z"), (0, .fieldref 8 20), (0, .nameAndType 21 12), (0, u "p"), (65, u "(DDDD)V"), (7, u "()D"), (19, .double 4602678819172646912), (20, u "shareWorse")] 47

def k3c0 : Code := { maxStack := 3, maxLocals := 9, code := prog_94_method_1_code, exceptionTable := #[], attributes := #[] }
def k3m0 : Method := { name := "<init>", desc := "(DDDD)V", sig := { parameters := [.double, .double, .double, .double], returnType := none }, accessFlags := 1, code := some k3c0 }
def k3c1 : Code := { maxStack := 4, maxLocals := 3, code := prog_94_method_3_code, exceptionTable := #[], attributes := #[] }
def k3m1 : Method := { name := "shareWorse", desc := "()D", sig := { parameters := [], returnType := some .double }, accessFlags := 1, code := some k3c1 }
/-- com/example/hyperrelay/hyperrelay/study/Wilcoxon -/
def k3 : Class := { plain "com/example/hyperrelay/hyperrelay/study/Wilcoxon" (some 2) with
  accessFlags := 49
  interfaces := #[]
  cf := some (fileOf pool3 8 #[] #[{ accessFlags := 1, nameIndex := 5, descriptorIndex := 87, attributes := #[] }, { accessFlags := 1, nameIndex := 136, descriptorIndex := 95, attributes := #[] }] 49 2 #[] #[{ accessFlags := 18, nameIndex := 11, descriptorIndex := 12, attributes := #[] }, { accessFlags := 18, nameIndex := 15, descriptorIndex := 12, attributes := #[] }, { accessFlags := 18, nameIndex := 18, descriptorIndex := 12, attributes := #[] }, { accessFlags := 18, nameIndex := 21, descriptorIndex := 12, attributes := #[] }])
  fields := #[{ name := "rPlus", type := .double, accessFlags := 18, slot := 0, constantValue := 0 }, { name := "rMinus", type := .double, accessFlags := 18, slot := 1, constantValue := 0 }, { name := "z", type := .double, accessFlags := 18, slot := 2, constantValue := 0 }, { name := "p", type := .double, accessFlags := 18, slot := 3, constantValue := 0 }]
  methods := #[k3m0, k3m1]
  instanceTypes := #[.double, .double, .double, .double]
  staticTypes := #[]
  resolved := Array.replicate 184 none
  statics := none }

def pool4 : Array CpInfo := pool [(1, u "java/lang/Cloneable"), (0, .class_ 1), (0, u "java/lang/Object"), (0, .class_ 3)] 3

/-- java/lang/Cloneable -/
def k4 : Class := { plain "java/lang/Cloneable" (some 0) with
  accessFlags := 1537
  interfaces := #[]
  cf := some (fileOf pool4 2 #[] #[] 1537 4 #[] #[])
  fields := #[]
  methods := #[]
  instanceTypes := #[]
  staticTypes := #[]
  resolved := Array.replicate 8 none
  statics := none }

def pool5 : Array CpInfo := pool [(1, u "java/io/Serializable"), (0, .class_ 1), (0, u "java/lang/Object"), (0, .class_ 3)] 3

/-- java/io/Serializable -/
def k5 : Class := { plain "java/io/Serializable" (some 0) with
  accessFlags := 1537
  interfaces := #[]
  cf := some (fileOf pool5 2 #[] #[] 1537 4 #[] #[])
  fields := #[]
  methods := #[]
  instanceTypes := #[]
  staticTypes := #[]
  resolved := Array.replicate 8 none
  statics := none }

/-- the primitive byte -/
def k6 : Class := { plain "byte" none with kind := .primitive 'B', accessFlags := 0x411 }
/-- [B -/
def k7 : Class := { plain "[B" (some 0) with kind := .array 6 .byte, interfaces := #[4, 5], accessFlags := 1041 }

/-- the primitive int -/
def k8 : Class := { plain "int" none with kind := .primitive 'I', accessFlags := 0x411 }
/-- [I -/
def k9 : Class := { plain "[I" (some 0) with kind := .array 8 .int, interfaces := #[4, 5], accessFlags := 1041 }

def heap : Heap := #[]
def classes : Array Class := #[k0, k1, k2, k3, k4, k5, k6, k7, k8, k9]
def interned : List (Array UInt16 × Addr) := []
def slotsUsed : Nat := 0
def theMethod : MethodId := ⟨1, 1⟩
def args0 : Array Value := #[.int 3, .int 4, .int 5, .int 6]
def aboutOver (below : List Frame) : State where
  vm := { classes := classes, interned := interned.toArray }
  heap := heap
  slotsUsed := slotsUsed
  threads := #[{ frames := .invoking theMethod args0 :: below }]
def below0 : List Frame := [.native { method := ⟨0, 0⟩, args := #[] }]
def about1 : State := aboutOver below0
def p0 : Program := .bare "" "" ""
def e0 : Env := launch0.env 0 0 0
theorem w_frames : about1.frames = Frame.invoking theMethod args0 :: below0 := rfl
set_option maxRecDepth 65536 in
theorem w_args : argsFit about1.vm theMethod args0 = true := by decide +kernel
set_option maxRecDepth 65536 in
theorem w_heap : heapFits about1 = true := by decide +kernel
set_option maxRecDepth 65536 in
theorem w_runnable : about1.curStatus? = some .runnable := by decide +kernel
set_option maxRecDepth 65536 in
theorem w_alone : about1.alone = true := by decide +kernel
set_option maxRecDepth 65536 in
theorem w_named : about1.methodNamed? x = some theMethod := by decide +kernel
set_option maxRecDepth 65536 in
theorem w_hears : about1.hears theMethod below0 = true := by decide +kernel
set_option maxRecDepth 65536 in
theorem w_ripe : about1.ripe theMethod args0 below0 = true := by decide +kernel
theorem w_running : about1.status = .running := rfl
set_option maxRecDepth 65536 in
theorem w_room : about1.hasRoom e0.platform room_1 = true :=
  launch0.hasRoom_least _ room_1 (by decide +kernel) (by decide +kernel) (by decide +kernel) (by decide +kernel) (by decide +kernel) (by decide +kernel)
theorem allAtoms_all (ts : List Jvm.Cond) (a : Array Jvm.Value) (st : Jvm.State) : (allAtoms ts).before a st = ts.all (fun c => c.before a st) := by
  induction ts with
  | nil => rfl
  | cons c t ih =>
    show (Jvm.Cond.and c (allAtoms t)).before a st = _
    rw [Jvm.Cond.before_and, ih, List.all_cons]
def words1 : List Jvm.Cond := Jvm.Cond.code x code maxLocals ret :: tables_1
/-- a 'code' word, met by the world's own term for the bytes: nothing is compared byte by byte -/
theorem code_word {y : MethodName} {bytes : ByteArray} {mx : Nat} {rt : Option FieldType} {a : Array Value} {s : State} {m : MethodId} {meth : Method} {c : Code} (h1 : s.methodNamed? y = some m) (h2 : s.vm.method? m = some meth) (h3 : meth.code = some c) (h4 : c.code = bytes)
    (h5 : (c.maxLocals == mx && c.exceptionTable.isEmpty && decide (c.maxStack ≤ mostOperands) && decide (meth.sig.returnType = rt) && !meth.locks && decide (parseMethodDescriptor y.desc = some meth.sig)) = true) : (Jvm.Cond.code y bytes mx rt).before a s = true := by
  simp only [Bool.and_eq_true, beq_iff_eq, Bool.not_eq_true', decide_eq_true_eq] at h5
  obtain ⟨⟨⟨⟨⟨g1, g2⟩, g3⟩, g4⟩, g5⟩, g6⟩ := h5
  simp [Cond.before, Cond.holds, Cond.value, h1, h2, h3, h4, g1, g2, g3, g4, g5, g6]
def isCode : Jvm.Cond → Bool
  | .code _ _ _ _ => true
  | _ => false
theorem all_split {L : List Jvm.Cond} {P : Jvm.Cond → Bool} (h1 : L.all (fun c => isCode c || P c) = true) (h2 : ∀ c ∈ L.filter isCode, P c = true) : L.all P = true := by
  refine List.all_eq_true.mpr fun c hc => ?_
  have h := List.all_eq_true.mp h1 c hc
  rcases Bool.eq_false_or_eq_true (isCode c) with hi | hi
  · exact h2 c (List.mem_filter.mpr ⟨hc, hi⟩)
  · simpa [hi] using h
set_option maxRecDepth 65536 in
theorem w_c0 : (Jvm.Cond.code x code maxLocals ret).before args0 about1 = true := code_word (m := ⟨1, 1⟩) (meth := k1m1) (c := k1c1) (by decide +kernel) rfl rfl rfl (by decide +kernel)
set_option maxRecDepth 65536 in
theorem w_c1 : (Jvm.Cond.code ({ cls := "com/example/hyperrelay/hyperrelay/study/Wilcoxon", name := "<init>", desc := "(DDDD)V" } : Jvm.MethodName) prog_94_method_1_code (9 : Nat) (Option.none : Option Jvm.ClassFile.FieldType)).before args0 about1 = true := code_word (m := ⟨3, 0⟩) (meth := k3m0) (c := k3c0) (by decide +kernel) rfl rfl rfl (by decide +kernel)
set_option maxRecDepth 65536 in
theorem w_c2 : (Jvm.Cond.code ({ cls := "java/lang/Record", name := "<init>", desc := "()V" } : Jvm.MethodName) jdk_30_method_1_code (1 : Nat) (Option.none : Option Jvm.ClassFile.FieldType)).before args0 about1 = true := code_word (m := ⟨2, 0⟩) (meth := k2m0) (c := k2c0) (by decide +kernel) rfl rfl rfl (by decide +kernel)
set_option maxRecDepth 65536 in
theorem w_c3 : (Jvm.Cond.code ({ cls := "java/lang/Object", name := "<init>", desc := "()V" } : Jvm.MethodName) object_method_1_code (1 : Nat) (Option.none : Option Jvm.ClassFile.FieldType)).before args0 about1 = true := code_word (m := ⟨0, 0⟩) (meth := k0m0) (c := k0c0) (by decide +kernel) rfl rfl rfl (by decide +kernel)
set_option maxRecDepth 65536 in
theorem w_c4 : (Jvm.Cond.code ({ cls := "com/example/hyperrelay/hyperrelay/study/Wilcoxon", name := "shareWorse", desc := "()D" } : Jvm.MethodName) prog_94_method_3_code (3 : Nat) (Option.some Jvm.ClassFile.FieldType.double)).before args0 about1 = true := code_word (m := ⟨3, 1⟩) (meth := k3m1) (c := k3c1) (by decide +kernel) rfl rfl rfl (by decide +kernel)
def codes1 : List Jvm.Cond := [Jvm.Cond.code x code maxLocals ret, Jvm.Cond.code ({ cls := "com/example/hyperrelay/hyperrelay/study/Wilcoxon", name := "<init>", desc := "(DDDD)V" } : Jvm.MethodName) prog_94_method_1_code (9 : Nat) (Option.none : Option Jvm.ClassFile.FieldType), Jvm.Cond.code ({ cls := "java/lang/Record", name := "<init>", desc := "()V" } : Jvm.MethodName) jdk_30_method_1_code (1 : Nat) (Option.none : Option Jvm.ClassFile.FieldType), Jvm.Cond.code ({ cls := "java/lang/Object", name := "<init>", desc := "()V" } : Jvm.MethodName) object_method_1_code (1 : Nat) (Option.none : Option Jvm.ClassFile.FieldType), Jvm.Cond.code ({ cls := "com/example/hyperrelay/hyperrelay/study/Wilcoxon", name := "shareWorse", desc := "()D" } : Jvm.MethodName) prog_94_method_3_code (3 : Nat) (Option.some Jvm.ClassFile.FieldType.double)]
set_option maxRecDepth 65536 in
theorem codes_eq : words1.filter isCode = codes1 := rfl
theorem w_codes : ∀ c ∈ words1.filter isCode, c.before args0 about1 = true := by
  rw [codes_eq]
  intro c hc
  simp only [codes1, List.mem_cons, List.not_mem_nil, or_false] at hc
  rcases hc with rfl | rfl | rfl | rfl | rfl
  · exact w_c0
  · exact w_c1
  · exact w_c2
  · exact w_c3
  · exact w_c4
set_option maxRecDepth 65536 in
theorem w_t1 : (words1.take 24).all (fun c => isCode c || c.before args0 about1) = true := by decide +kernel
set_option maxRecDepth 65536 in
theorem w_t2 : (words1.drop 24).all (fun c => isCode c || c.before args0 about1) = true := by decide +kernel
theorem w_tables : (allAtoms (Jvm.Cond.code x code maxLocals ret :: tables_1)).before args0 about1 = true := by
  rw [allAtoms_all]
  show words1.all (fun c => c.before args0 about1) = true
  refine all_split ?_ w_codes
  rw [← List.take_append_drop 24 words1, List.all_append, w_t1, w_t2]
  rfl
set_option maxRecDepth 65536 in
theorem w_case : (Jvm.Cond.and given_1 narrow_1).before args0 about1 = true := by decide +kernel
theorem w_applies : (headSpec (Jvm.Cond.code x code maxLocals ret :: tables_1) room_1).applies x e0.platform about1 = true :=
  (Spec.applies_iff w_frames).mpr ⟨w_running, w_runnable, w_alone, w_named, w_hears, w_ripe, w_room, w_tables⟩
theorem atStart : AtStart classFile x code maxLocals ret World_1 tables_1 room_1 Calls_1 rest_1 Pre_1 launch0 p0 e0 about1 theMethod args0 below0 :=
  ⟨lists_1, trivial, launch0.admits_env _ _ _, launch0.least_env, fairChoices_fair.cas, fairChoices_fair.clock, w_frames, w_args, w_heap, w_applies, trivial, trivial, w_case⟩
end start1
theorem witness_1 : WitnessClaimed_1 := ⟨start1.p0, start1.e0, start1.about1, start1.theMethod, start1.args0, start1.below0, start1.atStart⟩
end Jvm.Pilot.@@N@@
