import JvmDerived
import JvmDerived.Pilot.@@N@@Statement
import JvmDerived.Pilot.@@N@@Code
set_option linter.unusedVariables false
set_option linter.unusedSimpArgs false
/- laws to paste: Road.backV (cut by pick.py; bodies as the Statement names them) -/
namespace Jvm.Pilot.@@N@@
namespace StrChars
open Jvm Sem ClassFile Op Lib Jvm.Stand Jvm.Free.XT Jvm.Free.ALB Jvm.Free.JM Jvm.Free
open Jvm.Lib.Cold (StaticIs)
/-- a char array whose places are chars -/
def Ch (a : Addr) (A : Cell) (U : State) : Prop := Arr .char a A U ∧ Typed .char A
theorem Ch.mv {a : Addr} {A : Cell} {U U' : State} (h : Ch a A U) (hal : U.vm.Alike U'.vm) (hh : U'.heap = U.heap) : Ch a A U' := ⟨h.1.mv hal hh, h.2⟩
theorem Ch.keep {a : Addr} {A : Cell} {U U' : State} (h : Ch a A U) (hal : U.vm.Alike U'.vm) (hk : U'.heap[a]? = some A) : Ch a A U' := ⟨h.1.keep hal hk, h.2⟩
/-- what place i of a char[]'s cell holds -/
def cv (A : Cell) (i : Nat) : Int32 := match A.slots[i]? with | some (.int x) => x | _ => 0
theorem Ch.get {a : Addr} {A : Cell} {U : State} (h : Ch a A U) {i : Nat} (hi : i < A.slots.size) : A.slots[i]? = some (.int (cv A i)) := by
  have e := Array.getElem?_eq_getElem hi
  have f := h.2 i _ e
  unfold cv; rw [e]
  generalize A.slots[i] = v at f
  cases v <;> simp [fits] at f ⊢
/-- the byte that i2b leaves of a char -/
def lo8 (x : Int32) : Int32 := x.toInt8.toInt32
theorem fits_lo8 (y : Int32) : fits .byte (.int (lo8 y)) = true := by
  have h1 := y.toInt8.le_toInt
  have h2 := y.toInt8.toInt_lt
  simp only [lo8, fits, Bool.and_eq_true, decide_eq_true_eq, Int32.le_iff_toInt_le, Int8.toInt_toInt32, show (-128 : Int32).toInt = -128 from by decide, show (127 : Int32).toInt = 127 from by decide]
  omega
/-- A' is A but that each place j of lo .. hi - 1 holds f j -/
def Laid (A A' : Cell) (lo hi : Nat) (f : Nat → Value) : Prop := A'.cls = A.cls ∧ A'.vm = A.vm ∧ A'.slots.size = A.slots.size ∧ ∀ i, A'.slots[i]? = if lo ≤ i ∧ i < hi then some (f i) else A.slots[i]?
theorem Laid.zero (A : Cell) (lo : Nat) (f : Nat → Value) : Laid A A lo (lo + 0) f := ⟨rfl, rfl, rfl, fun i => by rw [if_neg (by omega)]⟩
theorem Laid.step {A Ak : Cell} {lo k : Nat} {f : Nat → Value} {v : Value} (h : Laid A Ak lo k f) (hlo : lo ≤ k) (hk : k < Ak.slots.size) (hv : v = f k) : Laid A (Ak.setSlot k v) lo (k + 1) f := by
  refine ⟨h.1, h.2.1, by simpa [Cell.setSlot] using h.2.2.1, fun i => ?_⟩
  by_cases e : k = i
  · subst e; rw [Cell.slots_setSlot_self v hk, if_pos (by omega), hv]
  · rw [Cell.slots_setSlot_ne v e, h.2.2.2 i]
    by_cases q : lo ≤ i ∧ i < k
    · rw [if_pos q, if_pos (by omega)]
    · rw [if_neg q, if_neg (by omega)]
def U16 : String := "java/lang/StringUTF16"
namespace Cmp5
def yN : MethodName := ⟨"java/lang/StringUTF16", "compress", "([CI[BII)I"⟩
abbrev yB : ByteArray := jdk_52_method_21_code
theorem d0 : decode yB 0 = .ok (.iconst 0, 1) := by decide +kernel
theorem d1 : decode yB 1 = .ok (.istore 5, 2) := by decide +kernel
theorem d3 : decode yB 3 = .ok (.iload 5, 2) := by decide +kernel
theorem d5 : decode yB 5 = .ok (.iload 4, 2) := by decide +kernel
theorem d7 : decode yB 7 = .ok (.if_icmp (.ge) 37, 3) := by decide +kernel
theorem d10 : decode yB 10 = .ok (.aload_n 0, 1) := by decide +kernel
theorem d11 : decode yB 11 = .ok (.iload_n 1, 1) := by decide +kernel
theorem d12 : decode yB 12 = .ok (.caload, 1) := by decide +kernel
theorem d13 : decode yB 13 = .ok (.istore 6, 2) := by decide +kernel
theorem d15 : decode yB 15 = .ok (.iload 6, 2) := by decide +kernel
theorem d17 : decode yB 17 = .ok (.sipush 255, 3) := by decide +kernel
theorem d20 : decode yB 20 = .ok (.if_icmp (.le) 6, 3) := by decide +kernel
theorem d26 : decode yB 26 = .ok (.aload_n 2, 1) := by decide +kernel
theorem d27 : decode yB 27 = .ok (.iload_n 3, 1) := by decide +kernel
theorem d28 : decode yB 28 = .ok (.iload 6, 2) := by decide +kernel
theorem d30 : decode yB 30 = .ok (.i2b, 1) := by decide +kernel
theorem d31 : decode yB 31 = .ok (.bastore, 1) := by decide +kernel
theorem d32 : decode yB 32 = .ok (.iinc 1 1, 3) := by decide +kernel
theorem d35 : decode yB 35 = .ok (.iinc 3 1, 3) := by decide +kernel
theorem d38 : decode yB 38 = .ok (.iinc 5 1, 3) := by decide +kernel
theorem d41 : decode yB 41 = .ok (.goto (-38), 3) := by decide +kernel
theorem d44 : decode yB 44 = .ok (.iload 4, 2) := by decide +kernel
theorem d46 : decode yB 46 = .ok (.ireturn, 1) := by decide +kernel
def site : List Cond := []
def tab : Cond := tabOf yN yB 7 (some .int) site
def P (b : Addr) (A : Cell) (d : Addr) (B : Cell) (o q len : Nat) (args : Array Value) (s : State) : Prop := args = #[.ref b, .int (Int32.ofNat o), .ref d, .int (Int32.ofNat q), .int (Int32.ofNat len)] ∧ Ch b A s ∧ Arr .byte d B s ∧ b ≠ d ∧ o + len ≤ A.slots.size ∧ q + len ≤ B.slots.size ∧ ∀ i, i < len → ¬ 255 < cv A (o + i)
def E (b : Addr) (A : Cell) (d : Addr) (B : Cell) (o q len : Nat) (r : Option Value) (s u : State) : Prop := r = some (.int (Int32.ofNat len)) ∧ ∃ B', Put d B' s u ∧ Laid B B' q (q + len) (fun j => Value.int (lo8 (cv A (o + (j - q)))))
/-- no char of the range above 255: len; the places written hold each char's low byte -/
theorem law (l : Launch) (b : Addr) (A : Cell) (d : Addr) (B : Cell) (o q len : Nat) : Law l yN 5 5 0 0 yB 7 (some .int) site (P b A d B o q len) (E b A d B o q len) (copyLocs d q len) 0 0 := by
  refine Law.of_walk (plainFor_of_name (by decide +kernel)) (by decide +kernel) (by decide +kernel) (by decide) (fun _ _ h => by rw [h.1]; rfl) (fun _ U U' hal hh h => ⟨h.1, h.2.1.mv hal hh, h.2.2.1.mv hal hh, h.2.2.2⟩) (fun r U U' V V' h1 hal h2 h => ⟨h.1, h.2.elim fun B' q => ⟨B', q.1.mv h1 h2, q.2⟩⟩) ?_
  intro p e s m args below meth c s₁ X0 hexec hbytes hml hret hlk hnm hown hh0 W hP
  obtain ⟨rfl, hA, hB, hne, l1, l2, hp⟩ := hP
  have c1 : Steps p.tables e below (s₁.setTop (entryFrame m #[.ref b, .int (Int32.ofNat o), .ref d, .int (Int32.ofNat q), .int (Int32.ofNat len)] 7)) (s₁.setTop (mkF m 0 #[.val (.ref b), .val (.int (Int32.ofNat o)), .val (.ref d), .val (.int (Int32.ofNat q)), .val (.int (Int32.ofNat len)), .unset, .unset] [])) := entry rfl
  have hA0 := hA.1.mv X0.warmed.alike hh0
  have hB0 := hB.mv X0.warmed.alike hh0
  have a31 := hA.1.2.2.2
  have c2 : Steps p.tables e below (s₁.setTop (entryFrame m #[.ref b, .int (Int32.ofNat o), .ref d, .int (Int32.ofNat q), .int (Int32.ofNat len)] 7)) (s₁.setTop (mkF m 3 #[.val (.ref b), .val (.int (Int32.ofNat o)), .val (.ref d), .val (.int (Int32.ofNat q)), .val (.int (Int32.ofNat len)), .val (.int 0), .unset] [])) := c1.trans (by
    refine iconstV X0.here hexec rfl 0 (hb hbytes d0) (by decide) ?_
    refine XS.istore X0.here hexec rfl (hb hbytes d1) rfl rfl ?_
    exact Steps.refl _)
  have loop : ∀ (r i : Nat), i + r = len → ∀ (z : Slot), (z = .unset ∨ ∃ w, z = .val w ∧ w.category = 1) → ∀ (Tl : State) (Bk : Cell), Stand p l e { frames := 0, locals := 0, cells := 0, slots := 0 } s m #[.ref b, .int (Int32.ofNat o), .ref d, .int (Int32.ofNat q), .int (Int32.ofNat len)] below meth c Tl ([] ++ copyLocs d q i) 0 0 → Put d Bk s₁ Tl → Laid B Bk q (q + i) (fun j => Value.int (lo8 (cv A (o + (j - q))))) →
      Steps p.tables e below (s₁.setTop (entryFrame m #[.ref b, .int (Int32.ofNat o), .ref d, .int (Int32.ofNat q), .int (Int32.ofNat len)] 7)) (Tl.setTop (mkF m 3 #[.val (.ref b), .val (.int (Int32.ofNat (o + i))), .val (.ref d), .val (.int (Int32.ofNat (q + i))), .val (.int (Int32.ofNat len)), .val (.int (Int32.ofNat i)), z] [])) → ∃ (T' : State) (B' : Cell) (z' : Slot), Stand p l e { frames := 0, locals := 0, cells := 0, slots := 0 } s m #[.ref b, .int (Int32.ofNat o), .ref d, .int (Int32.ofNat q), .int (Int32.ofNat len)] below meth c T' ([] ++ copyLocs d q len) 0 0 ∧ Put d B' s₁ T' ∧ Laid B B' q (q + len) (fun j => Value.int (lo8 (cv A (o + (j - q))))) ∧
      Steps p.tables e below (s₁.setTop (entryFrame m #[.ref b, .int (Int32.ofNat o), .ref d, .int (Int32.ofNat q), .int (Int32.ofNat len)] 7)) (T'.setTop (mkF m 3 #[.val (.ref b), .val (.int (Int32.ofNat (o + len))), .val (.ref d), .val (.int (Int32.ofNat (q + len))), .val (.int (Int32.ofNat len)), .val (.int (Int32.ofNat len)), z'] [])) := by
    intro r
    induction r with
    | zero =>
      intro i hi z hz Tl Bk Xl pl fl cl
      have hil : i = len := by omega
      rw [hil] at Xl fl cl
      exact ⟨Tl, Bk, z, Xl, pl, fl, cl⟩
    | succ r ih =>
      intro i hi z hz Tl Bk Xl pl fl cl
      have all := X0.warmed.alike.symm.trans Xl.warmed.alike
      have hAl := hA0.keep all (pl.other hne hA0.1)
      have hBk := hB0.like all pl.1 fl.1 fl.2.1 fl.2.2.1
      have hlt : q + i < Bk.slots.size := by rw [fl.2.2.1]; omega
      have c3 : Steps p.tables e below (s₁.setTop (entryFrame m #[.ref b, .int (Int32.ofNat o), .ref d, .int (Int32.ofNat q), .int (Int32.ofNat len)] 7)) (Tl.setTop (mkF m 12 #[.val (.ref b), .val (.int (Int32.ofNat (o + i))), .val (.ref d), .val (.int (Int32.ofNat (q + i))), .val (.int (Int32.ofNat len)), .val (.int (Int32.ofNat i)), z] [.int (Int32.ofNat (o + i)), .ref b])) := cl.trans (by
        refine XS.iload Xl.here hexec rfl (hb hbytes d3) rfl ?_
        refine XS.iload Xl.here hexec rfl (hb hbytes d5) rfl ?_
        refine XS.icmpNo Xl.here hexec rfl (hb hbytes d7) rfl (ii_ge_f (lt32 (by omega) (by omega))) ?_
        refine XS.aloadN Xl.here hexec rfl (hb hbytes d10) rfl rfl ?_
        refine XS.iloadN Xl.here hexec rfl (hb hbytes d11) rfl ?_
        exact Steps.refl _)
      have c4 : Steps p.tables e below (s₁.setTop (entryFrame m #[.ref b, .int (Int32.ofNat o), .ref d, .int (Int32.ofNat q), .int (Int32.ofNat len)] 7)) (Tl.setTop (mkF m 13 #[.val (.ref b), .val (.int (Int32.ofNat (o + i))), .val (.ref d), .val (.int (Int32.ofNat (q + i))), .val (.int (Int32.ofNat len)), .val (.int (Int32.ofNat i)), z] [.int (cv A (o + i))])) := c3.trans (by
        refine Xl.aget hexec hAl rfl (hA.get (i := o + i) (by omega)) rfl rfl (hb hbytes d12) ?_
        exact Steps.refl _)
      have c5 : Steps p.tables e below (s₁.setTop (entryFrame m #[.ref b, .int (Int32.ofNat o), .ref d, .int (Int32.ofNat q), .int (Int32.ofNat len)] 7)) (Tl.setTop (mkF m 15 #[.val (.ref b), .val (.int (Int32.ofNat (o + i))), .val (.ref d), .val (.int (Int32.ofNat (q + i))), .val (.int (Int32.ofNat len)), .val (.int (Int32.ofNat i)), .val (.int (cv A (o + i)))] [])) := c4.trans (by
        refine XS.istoreS Xl.here hexec rfl (hb hbytes d13) rfl rfl hz ?_
        exact Steps.refl _)
      have c6 : Steps p.tables e below (s₁.setTop (entryFrame m #[.ref b, .int (Int32.ofNat o), .ref d, .int (Int32.ofNat q), .int (Int32.ofNat len)] 7)) (Tl.setTop (mkF m 31 #[.val (.ref b), .val (.int (Int32.ofNat (o + i))), .val (.ref d), .val (.int (Int32.ofNat (q + i))), .val (.int (Int32.ofNat len)), .val (.int (Int32.ofNat i)), .val (.int (cv A (o + i)))] [.int (lo8 (cv A (o + i))), .int (Int32.ofNat (q + i)), .ref d])) := c5.trans (by
        refine XS.iload Xl.here hexec rfl (hb hbytes d15) rfl ?_
        refine sipushV Xl.here hexec rfl 255 (hb hbytes d17) (by decide) ?_
        refine XS.icmpYes Xl.here hexec rfl (pc0 := 20) rfl (hb hbytes d20) rfl (ii_le_t (hp i (by omega))) (by decide) rfl ?_
        refine XS.aloadN Xl.here hexec rfl (hb hbytes d26) rfl rfl ?_
        refine XS.iloadN Xl.here hexec rfl (hb hbytes d27) rfl ?_
        refine XS.iload Xl.here hexec rfl (hb hbytes d28) rfl ?_
        refine i2b Xl.here hexec rfl (hb hbytes d30) rfl ?_
        exact Steps.refl _)
      obtain ⟨T7, X7, p7, st7⟩ := Xl.aput hexec hBk rfl hlt rfl (fits_lo8 (cv A (o + i))) (g := (mkF m 31 #[.val (.ref b), .val (.int (Int32.ofNat (o + i))), .val (.ref d), .val (.int (Int32.ofNat (q + i))), .val (.int (Int32.ofNat len)), .val (.int (Int32.ofNat i)), .val (.int (cv A (o + i)))] [.int (lo8 (cv A (o + i))), .int (Int32.ofNat (q + i)), .ref d])) rfl (rest := []) rfl (hb hbytes d31)
      have c8 : Steps p.tables e below (s₁.setTop (entryFrame m #[.ref b, .int (Int32.ofNat o), .ref d, .int (Int32.ofNat q), .int (Int32.ofNat len)] 7)) (T7.setTop (mkF m 32 #[.val (.ref b), .val (.int (Int32.ofNat (o + i))), .val (.ref d), .val (.int (Int32.ofNat (q + i))), .val (.int (Int32.ofNat len)), .val (.int (Int32.ofNat i)), .val (.int (cv A (o + i)))] [])) := c6.trans (st7 _ (Steps.refl _))
      have c9 : Steps p.tables e below (s₁.setTop (entryFrame m #[.ref b, .int (Int32.ofNat o), .ref d, .int (Int32.ofNat q), .int (Int32.ofNat len)] 7)) (T7.setTop (mkF m 3 #[.val (.ref b), .val (.int (Int32.ofNat (o + i) + 1)), .val (.ref d), .val (.int (Int32.ofNat (q + i) + 1)), .val (.int (Int32.ofNat len)), .val (.int (Int32.ofNat i + 1)), .val (.int (cv A (o + i)))] [])) := c8.trans (by
        refine iincV X7.here hexec rfl 1 (hb hbytes d32) (by decide) rfl rfl ?_
        refine iincV X7.here hexec rfl 1 (hb hbytes d35) (by decide) rfl rfl ?_
        refine iincV X7.here hexec rfl 1 (hb hbytes d38) (by decide) rfl rfl ?_
        refine XS.goto X7.here hexec rfl (pc0 := 41) rfl (hb hbytes d41) (by decide) rfl ?_
        exact Steps.refl _)
      have c10 : Steps p.tables e below (s₁.setTop (entryFrame m #[.ref b, .int (Int32.ofNat o), .ref d, .int (Int32.ofNat q), .int (Int32.ofNat len)] 7)) (T7.setTop (mkF m 3 #[.val (.ref b), .val (.int (Int32.ofNat (o + (i + 1)))), .val (.ref d), .val (.int (Int32.ofNat (q + (i + 1)))), .val (.int (Int32.ofNat len)), .val (.int (Int32.ofNat (i + 1))), .val (.int (cv A (o + i)))] [])) := by
        have := c9
        rw [succ32, succ32, succ32] at this
        exact this
      exact ih (i + 1) (by omega) _ (Or.inr ⟨_, rfl, rfl⟩) T7 _ (by rw [copyLocs_step, ← List.append_assoc]; exact X7) (pl.trans p7) (fl.step (by omega) hlt (by simp)) c10
  obtain ⟨T9, B9, z9, X9, p9, f9, g9⟩ := loop len 0 (by omega) .unset (Or.inl rfl) s₁ B (by simpa [copyLocs] using X0) ⟨hB0.1, fun _ _ => rfl, rfl⟩ (Laid.zero _ _ _) c2
  have c11 : Steps p.tables e below (s₁.setTop (entryFrame m #[.ref b, .int (Int32.ofNat o), .ref d, .int (Int32.ofNat q), .int (Int32.ofNat len)] 7)) (T9.setTop (mkF m 46 #[.val (.ref b), .val (.int (Int32.ofNat (o + len))), .val (.ref d), .val (.int (Int32.ofNat (q + len))), .val (.int (Int32.ofNat len)), .val (.int (Int32.ofNat len)), z9] [.int (Int32.ofNat len)])) := g9.trans (by
    refine XS.iload X9.here hexec rfl (hb hbytes d3) rfl ?_
    refine XS.iload X9.here hexec rfl (hb hbytes d5) rfl ?_
    refine XS.icmpYes X9.here hexec rfl (pc0 := 7) rfl (hb hbytes d7) rfl (ii_ge_t (nlt32 (by omega) (Nat.le_refl _))) (by decide) rfl ?_
    refine XS.iload X9.here hexec rfl (hb hbytes d44) rfl ?_
    exact Steps.refl _)
  exact ⟨T9, some (.int (Int32.ofNat len)), _, _, _, X9, by simp, rfl, rfl, (fun h => by cases h), ⟨rfl, B9, p9.from hh0, f9⟩, fun fs hl => c11.trans (X9.ireturnOut hexec hret rfl (Or.inl rfl) (hb hbytes d46) hl)⟩
end Cmp5
namespace Cmp3
def yN : MethodName := ⟨"java/lang/StringUTF16", "compress", "([CII)[B"⟩
abbrev yB : ByteArray := jdk_52_method_16_code
theorem d0 : decode yB 0 = .ok (.iload_n 2, 1) := by decide +kernel
theorem d1 : decode yB 1 = .ok (.newarray .byte, 2) := by decide +kernel
theorem d3 : decode yB 3 = .ok (.astore_n 3, 1) := by decide +kernel
theorem d4 : decode yB 4 = .ok (.aload_n 0, 1) := by decide +kernel
theorem d5 : decode yB 5 = .ok (.iload_n 1, 1) := by decide +kernel
theorem d6 : decode yB 6 = .ok (.aload_n 3, 1) := by decide +kernel
theorem d7 : decode yB 7 = .ok (.iconst 0, 1) := by decide +kernel
theorem d8 : decode yB 8 = .ok (.iload_n 2, 1) := by decide +kernel
theorem d9 : decode yB 9 = .ok (.invokestatic 115, 3) := by decide +kernel
theorem d12 : decode yB 12 = .ok (.istore 4, 2) := by decide +kernel
theorem d14 : decode yB 14 = .ok (.iload 4, 2) := by decide +kernel
theorem d16 : decode yB 16 = .ok (.iload_n 2, 1) := by decide +kernel
theorem d17 : decode yB 17 = .ok (.if_icmp (.eq) 40, 3) := by decide +kernel
theorem d57 : decode yB 57 = .ok (.aload_n 3, 1) := by decide +kernel
theorem d58 : decode yB 58 = .ok (.areturn, 1) := by decide +kernel
def site : List Cond := [.arrayClass .byte, Cmp5.tab] ++ staticW U16 115 Cmp5.yN
def tab : Cond := tabOf yN yB 6 (some (.array .byte)) site
def P (b : Addr) (A : Cell) (o len : Nat) (args : Array Value) (s : State) : Prop := args = #[.ref b, .int (Int32.ofNat o), .int (Int32.ofNat len)] ∧ Ch b A s ∧ o + len ≤ A.slots.size ∧ len ≤ 536870912 ∧ ∀ i, i < len → ¬ 255 < cv A (o + i)
def E (b : Addr) (A : Cell) (o len : Nat) (r : Option Value) (s u : State) : Prop := NewArr .byte "[B" len (fun j => .int (lo8 (cv A (o + j)))) r s u ∧ u.heap.size = s.heap.size + 1
/-- no char of the range above 255: a new byte[] of their low bytes -/
theorem law (l : Launch) (b : Addr) (A : Cell) (o len : Nat) : Law l yN 3 3 1 18 yB 6 (some (.array .byte)) site (P b A o len) (E b A o len) [] 1 len := by
  refine Law.of_walk (plainFor_of_name (by decide +kernel)) (by decide +kernel) (by decide +kernel) (by decide) (fun _ _ h => by rw [h.1]; rfl) (fun _ U U' hal hh h => ⟨h.1, h.2.1.mv hal hh, h.2.2⟩) (fun r U U' V V' h1 hal h2 h => ⟨NewArr.mv r U U' V V' h1 hal h2 h.1, by rw [h1, h2]; exact h.2⟩) ?_
  intro p e s m args below meth c s₁ X0 hexec hbytes hml hret hlk hnm hown hh0 W hP
  obtain ⟨rfl, hA, l1, l2, hp⟩ := hP
  have a31 := hA.1.2.2.2
  have c1 : Steps p.tables e below (s₁.setTop (entryFrame m #[.ref b, .int (Int32.ofNat o), .int (Int32.ofNat len)] 6)) (s₁.setTop (mkF m 0 #[.val (.ref b), .val (.int (Int32.ofNat o)), .val (.int (Int32.ofNat len)), .unset, .unset, .unset] [])) := entry rfl
  have c2 : Steps p.tables e below (s₁.setTop (entryFrame m #[.ref b, .int (Int32.ofNat o), .int (Int32.ofNat len)] 6)) (s₁.setTop (mkF m 1 #[.val (.ref b), .val (.int (Int32.ofNat o)), .val (.int (Int32.ofNat len)), .unset, .unset, .unset] [.int (Int32.ofNat len)])) := c1.trans (by
    refine XS.iloadN X0.here hexec rfl (hb hbytes d0) rfl ?_
    exact Steps.refl _)
  obtain ⟨T3, B3, X3, ba3, bs3, bv3, bh3, bf3, st3⟩ := X0.anew hexec (atype := .byte) (wk W (.arrayClass .byte)) rfl (by show len * 1 ≤ _; omega) (by omega) (g := (mkF m 1 #[.val (.ref b), .val (.int (Int32.ofNat o)), .val (.int (Int32.ofNat len)), .unset, .unset, .unset] [.int (Int32.ofNat len)])) rfl (hb hbytes d1) (rest := []) rfl (Nat.le_refl _) (by show 0 + len ≤ len; omega)
  rw [hh0] at ba3 st3
  have kp3 : XT.Kept s T3 := (XT.Kept.of_eq hh0).push bh3
  have hA3 := hA.keep X3.warmed.alike (kp3 _ _ hA.1.1)
  have hne : b ≠ s.heap.size := hA.1.ne
  have c4 : Steps p.tables e below (s₁.setTop (entryFrame m #[.ref b, .int (Int32.ofNat o), .int (Int32.ofNat len)] 6)) (T3.setTop (mkF m 3 #[.val (.ref b), .val (.int (Int32.ofNat o)), .val (.int (Int32.ofNat len)), .unset, .unset, .unset] [.ref s.heap.size])) := c2.trans (st3 _ (Steps.refl _))
  have c5 : Steps p.tables e below (s₁.setTop (entryFrame m #[.ref b, .int (Int32.ofNat o), .int (Int32.ofNat len)] 6)) (T3.setTop (mkF m 9 #[.val (.ref b), .val (.int (Int32.ofNat o)), .val (.int (Int32.ofNat len)), .val (.ref s.heap.size), .unset, .unset] [.int (Int32.ofNat len), .int 0, .ref s.heap.size, .int (Int32.ofNat o), .ref b])) := c4.trans (by
    refine XS.astoreN X3.here hexec rfl (hb hbytes d3) rfl rfl rfl ?_
    refine XS.aloadN X3.here hexec rfl (hb hbytes d4) rfl rfl ?_
    refine XS.iloadN X3.here hexec rfl (hb hbytes d5) rfl ?_
    refine XS.aloadN X3.here hexec rfl (hb hbytes d6) rfl rfl ?_
    refine iconstV X3.here hexec rfl 0 (hb hbytes d7) (by decide) ?_
    refine XS.iloadN X3.here hexec rfl (hb hbytes d8) rfl ?_
    exact Steps.refl _)
  obtain ⟨v6, T6, X6, E6, g6⟩ := X3.callS hexec (Cmp5.law l b A s.heap.size B3 o 0 len) hown (wks W (staticW U16 115 Cmp5.yN)) (wk W Cmp5.tab) (W := 0) (Nat.le_of_ble_eq_true rfl) (Nat.le_of_ble_eq_true rfl) (Nat.le_refl _) (by show 0 + len + 0 ≤ len; omega) (g := (mkF m 9 #[.val (.ref b), .val (.int (Int32.ofNat o)), .val (.int (Int32.ofNat len)), .val (.ref s.heap.size), .unset, .unset] [.int (Int32.ofNat len), .int (Int32.ofNat 0), .ref s.heap.size, .int (Int32.ofNat o), .ref b])) rfl (by rw [hml]; rfl) c5 (argsL := [.ref b, .int (Int32.ofNat o), .ref s.heap.size, .int (Int32.ofNat 0), .int (Int32.ofNat len)]) (rest := []) rfl rfl (by show 2 * 0 + 0 ≤ _; decide) (hb hbytes d9) (⟨rfl, hA3, ba3, hne, l1, by rw [bs3]; simp, hp⟩)
  obtain ⟨rfl, B6, p6, f6⟩ := E6
  have c7 : Steps p.tables e below (s₁.setTop (entryFrame m #[.ref b, .int (Int32.ofNat o), .int (Int32.ofNat len)] 6)) (T6.setTop (mkF m 12 #[.val (.ref b), .val (.int (Int32.ofNat o)), .val (.int (Int32.ofNat len)), .val (.ref s.heap.size), .unset, .unset] [.int (Int32.ofNat len)])) := g6
  have c8 : Steps p.tables e below (s₁.setTop (entryFrame m #[.ref b, .int (Int32.ofNat o), .int (Int32.ofNat len)] 6)) (T6.setTop (mkF m 58 #[.val (.ref b), .val (.int (Int32.ofNat o)), .val (.int (Int32.ofNat len)), .val (.ref s.heap.size), .val (.int (Int32.ofNat len)), .unset] [.ref s.heap.size])) := c7.trans (by
    refine XS.istore X6.here hexec rfl (hb hbytes d12) rfl rfl ?_
    refine XS.iload X6.here hexec rfl (hb hbytes d14) rfl ?_
    refine XS.iloadN X6.here hexec rfl (hb hbytes d16) rfl ?_
    refine XS.icmpYes X6.here hexec rfl (pc0 := 17) rfl (hb hbytes d17) rfl (ii_eq_t rfl) (by decide) rfl ?_
    refine XS.aloadN X6.here hexec rfl (hb hbytes d57) rfl rfl ?_
    exact Steps.refl _)
  have X8 := X6.wide (L' := []) (cells' := 1) (slots' := len) (fun x hx hlt => by
    simp only [List.nil_append, copyLocs, List.mem_map, List.mem_range] at hx
    obtain ⟨i, -, rfl⟩ := hx
    exact absurd hlt (Nat.lt_irrefl _)) (Nat.le_refl _) (by omega)
  exact ⟨T6, some (.ref s.heap.size), _, _, _, X8, rfl, rfl, rfl, (fun h => by cases h), ⟨⟨rfl, B6, ba3.like (X3.warmed.alike.symm.trans X6.warmed.alike) p6.1 f6.1 f6.2.1 f6.2.2.1, f6.2.1.trans bv3, by rw [X6.warmed.alike.findClass, f6.1]; exact bf3, by rw [f6.2.2.1, bs3]; simp, fun j hj => by rw [f6.2.2.2 j, if_pos (by omega)]; rfl, kp3.put p6 (Nat.le_refl _)⟩, by rw [p6.2.2, bh3, hh0]; simp⟩, fun fs hl => c8.trans (X8.areturnOut hexec rfl hret rfl (hb hbytes d58) hl)⟩
end Cmp3
namespace CodL
def yN : MethodName := ⟨"java/lang/StringUTF16", "coderFromArrayLen", "([BI)B"⟩
abbrev yB : ByteArray := jdk_52_method_15_code
theorem d0 : decode yB 0 = .ok (.iload_n 1, 1) := by decide +kernel
theorem d1 : decode yB 1 = .ok (.aload_n 0, 1) := by decide +kernel
theorem d2 : decode yB 2 = .ok (.arraylength, 1) := by decide +kernel
theorem d3 : decode yB 3 = .ok (.isub, 1) := by decide +kernel
theorem d4 : decode yB 4 = .ok (.bipush 31, 2) := by decide +kernel
theorem d6 : decode yB 6 = .ok (.iushr, 1) := by decide +kernel
theorem d7 : decode yB 7 = .ok (.i2b, 1) := by decide +kernel
theorem d8 : decode yB 8 = .ok (.ireturn, 1) := by decide +kernel
def site : List Cond := []
def tab : Cond := tabOf yN yB 2 (some .byte) site
def P (d : Addr) (B : Cell) (args : Array Value) (s : State) : Prop := args = #[.ref d, .int (Int32.ofNat B.slots.size)] ∧ Arr .byte d B s
def E (r : Option Value) (s u : State) : Prop := XT.PureE (some (.int 0)) r s u
/-- an array as long as the number of chars: LATIN1 -/
theorem law (l : Launch) (d : Addr) (B : Cell) : Law l yN 2 2 0 0 yB 2 (some .byte) site (P d B) E [] 0 0 := by
  refine Law.of_walk (plainFor_of_name (by decide +kernel)) (by decide +kernel) (by decide +kernel) (by decide) (fun _ _ h => by rw [h.1]; rfl) (fun _ U U' hal hh h => ⟨h.1, h.2.mv hal hh⟩) (fun r U U' V V' h1 hal h2 h => XT.PureE.mv r U U' V V' h1 hal h2 h) ?_
  intro p e s m args below meth c s₁ X0 hexec hbytes hml hret hlk hnm hown hh0 W hP
  obtain ⟨rfl, hB⟩ := hP
  have hB0 := hB.mv X0.warmed.alike hh0
  have c1 : Steps p.tables e below (s₁.setTop (entryFrame m #[.ref d, .int (Int32.ofNat B.slots.size)] 2)) (s₁.setTop (mkF m 0 #[.val (.ref d), .val (.int (Int32.ofNat B.slots.size))] [])) := entry rfl
  have c2 : Steps p.tables e below (s₁.setTop (entryFrame m #[.ref d, .int (Int32.ofNat B.slots.size)] 2)) (s₁.setTop (mkF m 2 #[.val (.ref d), .val (.int (Int32.ofNat B.slots.size))] [.ref d, .int (Int32.ofNat B.slots.size)])) := c1.trans (by
    refine XS.iloadN X0.here hexec rfl (hb hbytes d0) rfl ?_
    refine XS.aloadN X0.here hexec rfl (hb hbytes d1) rfl rfl ?_
    exact Steps.refl _)
  have c3 : Steps p.tables e below (s₁.setTop (entryFrame m #[.ref d, .int (Int32.ofNat B.slots.size)] 2)) (s₁.setTop (mkF m 8 #[.val (.ref d), .val (.int (Int32.ofNat B.slots.size))] [.int (lo8 (ushr (Int32.ofNat B.slots.size - Int32.ofNat B.slots.size) 31))])) := c2.trans (by
    refine X0.alen hexec hB0 rfl rfl (hb hbytes d2) ?_
    refine XS.isub X0.here hexec rfl (hb hbytes d3) rfl ?_
    refine bipushV X0.here hexec rfl 31 (hb hbytes d4) (by decide) ?_
    refine iushr X0.here hexec rfl (hb hbytes d6) rfl ?_
    refine i2b X0.here hexec rfl (hb hbytes d7) rfl ?_
    exact Steps.refl _)
  have e0 : lo8 (ushr (Int32.ofNat B.slots.size - Int32.ofNat B.slots.size) 31) = 0 := by rw [Int32.sub_self]; decide
  rw [e0] at c3
  exact ⟨s₁, some (.int 0), _, _, _, X0, rfl, rfl, rfl, (fun h => by cases h), ⟨rfl, hh0⟩, fun fs hl => c3.trans (X0.ireturnOut hexec hret rfl (Or.inr (Or.inr (Or.inl rfl))) (hb hbytes d8) hl)⟩
end CodL
/-- the String at a is Latin-1 over a new byte[] (the heap's one new cell): the low bytes of the len chars of A from o on; every cell but a is kept -/
def Got (a : Addr) (D : Cell) (fV fC : Field) (A : Cell) (o len : Nat) (r : Option Value) (s u : State) : Prop := r = none ∧ ∃ D' V : Cell, Blank "java/lang/String" a D' u ∧ Same D D' [fV.slot, fC.slot] ∧ D'.slots[fV.slot]? = some (.ref s.heap.size) ∧ D'.slots[fC.slot]? = some (.int 0) ∧ Arr .byte s.heap.size V u ∧ V.vm = .none ∧ u.vm.findClass "[B" = some V.cls ∧ V.slots.size = len ∧ (∀ j, j < len → V.slots[j]? = some (.int (lo8 (cv A (o + j))))) ∧ (∀ (y : Addr) (c : Cell), y ≠ a → s.heap[y]? = some c → u.heap[y]? = some c) ∧ u.heap.size = s.heap.size + 1
theorem Got.mv {a : Addr} {D A : Cell} {fV fC : Field} {o len : Nat} : ∀ r (U U' V V' : State), U'.heap = U.heap → V.vm.Alike V'.vm → V'.heap = V.heap → Got a D fV fC A o len r U V → Got a D fV fC A o len r U' V' :=
  fun r U U' V V' h1 hal h2 ⟨e0, D', X, a1, a2, a3, a4, a5, a6, a7, a8, a9, a10, a11⟩ => ⟨e0, D', X, a1.mv hal h2, a2, by rw [h1]; exact a3, a4, by rw [h1]; exact a5.mv hal h2, a6, by rw [hal.findClass]; exact a7, a8, a9, by rw [h1, h2]; exact a10, by rw [h1, h2]; exact a11⟩
namespace New4
def yN : MethodName := ⟨"java/lang/String", "<init>", "([CIILjava/lang/Void;)V"⟩
abbrev yB : ByteArray := jdk_42_method_149_code
theorem d0 : decode yB 0 = .ok (.aload_n 0, 1) := by decide +kernel
theorem d1 : decode yB 1 = .ok (.invokespecial 1, 3) := by decide +kernel
theorem d4 : decode yB 4 = .ok (.iload_n 3, 1) := by decide +kernel
theorem d5 : decode yB 5 = .ok (.ifCond (.ne) 22, 3) := by decide +kernel
theorem d27 : decode yB 27 = .ok (.getstatic 38, 3) := by decide +kernel
theorem d30 : decode yB 30 = .ok (.ifCond (.eq) 28, 3) := by decide +kernel
theorem d33 : decode yB 33 = .ok (.aload_n 1, 1) := by decide +kernel
theorem d34 : decode yB 34 = .ok (.iload_n 2, 1) := by decide +kernel
theorem d35 : decode yB 35 = .ok (.iload_n 3, 1) := by decide +kernel
theorem d36 : decode yB 36 = .ok (.invokestatic 177, 3) := by decide +kernel
theorem d39 : decode yB 39 = .ok (.astore 5, 2) := by decide +kernel
theorem d41 : decode yB 41 = .ok (.aload_n 0, 1) := by decide +kernel
theorem d42 : decode yB 42 = .ok (.aload 5, 2) := by decide +kernel
theorem d44 : decode yB 44 = .ok (.iload_n 3, 1) := by decide +kernel
theorem d45 : decode yB 45 = .ok (.invokestatic 47, 3) := by decide +kernel
theorem d48 : decode yB 48 = .ok (.putfield 15, 3) := by decide +kernel
theorem d51 : decode yB 51 = .ok (.aload_n 0, 1) := by decide +kernel
theorem d52 : decode yB 52 = .ok (.aload 5, 2) := by decide +kernel
theorem d54 : decode yB 54 = .ok (.putfield 9, 3) := by decide +kernel
theorem d57 : decode yB 57 = .ok (.return_, 1) := by decide +kernel
def site : List Cond := [.fieldLink "java/lang/String" 38 "java/lang/String" "COMPACT_STRINGS" "Z", Cmp3.tab, CodL.tab, .laysFinal "java/lang/String" "java/lang/String" "value" "[B", .fieldLink "java/lang/String" 9 "java/lang/String" "value" "[B", .laysFinal "java/lang/String" "java/lang/String" "coder" "B", .fieldLink "java/lang/String" 15 "java/lang/String" "coder" "B"] ++ objW "java/lang/String" 1 ++ staticW "java/lang/String" 177 Cmp3.yN ++ staticW "java/lang/String" 47 CodL.yN
def tab : Cond := tabOf yN yB 6 none site
def P (a : Addr) (D : Cell) (fV fC : Field) (b : Addr) (A : Cell) (z : Int32) (o len : Nat) (args : Array Value) (s : State) : Prop := args = #[.ref a, .ref b, .int (Int32.ofNat o), .int (Int32.ofNat len), .null] ∧ Blank "java/lang/String" a D s ∧ Found "java/lang/String" "value" "[B" fV s ∧ Found "java/lang/String" "coder" "B" fC s ∧ Ch b A s ∧ StaticIs s "java/lang/String" "COMPACT_STRINGS" "Z" (.int z) ∧ ¬ z = 0 ∧ 0 < len ∧ o + len ≤ A.slots.size ∧ len ≤ 536870912 ∧ ∀ i, i < len → ¬ 255 < cv A (o + i)
def E (a : Addr) (D : Cell) (fV fC : Field) (A : Cell) (o len : Nat) (r : Option Value) (s u : State) : Prop := Got a D fV fC A o len r s u
/-- len > 0, no char of the range above 255: a Latin-1 String of their low bytes -/
theorem law (l : Launch) (a : Addr) (D : Cell) (fV fC : Field) (b : Addr) (A : Cell) (z : Int32) (o len : Nat) : Law l yN 5 4 2 35 yB 6 none site (P a D fV fC b A z o len) (E a D fV fC A o len) [⟨a, fC.slot⟩, ⟨a, fV.slot⟩] 1 len := by
  refine Law.of_walk (plainFor_of_name (by decide +kernel)) (by decide +kernel) (by decide +kernel) (by decide) (fun _ _ h => by rw [h.1]; rfl) (fun _ U U' hal hh h => ⟨h.1, h.2.1.mv hal hh, h.2.2.1.al hal, h.2.2.2.1.al hal, h.2.2.2.2.1.mv hal hh, h.2.2.2.2.2.1.there hal hh, h.2.2.2.2.2.2⟩) (fun r U U' V V' h1 hal h2 h => Got.mv r U U' V V' h1 hal h2 h) ?_
  intro p e s m args below meth c s₁ X0 hexec hbytes hml hret hlk hnm hown hh0 W hP
  obtain ⟨rfl, hB, f1, f2, hA, s1, hz, l0, l1, l2, hp⟩ := hP
  have a31 := hA.1.2.2.2
  have c1 : Steps p.tables e below (s₁.setTop (entryFrame m #[.ref a, .ref b, .int (Int32.ofNat o), .int (Int32.ofNat len), .null] 6)) (s₁.setTop (mkF m 0 #[.val (.ref a), .val (.ref b), .val (.int (Int32.ofNat o)), .val (.int (Int32.ofNat len)), .val .null, .unset] [])) := entry rfl
  have c2 : Steps p.tables e below (s₁.setTop (entryFrame m #[.ref a, .ref b, .int (Int32.ofNat o), .int (Int32.ofNat len), .null] 6)) (s₁.setTop (mkF m 1 #[.val (.ref a), .val (.ref b), .val (.int (Int32.ofNat o)), .val (.int (Int32.ofNat len)), .val .null, .unset] [.ref a])) := c1.trans (by
    refine XS.aloadN X0.here hexec rfl (hb hbytes d0) rfl rfl ?_
    exact Steps.refl _)
  obtain ⟨T3, X3, q3, st3⟩ := X0.oinit hexec hown (wks W (objW "java/lang/String" 1)) (g := (mkF m 1 #[.val (.ref a), .val (.ref b), .val (.int (Int32.ofNat o)), .val (.int (Int32.ofNat len)), .val .null, .unset] [.ref a])) rfl (by rw [hml]; rfl) (rest := []) rfl (hb hbytes d1) (W := 0) (by show 2 * 0 + 0 ≤ _; decide) (Nat.le_of_ble_eq_true rfl) (Nat.le_of_ble_eq_true rfl)
  have hh3 := q3.trans hh0
  have c4 : Steps p.tables e below (s₁.setTop (entryFrame m #[.ref a, .ref b, .int (Int32.ofNat o), .int (Int32.ofNat len), .null] 6)) (T3.setTop (mkF m 27 #[.val (.ref a), .val (.ref b), .val (.int (Int32.ofNat o)), .val (.int (Int32.ofNat len)), .val .null, .unset] [])) := (c2.trans (st3 _ (Steps.refl _))).trans (by
    refine XS.iloadN X3.here hexec rfl (hb hbytes d4) rfl ?_
    refine XS.ifYes X3.here hexec rfl (pc0 := 5) rfl (hb hbytes d5) rfl (i0_ne_t (nz32 (by omega) l0)) (by decide) rfl ?_
    exact Steps.refl _)
  obtain ⟨T5, X5, q5, st5⟩ := X3.sget hexec hown (wk W (.fieldLink "java/lang/String" 38 "java/lang/String" "COMPACT_STRINGS" "Z")) s1 (fun _ _ h => by rw [hh3]; exact h) (g := (mkF m 27 #[.val (.ref a), .val (.ref b), .val (.int (Int32.ofNat o)), .val (.int (Int32.ofNat len)), .val .null, .unset] [])) rfl (hb hbytes d27)
  have hh5 := q5.trans hh3
  have c6 : Steps p.tables e below (s₁.setTop (entryFrame m #[.ref a, .ref b, .int (Int32.ofNat o), .int (Int32.ofNat len), .null] 6)) (T5.setTop (mkF m 30 #[.val (.ref a), .val (.ref b), .val (.int (Int32.ofNat o)), .val (.int (Int32.ofNat len)), .val .null, .unset] [.int z])) := c4.trans (st5 _ (Steps.refl _))
  have c7 : Steps p.tables e below (s₁.setTop (entryFrame m #[.ref a, .ref b, .int (Int32.ofNat o), .int (Int32.ofNat len), .null] 6)) (T5.setTop (mkF m 36 #[.val (.ref a), .val (.ref b), .val (.int (Int32.ofNat o)), .val (.int (Int32.ofNat len)), .val .null, .unset] [.int (Int32.ofNat len), .int (Int32.ofNat o), .ref b])) := c6.trans (by
    refine XS.ifNo X5.here hexec rfl (hb hbytes d30) rfl (i0_eq_f hz) ?_
    refine XS.aloadN X5.here hexec rfl (hb hbytes d33) rfl rfl ?_
    refine XS.iloadN X5.here hexec rfl (hb hbytes d34) rfl ?_
    refine XS.iloadN X5.here hexec rfl (hb hbytes d35) rfl ?_
    exact Steps.refl _)
  obtain ⟨v8, T8, X8, E8, g8⟩ := X5.callS hexec (Cmp3.law l b A o len) hown (wks W (staticW "java/lang/String" 177 Cmp3.yN)) (wk W Cmp3.tab) (W := 0) (Nat.le_of_ble_eq_true rfl) (Nat.le_of_ble_eq_true rfl) (Nat.le_refl _) (by show 0 + len ≤ len; omega) (g := (mkF m 36 #[.val (.ref a), .val (.ref b), .val (.int (Int32.ofNat o)), .val (.int (Int32.ofNat len)), .val .null, .unset] [.int (Int32.ofNat len), .int (Int32.ofNat o), .ref b])) rfl (by rw [hml]; rfl) c7 (argsL := [.ref b, .int (Int32.ofNat o), .int (Int32.ofNat len)]) (rest := []) rfl rfl (by show 2 * 0 + 0 ≤ _; decide) (hb hbytes d36) (⟨rfl, hA.mv X5.warmed.alike hh5, l1, l2, hp⟩)
  obtain ⟨e8, z8⟩ := E8
  obtain ⟨rfl, N, n1, n2, n3, n4, n5, n6⟩ := NewArr.mv _ T5 s _ _ hh5.symm (Vm.Alike.refl _) rfl e8
  rw [hh5] at z8
  have hB1 := hB.keep X8.warmed.alike (n6 _ _ hB.1)
  have hne : s.heap.size ≠ a := (Nat.ne_of_lt (Array.getElem?_eq_some_iff.mp hB.1).1).symm
  have c9 : Steps p.tables e below (s₁.setTop (entryFrame m #[.ref a, .ref b, .int (Int32.ofNat o), .int (Int32.ofNat len), .null] 6)) (T8.setTop (mkF m 39 #[.val (.ref a), .val (.ref b), .val (.int (Int32.ofNat o)), .val (.int (Int32.ofNat len)), .val .null, .unset] [.ref s.heap.size])) := g8
  have c10 : Steps p.tables e below (s₁.setTop (entryFrame m #[.ref a, .ref b, .int (Int32.ofNat o), .int (Int32.ofNat len), .null] 6)) (T8.setTop (mkF m 45 #[.val (.ref a), .val (.ref b), .val (.int (Int32.ofNat o)), .val (.int (Int32.ofNat len)), .val .null, .val (.ref s.heap.size)] [.int (Int32.ofNat N.slots.size), .ref s.heap.size, .ref a])) := by
    have hc : Steps p.tables e below (s₁.setTop (entryFrame m #[.ref a, .ref b, .int (Int32.ofNat o), .int (Int32.ofNat len), .null] 6)) (T8.setTop (mkF m 45 #[.val (.ref a), .val (.ref b), .val (.int (Int32.ofNat o)), .val (.int (Int32.ofNat len)), .val .null, .val (.ref s.heap.size)] [.int (Int32.ofNat len), .ref s.heap.size, .ref a])) := c9.trans (by
      refine XS.astore X8.here hexec rfl (hb hbytes d39) rfl rfl rfl ?_
      refine XS.aloadN X8.here hexec rfl (hb hbytes d41) rfl rfl ?_
      refine XS.aload X8.here hexec rfl (hb hbytes d42) rfl rfl ?_
      refine XS.iloadN X8.here hexec rfl (hb hbytes d44) rfl ?_
      exact Steps.refl _)
    rw [n4]; exact hc
  obtain ⟨v11, T11, X11, E11, g11⟩ := X8.callS hexec (CodL.law l s.heap.size N) hown (wks W (staticW "java/lang/String" 47 CodL.yN)) (wk W CodL.tab) (W := 1) (Nat.le_of_ble_eq_true rfl) (Nat.le_of_ble_eq_true rfl) (Nat.le_refl _) (by show 0 + len + 0 ≤ len; omega) (g := (mkF m 45 #[.val (.ref a), .val (.ref b), .val (.int (Int32.ofNat o)), .val (.int (Int32.ofNat len)), .val .null, .val (.ref s.heap.size)] [.int (Int32.ofNat N.slots.size), .ref s.heap.size, .ref a])) rfl (by rw [hml]; rfl) c10 (argsL := [.ref s.heap.size, .int (Int32.ofNat N.slots.size)]) (rest := [.ref a]) rfl rfl (by show 2 * 0 + (1 + 0) ≤ _; decide) (hb hbytes d45) (⟨rfl, n1⟩)
  obtain ⟨rfl, q11⟩ := E11
  have hB11 := hB1.mv (X8.warmed.alike.symm.trans X11.warmed.alike) q11
  have c12 : Steps p.tables e below (s₁.setTop (entryFrame m #[.ref a, .ref b, .int (Int32.ofNat o), .int (Int32.ofNat len), .null] 6)) (T11.setTop (mkF m 48 #[.val (.ref a), .val (.ref b), .val (.int (Int32.ofNat o)), .val (.int (Int32.ofNat len)), .val .null, .val (.ref s.heap.size)] [.int 0, .ref a])) := g11
  obtain ⟨T13, X13, p13, bl13, sl13, st13⟩ := X11.finit hexec hown (wk W (.fieldLink "java/lang/String" 15 "java/lang/String" "coder" "B")) (Or.inr ⟨_, (wk W (.laysFinal "java/lang/String" "java/lang/String" "coder" "B"))⟩) (Or.inl ⟨rfl, hnm⟩) f2 (Or.inl rfl) hB11 (t := .byte) (by decide +kernel) rfl (g := (mkF m 48 #[.val (.ref a), .val (.ref b), .val (.int (Int32.ofNat o)), .val (.int (Int32.ofNat len)), .val .null, .val (.ref s.heap.size)] [.int 0, .ref a])) rfl (rest := []) rfl (hb hbytes d48)
  have c14 : Steps p.tables e below (s₁.setTop (entryFrame m #[.ref a, .ref b, .int (Int32.ofNat o), .int (Int32.ofNat len), .null] 6)) (T13.setTop (mkF m 54 #[.val (.ref a), .val (.ref b), .val (.int (Int32.ofNat o)), .val (.int (Int32.ofNat len)), .val .null, .val (.ref s.heap.size)] [.ref s.heap.size, .ref a])) := (c12.trans (st13 _ (Steps.refl _))).trans (by
    refine XS.aloadN X13.here hexec rfl (hb hbytes d51) rfl rfl ?_
    refine XS.aload X13.here hexec rfl (hb hbytes d52) rfl rfl ?_
    exact Steps.refl _)
  obtain ⟨T15, X15, p15, bl15, sl15, st15⟩ := X13.finit hexec hown (wk W (.fieldLink "java/lang/String" 9 "java/lang/String" "value" "[B")) (Or.inr ⟨_, (wk W (.laysFinal "java/lang/String" "java/lang/String" "value" "[B"))⟩) (Or.inl ⟨rfl, hnm⟩) f1 (Or.inl rfl) bl13 (t := (.array .byte)) (by decide +kernel) rfl (g := (mkF m 54 #[.val (.ref a), .val (.ref b), .val (.int (Int32.ofNat o)), .val (.int (Int32.ofNat len)), .val .null, .val (.ref s.heap.size)] [.ref s.heap.size, .ref a])) rfl (rest := []) rfl (hb hbytes d54)
  have c16 : Steps p.tables e below (s₁.setTop (entryFrame m #[.ref a, .ref b, .int (Int32.ofNat o), .int (Int32.ofNat len), .null] 6)) (T15.setTop (mkF m 57 #[.val (.ref a), .val (.ref b), .val (.int (Int32.ofNat o)), .val (.int (Int32.ofNat len)), .val .null, .val (.ref s.heap.size)] [])) := c14.trans (st15 _ (Steps.refl _))
  have ap := apart (Or.inr ⟨_, (wk W (.laysFinal "java/lang/String" "java/lang/String" "value" "[B"))⟩) (Or.inr ⟨_, (wk W (.laysFinal "java/lang/String" "java/lang/String" "coder" "B"))⟩) f1 f2 (t₁ := .array .byte) (t₂ := .byte) (by decide +kernel) (by decide +kernel) (by decide)
  have al := X8.warmed.alike.symm.trans X15.warmed.alike
  have n7 : T11.heap[s.heap.size]? = some N := by rw [q11]; exact n1.1
  exact ⟨T15, none, _, _, _, X15, by simp, rfl, by omega, (fun _ => rfl), ⟨rfl, _, N, bl15, ((Same.refl D _).set _ (by simp)).set _ (by simp), sl15, (Cell.slots_setSlot_ne _ ap).trans sl13, n1.keep al (p15.other hne (p13.other hne n7)), n2, by rw [al.findClass]; exact n3, n4, n5, fun y c h1 h2 => p15.other h1 (p13.other h1 (by rw [q11]; exact n6 y c h2)), by rw [p15.2.2, p13.2.2, q11]; exact z8⟩, fun fs hl => c16.trans (X15.returnOut hexec hret (hb hbytes d57) hl)⟩
end New4
namespace New1
def yN : MethodName := ⟨"java/lang/String", "<init>", "([C)V"⟩
abbrev yB : ByteArray := jdk_42_method_3_code
theorem d0 : decode yB 0 = .ok (.aload_n 0, 1) := by decide +kernel
theorem d1 : decode yB 1 = .ok (.aload_n 1, 1) := by decide +kernel
theorem d2 : decode yB 2 = .ok (.iconst 0, 1) := by decide +kernel
theorem d3 : decode yB 3 = .ok (.aload_n 1, 1) := by decide +kernel
theorem d4 : decode yB 4 = .ok (.arraylength, 1) := by decide +kernel
theorem d5 : decode yB 5 = .ok (.aconst_null, 1) := by decide +kernel
theorem d6 : decode yB 6 = .ok (.invokespecial 27, 3) := by decide +kernel
theorem d9 : decode yB 9 = .ok (.return_, 1) := by decide +kernel
def site : List Cond := [New4.tab] ++ initW "java/lang/String" 27 New4.yN
def tab : Cond := tabOf yN yB 2 none site
def P (a : Addr) (D : Cell) (fV fC : Field) (b : Addr) (A : Cell) (z : Int32) (args : Array Value) (s : State) : Prop := args = #[.ref a, .ref b] ∧ Blank "java/lang/String" a D s ∧ Found "java/lang/String" "value" "[B" fV s ∧ Found "java/lang/String" "coder" "B" fC s ∧ Ch b A s ∧ StaticIs s "java/lang/String" "COMPACT_STRINGS" "Z" (.int z) ∧ ¬ z = 0 ∧ 0 < A.slots.size ∧ A.slots.size ≤ 536870912 ∧ ∀ i, i < A.slots.size → ¬ 255 < cv A i
def E (a : Addr) (D : Cell) (fV fC : Field) (A : Cell) (r : Option Value) (s u : State) : Prop := Got a D fV fC A 0 A.slots.size r s u
/-- new String(chars), not empty, no char above 255: a Latin-1 String of their low bytes -/
theorem law (l : Launch) (a : Addr) (D : Cell) (fV fC : Field) (b : Addr) (A : Cell) (z : Int32) : Law l yN 2 1 3 52 yB 2 none site (P a D fV fC b A z) (E a D fV fC A) [⟨a, fC.slot⟩, ⟨a, fV.slot⟩] 1 A.slots.size := by
  refine Law.of_walk (plainFor_of_name (by decide +kernel)) (by decide +kernel) (by decide +kernel) (by decide) (fun _ _ h => by rw [h.1]; rfl) (fun _ U U' hal hh h => ⟨h.1, h.2.1.mv hal hh, h.2.2.1.al hal, h.2.2.2.1.al hal, h.2.2.2.2.1.mv hal hh, h.2.2.2.2.2.1.there hal hh, h.2.2.2.2.2.2⟩) (fun r U U' V V' h1 hal h2 h => Got.mv r U U' V V' h1 hal h2 h) ?_
  intro p e s m args below meth c s₁ X0 hexec hbytes hml hret hlk hnm hown hh0 W hP
  obtain ⟨rfl, hB, f1, f2, hA, s1, hz, l0, l2, hp⟩ := hP
  have c1 : Steps p.tables e below (s₁.setTop (entryFrame m #[.ref a, .ref b] 2)) (s₁.setTop (mkF m 0 #[.val (.ref a), .val (.ref b)] [])) := entry rfl
  have c2 : Steps p.tables e below (s₁.setTop (entryFrame m #[.ref a, .ref b] 2)) (s₁.setTop (mkF m 6 #[.val (.ref a), .val (.ref b)] [.null, .int (Int32.ofNat A.slots.size), .int 0, .ref b, .ref a])) := c1.trans (by
    refine XS.aloadN X0.here hexec rfl (hb hbytes d0) rfl rfl ?_
    refine XS.aloadN X0.here hexec rfl (hb hbytes d1) rfl rfl ?_
    refine iconstV X0.here hexec rfl 0 (hb hbytes d2) (by decide) ?_
    refine XS.aloadN X0.here hexec rfl (hb hbytes d3) rfl rfl ?_
    refine X0.alen hexec (hA.1.mv X0.warmed.alike hh0) rfl rfl (hb hbytes d4) ?_
    refine XS.aconstNull X0.here hexec rfl (hb hbytes d5) ?_
    exact Steps.refl _)
  obtain ⟨v3, T3, X3, E3, g3⟩ := X0.callN hexec (New4.law l a D fV fC b A z 0 A.slots.size) rfl hown (wks W (initW "java/lang/String" 27 New4.yN)) (W New4.tab (by simp only [site, List.mem_cons, List.mem_append, true_or, or_true])) (W := 0) (Nat.le_of_ble_eq_true rfl) (Nat.le_of_ble_eq_true rfl) (Nat.le_refl _) (by show 0 + A.slots.size ≤ A.slots.size; omega) (g := (mkF m 6 #[.val (.ref a), .val (.ref b)] [.null, .int (Int32.ofNat A.slots.size), .int (Int32.ofNat 0), .ref b, .ref a])) rfl (by rw [hml]; rfl) c2 (argsL := [.ref b, .int (Int32.ofNat 0), .int (Int32.ofNat A.slots.size), .null]) (rest := []) rfl rfl (by show 2 * 0 + 0 ≤ _; decide) (hb hbytes d6) (⟨rfl, hB.mv X0.warmed.alike hh0, f1.al X0.warmed.alike, f2.al X0.warmed.alike, hA.mv X0.warmed.alike hh0, s1.there X0.warmed.alike hh0, hz, l0, by omega, l2, fun i hi => by rw [Nat.zero_add]; exact hp i hi⟩)
  have e0 := Got.mv _ s₁ s _ _ hh0.symm (Vm.Alike.refl _) rfl E3
  obtain rfl := e0.1
  have c4 : Steps p.tables e below (s₁.setTop (entryFrame m #[.ref a, .ref b] 2)) (T3.setTop (mkF m 9 #[.val (.ref a), .val (.ref b)] [])) := g3
  exact ⟨T3, none, _, _, _, X3, by simp, rfl, by omega, (fun _ => rfl), e0, fun fs hl => c4.trans (X3.returnOut hexec hret (hb hbytes d9) hl)⟩
theorem pays {l : Launch} {R : Room} {p : Program} {e : Env} {below : List Frame} {s : State} {sargs : Array Value} {len W : Nat} (a : Addr) (D : Cell) (fV fC : Field) (b : Addr) (A : Cell) (z : Int32) (htab : tab.before sargs s = true) (hfr : 4 ≤ R.frames) (hlo : W + 65 ≤ R.locals) :
    Back l R p e below s sargs yN len W (fun A₁ a₁ => A₁.cells + 1 ≤ R.cells ∧ A₁.slots + A.slots.size ≤ R.slots ∧ P a D fV fC b A z a₁ A₁.U) (fun A₁ _ v₁ B₁ => E a D fV fC A v₁ A₁.U B₁.U ∧ B₁.locs = A₁.locs ++ [⟨a, fC.slot⟩, ⟨a, fV.slot⟩] ∧ B₁.cells = A₁.cells + 1 ∧ B₁.slots = A₁.slots + A.slots.size) :=
  (law l a D fV fC b A z).pays htab hfr (by omega)
end New1
end StrChars
namespace StrChars.Road
open Jvm Sem ClassFile Op Lib Jvm.Stand Jvm.Free Jvm.Free.XT
open Jvm.Lib.Cold (StaticIs)
abbrev ST : String := "java/lang/String"
/-- every table word that New1's law asks, flat -/
abbrev words : List Jvm.Cond := [.code New1.yN New1.yB 2 none, .initialized ST, .methodLink ST 27 New4.yN, .instanceMethod New4.yN,
  .code New4.yN New4.yB 6 none, .fieldLink ST 38 ST "COMPACT_STRINGS" "Z", .laysFinal ST ST "value" "[B", .fieldLink ST 9 ST "value" "[B", .laysFinal ST ST "coder" "B", .fieldLink ST 15 ST "coder" "B",
  .methodLink ST 1 Lib.objectInit, .instanceMethod Lib.objectInit, .code Lib.objectInit ⟨#[0xb1]⟩ 1 none, .methodLink ST 177 Cmp3.yN, .static Cmp3.yN, .methodLink ST 47 CodL.yN, .static CodL.yN,
  .code Cmp3.yN Cmp3.yB 6 (some (.array .byte)), .initialized U16, .arrayClass .byte, .methodLink U16 115 Cmp5.yN, .static Cmp5.yN, .code Cmp5.yN Cmp5.yB 7 (some .int), .code CodL.yN CodL.yB 2 (some .byte)]
theorem tab_of {a : Array Value} {s : State} (h : ∀ w ∈ words, w.before a s = true) : New1.tab.before a s = true := by
  have h5 : Cmp5.tab.before a s = true := unparts (wk h (.code Cmp5.yN Cmp5.yB 7 (some .int))) (wks h (.initialized Cmp5.yN.cls :: Cmp5.site))
  have hc : CodL.tab.before a s = true := unparts (wk h (.code CodL.yN CodL.yB 2 (some .byte))) (wks h (.initialized CodL.yN.cls :: CodL.site))
  have q5 : ∀ w ∈ Cmp5.tab :: words, w.before a s = true := fun w hw => (List.mem_cons.mp hw).elim (fun e => e ▸ h5) (h w)
  have h3 : Cmp3.tab.before a s = true := unparts (wk q5 (.code Cmp3.yN Cmp3.yB 6 (some (.array .byte)))) (wks q5 (.initialized Cmp3.yN.cls :: Cmp3.site))
  have q3 : ∀ w ∈ Cmp3.tab :: CodL.tab :: words, w.before a s = true := fun w hw => (List.mem_cons.mp hw).elim (fun e => e ▸ h3) fun hw => (List.mem_cons.mp hw).elim (fun e => e ▸ hc) (h w)
  have h4 : New4.tab.before a s = true := unparts (wk q3 (.code New4.yN New4.yB 6 none)) (wks q3 (.initialized New4.yN.cls :: New4.site))
  have q4 : ∀ w ∈ New4.tab :: words, w.before a s = true := fun w hw => (List.mem_cons.mp hw).elim (fun e => e ▸ h4) (h w)
  exact unparts (wk q4 (.code New1.yN New1.yB 2 none)) (wks q4 (.initialized New1.yN.cls :: New1.site))
/-- the words ride from the start Z to the walk's own state -/
theorem moved {Z s : State} {a0 args : Array Value} (hZ : Z.Warmed39 s.vm) (hw : ∀ d ∈ words, d.before a0 Z = true) : ∀ d ∈ words, d.before args s = true := fun d hd => by
  have q := hw d hd
  have t : ∀ d ∈ words, d = .arrayClass .byte ∨ (d.onTables && d.keepsFace) = true := by decide +kernel
  rcases t d hd with rfl | t
  · exact RoadKit.mvA hZ q
  · exact RoadKit.mv hZ q t
/-- WHAT COMES BACK, over the tables of the start Z: h the heap at the call, h' behind it -/
def Q (Z : State) (x : Addr) (A : Cell) (h : Heap) (v : Option Value) (h' : Heap) (L : List Loc) : Prop := v = none ∧ (∀ y ∈ L, y.base = x) ∧ RoadKit.Keep h h' [x] ∧ h'.size = h.size + 1 ∧ RoadKit.Exa Z h' x ST ∧ RoadKit.Fld Z h' x ST "value" "[B" (.ref h.size) ∧ RoadKit.Fld Z h' x ST "coder" "B" (.int 0) ∧
  (∃ V : Cell, RoadKit.Arr Z h' h.size V .byte ∧ V.vm = .none ∧ Z.vm.findClass "[B" = some V.cls ∧ V.slots.size = A.slots.size ∧ ∀ j, j < A.slots.size → V.slots[j]? = some (.int (lo8 (cv A j)))) ∧
  ∀ (O n d : String) (w : Value), RoadKit.Fld Z h x O n d w → RoadKit.slotOf Z O n d ≠ RoadKit.slotOf Z ST "value" "[B" → RoadKit.slotOf Z O n d ≠ RoadKit.slotOf Z ST "coder" "B" → RoadKit.Fld Z h' x O n d w
/-- **new String(chars) AT A CALL, IN THE ROAD'S FORM**: for specialBack behind newO: x the fresh String, b the char[] with the cell A -/
theorem back {p : Program} {l : Launch} {e : Env} {R : Room} {s : State} {args : Array Value} {below : List Frame} {len W : Nat} {Z : State} {a0 : Array Value} {h : Heap} (hZ : Z.Warmed39 s.vm) (hw : ∀ d ∈ words, d.before a0 Z = true) {kI : Nat} (wi : (Jvm.Cond.instantiable ST kI).before a0 Z = true)
    {x b : Addr} {A : Cell} {z : Int32} {v0 c0 : Value} (E : RoadKit.Exa Z h x ST) (V : RoadKit.Fld Z h x ST "value" "[B" v0) (C : RoadKit.Fld Z h x ST "coder" "B" c0) (K : RoadKit.Arr Z h b A .char) (hty : Typed .char A) (S : RoadKit.Sta Z h ST "COMPACT_STRINGS" "Z" (.int z)) (hz : ¬ z = 0)
    (l0 : 0 < A.slots.size) (l2 : A.slots.size ≤ 536870912) (hp : ∀ i, i < A.slots.size → ¬ 255 < cv A i) (hfr : 4 ≤ R.frames) (hlo : W + 65 ≤ R.locals) :
    Back l R p e below s args New1.yN len W (fun P a => a = #[.ref x, .ref b] ∧ P.U.heap = h ∧ P.cells + 1 ≤ R.cells ∧ P.slots + A.slots.size ≤ R.slots)
      (fun P _ v B => ∃ L, Q Z x A h v B.U.heap L ∧ B.locs = P.locs ++ L ∧ B.cells = P.cells + 1 ∧ B.slots = P.slots + A.slots.size) := by
  intro m meth c P g ig mk a X hg hsize hdg hW hn hp'
  obtain ⟨rfl, rfl, r1, r2⟩ := hp'
  have al : Z.vm.Alike P.U.vm := hZ.alike.trans X.warmed.alike
  obtain ⟨D, cfV, kV, iV, fV, hD, gV, stV, knV, obV, asV, slV⟩ := id V
  obtain ⟨D', cfC, kC, iC, fC, hD', gC, stC, -, -, asC, slC⟩ := id C
  cases hD.symm.trans hD'
  obtain ⟨D2, kD, e1, e2, e3, e4, e5⟩ := id E
  cases hD.symm.trans e1
  obtain ⟨c2, k2, i1, i2, i3, -⟩ := Cond.instantiable_spec wi
  cases e2.symm.trans i1
  cases e3.symm.trans i2
  obtain ⟨kU, u1, u2⟩ := al.2.2 _ _ e3
  have hB : Blank ST x D P.U := ⟨hD, ⟨knV, fun q hq => by rw [hq] at obV; cases obV⟩, by rw [al.findClass]; exact e2, kU, u1, by rw [u2]; exact i3, by rw [u2]; exact e5 i3⟩
  have F1 : Found ST "value" "[B" fV P.U := ⟨SBG.found_only al ⟨cfV, kV, iV, gV⟩, stV⟩
  have F2 : Found ST "coder" "B" fC P.U := ⟨SBG.found_only al ⟨cfC, kC, iC, gC⟩, stC⟩
  have hA : Ch b A P.U := ⟨⟨K.1, State.isArrayOf_alike al K.2.1, K.2.2, by omega⟩, hty⟩
  have hS : StaticIs P.U ST "COMPACT_STRINGS" "Z" (.int z) := by
    obtain ⟨cfS, iS, kS, fS, st, cS, t1, t2, t3, t4, t5, t6, t7⟩ := S
    exact StaticIs.there (s := { Z with heap := P.U.heap }) ⟨cfS, iS, kS, fS, st, cS, t1, t2, t3, t4, t5, (fun q => by rw [q] at t6; cases t6), t7⟩ al rfl
  obtain ⟨v, B, X', ⟨⟨hv, E', V', q1, q2, q3, q4, q5, q6, q7, q8, q9, q10, q11⟩, hl, hc, hs⟩, st⟩ := New1.pays x D fV fC b A z (tab_of (moved hZ hw)) hfr hlo m meth c P g ig mk _ X hg hsize hdg hW hn ⟨r1, r2, rfl, hB, F1, F2, hA, hS, hz, l0, l2, hp⟩
  have al' : Z.vm.Alike B.U.vm := hZ.alike.trans X'.warmed.alike
  have hsz : E'.slots.size = D.slots.size := by
    obtain ⟨-, -, -, kB, w1, w2, w3⟩ := q1
    obtain ⟨kB', y1, y2⟩ := al'.2.2 _ _ e3
    rw [q2.2.1] at w1
    cases w1.symm.trans y1
    rw [w3, e5 i3, y2]
  refine ⟨v, B, X', ⟨_, ⟨hv, ?_, ⟨by omega, fun y cy hy hn' => q10 y cy (by simpa using hn') hy, fun y cy hy => ?_⟩, q11, ⟨E', _, q1.1, by rw [q2.2.1]; exact e2, by rw [q2.2.1]; exact e3, by rw [q2.1]; exact obV, fun _ => by rw [hsz]; exact e5 i3⟩,
    ⟨E', cfV, kV, iV, fV, q1.1, gV, stV, by rw [q2.1]; exact knV, by rw [q2.1]; exact obV, by rw [q2.2.1]; exact asV, q3⟩, ⟨E', cfC, kC, iC, fC, q1.1, gC, stC, by rw [q2.1]; exact knV, by rw [q2.1]; exact obV, by rw [q2.2.1]; exact asC, q4⟩,
    ⟨V', ⟨q5.1, State.isArrayOf_alike al'.symm q5.2.1, q5.2.2.1⟩, q6, by rw [← al'.findClass]; exact q7, q8, fun j hj => by have := q9 j hj; rwa [Nat.zero_add] at this⟩, fun O n d w F n1 n2 => ?_⟩, hl, hc, hs⟩, st⟩
  · intro y hy
    simp only [List.mem_cons, List.not_mem_nil, or_false] at hy
    rcases hy with rfl | rfl <;> rfl
  · by_cases q : y = x
    · subst q
      cases hD.symm.trans hy
      exact ⟨E', q1.1, q2.2.1, q2.1, hsz⟩
    · exact ⟨cy, q10 y cy q hy, rfl, rfl, rfl⟩
  · obtain ⟨D3, cf, k, i, f, g1, g2, g3, g4, g5, g6, g7⟩ := F
    cases hD.symm.trans g1
    simp only [RoadKit.slotOf, g2, gV, gC, Option.map_some, Option.getD_some] at n1 n2
    exact ⟨E', cf, k, i, f, q1.1, g2, g3, by rw [q2.1]; exact g4, by rw [q2.1]; exact g5, by rw [q2.2.1]; exact g6, by rw [q2.2.2 f.slot (by simp [n1, n2])]; exact g7⟩
end StrChars.Road
namespace StrChars.Road
open Jvm Sem ClassFile Op Lib Jvm.Stand Jvm.Free Jvm.Free.XT
/-- WHAT COMES BACK, the byte[] as a list of values -/
def QA (Z : State) (x : Addr) (zn : Int32) (cs : List Int32) (h : Heap) (v : Option Value) (h' : Heap) (L : List Loc) : Prop := v = none ∧ (∀ y ∈ L, y.base = x) ∧ RoadKit.Keep h h' [x] ∧ h'.size = h.size + 1 ∧ RoadKit.Exa Z h' x ST ∧ RoadKit.Fld Z h' x ST "value" "[B" (.ref h.size) ∧ RoadKit.Fld Z h' x ST "coder" "B" (.int 0) ∧
  (∃ kb, Z.vm.findClass "[B" = some kb ∧ RoadKit.Arv Z h' h.size kb .byte zn (cs.map fun c => .int (lo8 c)) (.int 0)) ∧
  ∀ (O n d : String) (w : Value), RoadKit.Fld Z h x O n d w → RoadKit.slotOf Z O n d ≠ RoadKit.slotOf Z ST "value" "[B" → RoadKit.slotOf Z O n d ≠ RoadKit.slotOf Z ST "coder" "B" → RoadKit.Fld Z h' x O n d w
/-- **new String(chars) AT A CALL, THE ARRAYS AS LISTS**: the char[] at b holds cs, not empty, no char above 255 -/
theorem backArv {p : Program} {l : Launch} {e : Env} {R : Room} {s : State} {args : Array Value} {below : List Frame} {len W : Nat} {Z : State} {a0 : Array Value} {h : Heap} (hZ : Z.Warmed39 s.vm) (hw : ∀ d ∈ words, d.before a0 Z = true) {kI : Nat} (wi : (Jvm.Cond.instantiable ST kI).before a0 Z = true)
    {x b : Addr} {k : ClassId} {zn z : Int32} {cs : List Int32} {dv v0 c0 : Value} (E : RoadKit.Exa Z h x ST) (V : RoadKit.Fld Z h x ST "value" "[B" v0) (C : RoadKit.Fld Z h x ST "coder" "B" c0) (K : RoadKit.Arv Z h b k .char zn (cs.map Value.int) dv) (S : RoadKit.Sta Z h ST "COMPACT_STRINGS" "Z" (.int z)) (hz : ¬ z = 0)
    (hlen : zn.toNatClampNeg = cs.length) (h0 : 0 < cs.length) (hbig : cs.length ≤ 536870912) (hall : ∀ c ∈ cs, ¬ 255 < c) (hfr : 4 ≤ R.frames) (hlo : W + 65 ≤ R.locals) :
    Back l R p e below s args New1.yN len W (fun P a => a = #[.ref x, .ref b] ∧ P.U.heap = h ∧ P.cells + 1 ≤ R.cells ∧ P.slots + cs.length ≤ R.slots)
      (fun P _ v B => ∃ L, QA Z x zn cs h v B.U.heap L ∧ B.locs = P.locs ++ L ∧ B.cells = P.cells + 1 ∧ B.slots = P.slots + cs.length) := by
  obtain ⟨A, K1, K2, K3, K4, K5, K6⟩ := K
  have e : A.slots.size = cs.length := K3.trans hlen
  have hat : ∀ (i : Nat) (hi : i < cs.length), A.slots[i]? = some (.int cs[i]) := fun i hi => by rw [K5 i (by omega)]; simp [List.getD_eq_getElem?_getD, hi]
  have hcv : ∀ (i : Nat) (hi : i < cs.length), cv A i = cs[i] := fun i hi => by unfold cv; rw [hat i hi]
  have hty : Typed .char A := fun i v hv => by
    have hi : i < A.slots.size := (Array.getElem?_eq_some_iff.mp hv).1
    have q := K5 i hi
    rw [hv] at q
    rw [Option.some.inj q]
    exact K6 i hi
  refine Back.mono (back hZ hw wi E V C K1 hty S hz (by omega) (by omega) (fun i hi => by rw [hcv i (by omega)]; exact hall _ (List.getElem_mem _)) hfr hlo) (fun P a hp => ⟨hp.1, hp.2.1, hp.2.2.1, by rw [e]; exact hp.2.2.2⟩) (fun P a v B hp hq => ?_)
  obtain ⟨L, ⟨q1, q2, q3, q4, q5, q6, q7, ⟨V', v1, v2, v3, v4, v5⟩, q9⟩, hl, hc, hs⟩ := hq
  refine ⟨L, ⟨q1, q2, q3, q4, q5, q6, q7, ⟨V'.cls, v3, V', v1, rfl, by rw [v4, e, hlen], K4, fun i hi => ?_, fun i hi => ?_⟩, q9⟩, hl, hc, by rw [hs, e]⟩
  · have hi' : i < cs.length := by omega
    rw [v5 i (by omega), hcv i hi']; simp [List.getD_eq_getElem?_getD, hi']
  · have hi' : i < cs.length := by omega
    simp only [List.getD_eq_getElem?_getD, List.getElem?_map, List.getElem?_eq_getElem hi', Option.map_some, Option.getD_some]
    exact fits_lo8 _
end StrChars.Road
namespace StrChars.Road
open Jvm Sem ClassFile Op Lib Jvm.Stand Jvm.Free Jvm.Free.XT
/-- WHAT COMES BACK, in the writer's own shape -/
def QV (Z : State) (x : Addr) (N : Int32) (bs : List Int32) (h : Heap) (n0 : Nat) (v : Option Value) (h' : Heap) (L : List Loc) : Prop := v = none ∧ RoadKit.Fr n0 L ∧ RoadKit.Keep h h' [x] ∧ RoadKit.Exa Z h' x ST ∧ RoadKit.Fld Z h' x ST "coder" "B" (.int 0) ∧
  ∃ (t : Addr) (kb : ClassId), n0 ≤ t ∧ h.size ≤ t ∧ ¬ t = x ∧ RoadKit.Fld Z h' x ST "value" "[B" (.ref t) ∧ RoadKit.Arv Z h' t kb .byte N (bs.map Value.int) (.int 0)
/-- **new String(chars) AT A CALL, FOR THE WRITER**: a char[] of n known ints, each 0 to 255 -/
theorem backV {p : Program} {l : Launch} {e : Env} {R : Room} {s : State} {args : Array Value} {below : List Frame} {len W : Nat} {Z : State} {a0 : Array Value} {h : Heap} (hZ : Z.Warmed39 s.vm) (hw : ∀ d ∈ words, d.before a0 Z = true) {kI : Nat} (wi : (Jvm.Cond.instantiable ST kI).before a0 Z = true)
    {x b : Addr} {kC : ClassId} {cs bs : List Int32} {d v0 c0 : Value} {z N : Int32} {n n0 : Nat} (hx0 : n0 ≤ x) (hh0 : n0 ≤ h.size) (E : RoadKit.Exa Z h x ST) (V : RoadKit.Fld Z h x ST "value" "[B" v0) (C : RoadKit.Fld Z h x ST "coder" "B" c0) (K : RoadKit.Arv Z h b kC .char N (cs.map Value.int) d) (S : RoadKit.Sta Z h ST "COMPACT_STRINGS" "Z" (.int z)) (hz : ¬ z = 0)
    (hn : cs.length = n) (hN : N = Int32.ofNat n) (l0 : 0 < n) (l2 : n ≤ 4000) (hp : ∀ c ∈ cs, ¬ c < 0 ∧ ¬ (255 : Int32) < c) (hb : bs = cs.map (fun c => c.toInt8.toInt32)) (hfr : 4 ≤ R.frames) (hlo : W + 65 ≤ R.locals) :
    Back l R p e below s args (⟨"java/lang/String", "<init>", "([C)V"⟩ : MethodName) len W (fun P a => a = #[.ref x, .ref b] ∧ P.U.heap = h ∧ P.cells + 1 ≤ R.cells ∧ P.slots + n ≤ R.slots)
      (fun P _ v B => ∃ L, QV Z x N bs h n0 v B.U.heap L ∧ B.locs = P.locs ++ L ∧ B.cells = P.cells + 1 ∧ B.slots = P.slots + n) := by
  subst hn hN hb
  refine Back.mono (backArv hZ hw wi E V C K S hz (n32 (by omega)) l0 (by omega) (fun c hc => (hp c hc).2) hfr hlo) (fun P a hp => hp) (fun P a v B hp hq => ?_)
  obtain ⟨L, ⟨q1, q2, q3, q4, q5, q6, q7, ⟨kb, v1, v2⟩, q9⟩, hl, hc, hs⟩ := hq
  exact ⟨L, ⟨q1, fun y hy => by rw [q2 y hy]; exact hx0, q3, q5, q7, h.size, kb, hh0, Nat.le_refl _, Nat.ne_of_gt E.lt, q6, by rw [List.map_map]; exact v2⟩, hl, hc, hs⟩
end StrChars.Road
end Jvm.Pilot.@@N@@
namespace Jvm.Pilot.@@N@@
open Jvm Jvm.ClassFile Sem Op Lib Jvm.Free Jvm.Stand Jvm.LawKit Jvm.RoadKit Bundle Jvm.Pilot.@@N@@.Jvm.D
section OwnKit
variable {sW : State × Bool} {p : Program} {l : Launch} {e : Env} {R : Room} {s : State} {m : MethodId} {args : Array Value} {below : List Frame} {meth : Method} {c : Code} {T : State} {locs : List Loc} {cells slots : Nat} {Z : State} {a0 : Array Value} {h h' : Heap}
/-- the end of a body: narrow, or wide -/
def own_End (sW : State × Bool) (o : Outcome) (t : State) (L : List Loc) (k n : Nat) : Prop := match sW with
  | (s, false) => FrameEnd s o t L k n
  | (s, true) => ReturnedEndW s o t L k n
/-- the run from t comes to the method's end, where Q holds -/
def own_Go (p : Program) (e : Env) (below : List Frame) (sW : State × Bool) (Q : Option Value → Heap → List Loc → Prop) (k n : Nat) (t : State) : Prop :=
  ∃ s₂ o, Steps p.tables e below t s₂ ∧ s₂.status = .running ∧ Ended s₂ below o ∧ ∃ v L, o = .returned v ∧ Q v s₂.heap L ∧ own_End sW o s₂ L k n
theorem own_go {Q : Option Value → Heap → List Loc → Prop} {k n : Nat} {t t' : State} (st : ∀ u, Steps p.tables e below t' u → Steps p.tables e below t u) (G : own_Go p e below sW Q k n t') : own_Go p e below sW Q k n t := by
  obtain ⟨s2, o, h1, r⟩ := G
  exact ⟨s2, o, st _ h1, r⟩
theorem own_ret {Q : Option Value → Heap → List Loc → Prop} {k n : Nat} (X : Stand p l e R s m args below meth c T locs cells slots) (hx : p.tables.exec = Jvm.exec) (hlk : meth.locks = false) {pc : Nat} {Ls : Array Slot} {w : Value} {t : FieldType} {i : Instr} {rest : List Value} (hret : meth.sig.returnType = some t) (hn : narrow t w = w)
    (hi : (i = .ireturn ∧ (t = .int ∨ t = .boolean ∨ t = .byte ∨ t = .char ∨ t = .short) ∧ ∃ z, w = .int z) ∨ (i = .lreturn ∧ t = .long ∧ ∃ z, w = .long z) ∨ (i = .dreturn ∧ t = .double ∧ ∃ z, w = .double z) ∨ (i = .freturn ∧ t = .float ∧ ∃ z, w = .float z) ∨ (i = .areturn ∧ t.isReference = true ∧ w.isRef = true))
    (hd : decode c.code pc = .ok (i, 1)) (hk : cells ≤ k) (hs : slots ≤ n) (hq : Q (some w) T.heap locs) : own_Go p e below (s, false) Q k n (T.setTop (mkF m pc Ls (w :: rest))) := by
  obtain ⟨fs, hr, hrun, hended, hW, hsame⟩ := X.leave (v := some w) (fun q => by rw [hret] at q; cases q) hlk
  exact ⟨_, _, retOut X hx hret hn hi hd hr, hrun, hended, _, _, rfl, hq, (show FrameEnd _ _ _ _ _ _ from ⟨⟨_, rfl⟩, hW, hsame.mono hk hs⟩)⟩
theorem own_retI {Q : Option Value → Heap → List Loc → Prop} {k n : Nat} (X : Stand p l e R s m args below meth c T locs cells slots) (hx : p.tables.exec = Jvm.exec) (hlk : meth.locks = false) {pc : Nat} {Ls : Array Slot} {z : Int32} {rest : List Value} (hret : meth.sig.returnType = some .int)
    (hd : decode c.code pc = .ok (.ireturn, 1)) (hk : cells ≤ k) (hs : slots ≤ n) (hq : Q (some (.int z)) T.heap locs) : own_Go p e below (s, false) Q k n (T.setTop (mkF m pc Ls (.int z :: rest))) :=
  own_ret X hx hlk hret rfl (Or.inl ⟨rfl, Or.inl rfl, z, rfl⟩) hd hk hs hq
theorem own_retZ {Q : Option Value → Heap → List Loc → Prop} {k n : Nat} (X : Stand p l e R s m args below meth c T locs cells slots) (hx : p.tables.exec = Jvm.exec) (hlk : meth.locks = false) {pc : Nat} {Ls : Array Slot} {z : Int32} {rest : List Value} (hret : meth.sig.returnType = some .boolean)
    (hd : decode c.code pc = .ok (.ireturn, 1)) (hz : z = 0 ∨ z = 1) (hk : cells ≤ k) (hs : slots ≤ n) (hq : Q (some (.int z)) T.heap locs) : own_Go p e below (s, false) Q k n (T.setTop (mkF m pc Ls (.int z :: rest))) :=
  own_ret X hx hlk hret (by rcases hz with rfl | rfl <;> rfl) (Or.inl ⟨rfl, Or.inr (Or.inl rfl), z, rfl⟩) hd hk hs hq
theorem own_retR {Q : Option Value → Heap → List Loc → Prop} {k n : Nat} (X : Stand p l e R s m args below meth c T locs cells slots) (hx : p.tables.exec = Jvm.exec) (hlk : meth.locks = false) {pc : Nat} {Ls : Array Slot} {w : Value} {t : FieldType} {rest : List Value} (hret : meth.sig.returnType = some t) (ht : t.isReference = true) (hw : w.isRef = true) (hnr : narrow t w = w)
    (hd : decode c.code pc = .ok (.areturn, 1)) (hk : cells ≤ k) (hs : slots ≤ n) (hq : Q (some w) T.heap locs) : own_Go p e below (s, false) Q k n (T.setTop (mkF m pc Ls (w :: rest))) :=
  own_ret X hx hlk hret hnr (Or.inr (Or.inr (Or.inr (Or.inr ⟨rfl, ht, hw⟩)))) hd hk hs hq
theorem own_retV {Q : Option Value → Heap → List Loc → Prop} {k n : Nat} (X : Stand p l e R s m args below meth c T locs cells slots) (hx : p.tables.exec = Jvm.exec) (hlk : meth.locks = false) {pc : Nat} {Ls : Array Slot} (hret : meth.sig.returnType = none)
    (hd : decode c.code pc = .ok (.return_, 1)) (hk : cells ≤ k) (hs : slots ≤ n) (hq : Q none T.heap locs) : own_Go p e below (s, false) Q k n (T.setTop (mkF m pc Ls [])) := by
  obtain ⟨fs, hr, hrun, hended, hW, hsame⟩ := X.leave (v := none) (fun _ => rfl) hlk
  exact ⟨_, _, X.returnOut hx hret hd hr, hrun, hended, _, _, rfl, hq, (show FrameEnd _ _ _ _ _ _ from ⟨⟨_, rfl⟩, hW, hsame.mono hk hs⟩)⟩
/-- a body's contract: handed as', at a heap h0, it ends as Q says -/
abbrev own_Met (l : Launch) (Z : State) (y : MethodName) (bytes : ByteArray) (maxL : Nat) (ret : Option FieldType) (rm : Room) (ws : List Jvm.Cond) (as' : Array Value) (h0 : Heap) (Q : Option Value → Heap → List Loc → Prop) : Prop :=
  MetFree l y (head1 (Jvm.Cond.code y bytes maxL ret :: ws) rm) (fun a U => a = as' ∧ Z.Warmed39 U.vm ∧ U.heap = h0) (fun _ _ _ _ _ => True) (fun _ U o U' => ∃ v L, o = .returned v ∧ Q v U'.heap L ∧ FrameEnd U o U' L rm.cells rm.slots)
theorem own_enter {y : MethodName} {bytes : ByteArray} {maxL : Nat} {ret : Option FieldType} {rm : Room} {ws : List Jvm.Cond} {as' : Array Value} {h0 : Heap} {Q : Option Value → Heap → List Loc → Prop} (hpl : plainFor y = true)
    (body : ∀ (p : Program) (e : Env) (s : State) (m : MethodId) (below : List Frame) (meth : Method) (c : Code) (s₁ : State), p.tables.exec = Jvm.exec → c.code = bytes → c.maxLocals = maxL → s.vm.findClass y.cls = some m.cls → meth.name = y.name → meth.locks = false → meth.sig.returnType = ret → Z.Warmed39 s.vm →
      Stand p l e rm s m as' below meth c s₁ [] 0 0 → s₁.heap = h0 → own_Go p e below (s, false) Q rm.cells rm.slots (s₁.setTop (entryFrame m as' maxL))) : own_Met l Z y bytes maxL ret rm ws as' h0 Q := by
  refine MetFree.of_bodySF hpl hisR ?_
  intro p e s m args below meth c s₁ Bd hml0 hP hK
  obtain ⟨rfl, hZ, hh⟩ := hP
  exact body p e s m below meth c s₁ Bd.exec Bd.bytes hml0 (findClass_of_methodNamed Bd.named) (name_of_methodNamed Bd.named Bd.method).1 Bd.notSynchronized Bd.returns hZ (Stand.of_body Bd) (by rw [← hh, Bd.state]; rfl)
/-- a static call by the callee's contract -/
theorem own_static {Q Q' : Option Value → Heap → List Loc → Prop} {k n : Nat} (X : Stand p l e R s m args below meth c T locs cells slots) (hx : p.tables.exec = Jvm.exec) (hZ : Z.Warmed39 s.vm) {own : String} {index : Nat} {y : MethodName} {bytes : ByteArray} {maxL : Nat} {ret : Option FieldType} {rm : Room}
    (hown : s.vm.findClass own = some m.cls) (w1 : (Cond.methodLink own index y).before a0 Z = true) (w2 : (Cond.static y).before a0 Z = true) (w3 : (Cond.initialized y.cls).before a0 Z = true) (w4 : (Cond.code y bytes maxL ret).before a0 Z = true)
    (hy : y.cls ≠ "java/lang/invoke/MethodHandle" ∧ y.cls ≠ "java/lang/invoke/VarHandle") (eT : T.heap = h) {argsL rest : List Value} (hM : own_Met l Z y bytes maxL ret rm [] argsL.toArray h Q) (W : Nat) (hf : rm.frames + 1 ≤ R.frames) (hl : W + (maxL + 11) + rm.locals ≤ R.locals) (hc : cells + rm.cells ≤ R.cells) (hsl : slots + rm.slots ≤ R.slots)
    {pc pc' : Nat} {Ls : Array Slot} {st : List Value} (hsize : Ls.size = c.maxLocals) {ps : List FieldType} {rt : Option FieldType} (hdesc : parseMethodDescriptor y.desc = some ⟨ps, rt⟩) (hlen : argsL.length = ps.length) (hst : st = argsL.reverse ++ rest) (hW : (rest.map fun v => v.category).sum ≤ W) (hd : decode c.code pc = .ok (.invokestatic index, 3)) (hpc : pc + 3 = pc')
    (go : ∀ (v : Option Value) (T' : State) (L : List Loc), Stand p l e R s m args below meth c T' (locs ++ L) (cells + rm.cells) (slots + rm.slots) → Q v T'.heap L → own_Go p e below sW Q' k n (T'.setTop (mkF m pc' Ls (v.toList ++ rest)))) : own_Go p e below sW Q' k n (T.setTop (mkF m pc Ls st)) := by
  subst hpc
  obtain ⟨v, _, ⟨T', L', k', n'⟩, -, X', ⟨L, hQ, hl', hk', hn'⟩, stp⟩ := Jvm.LawKit.callS X hx hown (mvT hZ w1) (mvT hZ w2) (mvT hZ w3) (mvT hZ w4) hy (backOf (W := W) hM hZ w4 w3 hf hl) (g := mkF m pc Ls st) rfl hsize (argsL := argsL) (rest := rest) (lenOf hdesc hlen) hst (by show 2 * 0 + _ ≤ _; omega) hd (fun _ _ => ⟨rfl, eT, hc, hsl⟩)
  dsimp only [Pt.U, Pt.locs, Pt.cells, Pt.slots] at X' hl' hk' hn' stp hQ
  subst hl' hk' hn'
  exact own_go stp (go v T' L X' hQ)
/-- a constructor by its contract -/
theorem own_init {Q Q' : Option Value → Heap → List Loc → Prop} {k n : Nat} (X : Stand p l e R s m args below meth c T locs cells slots) (hx : p.tables.exec = Jvm.exec) (hZ : Z.Warmed39 s.vm) {own : String} {index : Nat} {y : MethodName} {bytes : ByteArray} {maxL : Nat} {rm : Room} (hyi : y.name = "<init>")
    (hown : s.vm.findClass own = some m.cls) (w1 : (Cond.methodLink own index y).before a0 Z = true) (w2 : (Cond.instanceMethod y).before a0 Z = true) (w3 : (Cond.initialized y.cls).before a0 Z = true) (w4 : (Cond.code y bytes maxL none).before a0 Z = true)
    (hy : y.cls ≠ "java/lang/invoke/MethodHandle" ∧ y.cls ≠ "java/lang/invoke/VarHandle") (eT : T.heap = h) {a : Addr} {argsL rest : List Value} (hM : own_Met l Z y bytes maxL none rm [] (.ref a :: argsL).toArray h Q) (W : Nat) (hf : rm.frames + 1 ≤ R.frames) (hl : W + (maxL + 11) + rm.locals ≤ R.locals) (hc : cells + rm.cells ≤ R.cells) (hsl : slots + rm.slots ≤ R.slots)
    {pc pc' : Nat} {Ls : Array Slot} {st : List Value} (hsize : Ls.size = c.maxLocals) {ps : List FieldType} {rt : Option FieldType} (hdesc : parseMethodDescriptor y.desc = some ⟨ps, rt⟩) (hlen : argsL.length = ps.length) (hst : st = argsL.reverse ++ .ref a :: rest) (hW : (rest.map fun v => v.category).sum ≤ W) (hd : decode c.code pc = .ok (.invokespecial index, 3)) (hpc : pc + 3 = pc')
    (go : ∀ (v : Option Value) (T' : State) (L : List Loc), Stand p l e R s m args below meth c T' (locs ++ L) (cells + rm.cells) (slots + rm.slots) → Q v T'.heap L → own_Go p e below sW Q' k n (T'.setTop (mkF m pc' Ls (v.toList ++ rest)))) : own_Go p e below sW Q' k n (T.setTop (mkF m pc Ls st)) := by
  subst hpc
  obtain ⟨v, _, ⟨T', L', k', n'⟩, -, X', ⟨L, hQ, hl', hk', hn'⟩, stp⟩ := X.specialBack hx hyi hown (mvT hZ w1) (mvT hZ w2) (mvT hZ w4) hy (backOf (W := W) hM hZ w4 w3 hf hl) (g := mkF m pc Ls st) rfl hsize (Steps.refl _) (a := a) (argsL := argsL) (rest := rest) (lenOf hdesc hlen) hst (by show 2 * 0 + _ ≤ _; omega) hd (fun _ _ => ⟨rfl, eT, hc, hsl⟩)
  dsimp only [Pt.U, Pt.locs, Pt.cells, Pt.slots] at X' hl' hk' hn' stp hQ
  subst hl' hk' hn'
  exact own_go (fun _ q => stp.trans q) (go v T' L X' hQ)
/-- an instance method by its contract: the receiver is exactly of the class C, which selects z -/
theorem own_virtual {Q Q' : Option Value → Heap → List Loc → Prop} {k n : Nat} (X : Stand p l e R s m args below meth c T locs cells slots) (hx : p.tables.exec = Jvm.exec) (hZ : Z.Warmed39 s.vm) {own C : String} {index : Nat} {y : MethodName} {bytes : ByteArray} {maxL : Nat} {ret : Option FieldType} {rm : Room}
    (hown : s.vm.findClass own = some m.cls) (w1 : (Cond.methodLink own index y).before a0 Z = true) (w2 : (Cond.declares y).before a0 Z = true) (w3 : (Cond.selects C y y).before a0 Z = true) (w5 : (Cond.instanceMethod y).before a0 Z = true) (w6 : (Cond.initialized y.cls).before a0 Z = true) (w4 : (Cond.code y bytes maxL ret).before a0 Z = true)
    (hy : y.cls ≠ "java/lang/invoke/MethodHandle" ∧ y.cls ≠ "java/lang/invoke/VarHandle") (eT : T.heap = h) {a : Addr} (E : Exa Z h a C) {argsL rest : List Value} (hM : own_Met l Z y bytes maxL ret rm [] (.ref a :: argsL).toArray h Q) (W : Nat) (hf : rm.frames + 1 ≤ R.frames) (hl : W + (maxL + 11) + rm.locals ≤ R.locals) (hc : cells + rm.cells ≤ R.cells) (hsl : slots + rm.slots ≤ R.slots)
    {pc pc' : Nat} {Ls : Array Slot} {st : List Value} (hsize : Ls.size = c.maxLocals) {ps : List FieldType} {rt : Option FieldType} (hdesc : parseMethodDescriptor y.desc = some ⟨ps, rt⟩) (hlen : argsL.length = ps.length) (hst : st = argsL.reverse ++ .ref a :: rest) (hW : (rest.map fun v => v.category).sum ≤ W) (hd : decode c.code pc = .ok (.invokevirtual index, 3)) (hpc : pc + 3 = pc')
    (go : ∀ (v : Option Value) (T' : State) (L : List Loc), Stand p l e R s m args below meth c T' (locs ++ L) (cells + rm.cells) (slots + rm.slots) → Q v T'.heap L → own_Go p e below sW Q' k n (T'.setTop (mkF m pc' Ls (v.toList ++ rest)))) : own_Go p e below sW Q' k n (T.setTop (mkF m pc Ls st)) := by
  subst hpc
  obtain ⟨cq, kq, qa, qb, qc⟩ := isOf hZ eT E
  obtain ⟨v, _, ⟨T', L', k', n'⟩, -, X', ⟨L, hQ, hl', hk', hn'⟩, stp⟩ := X.virtualBack hx (z := y) hown (mvT hZ w1) (mvT hZ w2) (notFace_of_selects (args := #[]) (mvT hZ w3)) (mvT hZ w3) (mvT hZ w5) hy (backOf (W := W) hM hZ w4 w6 hf hl) qa qc (g := mkF m pc Ls st) rfl hsize (Steps.refl _) (argsL := argsL) (rest := rest) (lenOf hdesc hlen) hst (by show 2 * 0 + _ ≤ _; omega) hd (fun _ _ => ⟨rfl, eT, hc, hsl⟩)
  dsimp only [Pt.U, Pt.locs, Pt.cells, Pt.slots] at X' hl' hk' hn' stp hQ
  subst hl' hk' hn'
  exact own_go (fun _ q => stp.trans q) (go v T' L X' hQ)
/-- an array of n places that hold F 0, F 1 .. -/
def own_Ar (Z : State) (h : Heap) (a : Addr) (ty : FieldType) (n : Nat) (F : Nat → Value) : Prop := n < 2 ^ 31 ∧ ∃ c : Cell, Arr Z h a c ty ∧ c.slots.size = n ∧ ∀ j, j < n → c.slots[j]? = some (F j)
section ArFacts
variable {a b : Addr} {ty : FieldType} {F G : Nat → Value} {nn : Nat} {sl : Nat} {v : Value} {ws : List Addr}
theorem own_Ar.lt (A : own_Ar Z h a ty nn F) : a < h.size := by obtain ⟨-, c, A, -⟩ := A; exact A.lt
theorem own_Ar.ext (A : own_Ar Z h a ty nn F) (E : Ext h h') : own_Ar Z h' a ty nn F := by obtain ⟨q, c, A, r⟩ := A; exact ⟨q, c, A.ext E, r⟩
theorem own_Ar.other (A : own_Ar Z h a ty nn F) (W : Wr h h' b sl v) (q : a ≠ b) : own_Ar Z h' a ty nn F := by obtain ⟨q0, c, A, r⟩ := A; exact ⟨q0, c, A.other W q, r⟩
theorem own_Ar.keep (A : own_Ar Z h a ty nn F) (K : Keep h h' ws) (q : a ∉ ws) : own_Ar Z h' a ty nn F := by obtain ⟨q0, c, A, r⟩ := A; exact ⟨q0, c, ⟨K.2.1 a c A.1 q, A.2⟩, r⟩
theorem own_Ar.eqv (A : own_Ar Z h a ty nn F) (q : ∀ j, j < nn → F j = G j) : own_Ar Z h a ty nn G := by obtain ⟨q0, c, A, r, r2⟩ := A; exact ⟨q0, c, A, r, fun j hj => by rw [r2 j hj, q j hj]⟩
theorem own_Ar.set (A : own_Ar Z h a ty nn F) (W : Wr h h' a sl v) : own_Ar Z h' a ty nn (fun j => if j = sl then v else F j) := by
  obtain ⟨q0, c, A, r, r2⟩ := A
  refine ⟨q0, _, A.same W, by rw [sz_set]; exact r, fun j hj => ?_⟩
  by_cases q : j = sl
  · subst q
    simp [Cell.setSlot, r, hj]
  · have q' : sl ≠ j := fun x => q x.symm
    simp only [if_neg q]
    rw [← r2 j hj]
    simp [Cell.setSlot, Array.getElem?_setIfInBounds, q']
theorem own_Ar.new {k : ClassId} {z : Int32} (A : Arr Z h a (newA k ty z) ty) (q : ¬ z < 0) (hz : z.toNatClampNeg = nn) : own_Ar Z h a ty nn (fun _ => defaultValue ty) := by
  subst hz
  refine ⟨(back32 q).2, _, A, sz_new _ _ _, fun j hj => ?_⟩
  simp [newA, hj]
end ArFacts
theorem own_inb {c : Cell} {n i : Nat} {z : Int32} (hs : c.slots.size = n) (hz : z.toInt = (i : Int)) (hi : i < n) : ¬ (z < 0 ∨ c.slots.size ≤ z.toNatClampNeg) ∧ z.toNatClampNeg = i := by
  have h1 : z.toNatClampNeg = i := by rw [Int32.toNatClampNeg, hz]; rfl
  refine ⟨?_, h1⟩
  rintro (q | q)
  · rw [Int32.lt_iff_toInt_lt, hz] at q
    have : (0 : Int32).toInt = 0 := rfl
    omega
  · rw [h1, hs] at q
    omega
theorem own_lt {x y : Int32} (q : x.toInt < y.toInt) : x < y := Int32.lt_iff_toInt_lt.mpr q
theorem own_nlt {x y : Int32} (q : y.toInt ≤ x.toInt) : ¬ x < y := fun r => by rw [Int32.lt_iff_toInt_lt] at r; omega
theorem own_ltI {x y : Int32} (q : x < y) : x.toInt < y.toInt := Int32.lt_iff_toInt_lt.mp q
theorem own_nltI {x y : Int32} (q : ¬ x < y) : y.toInt ≤ x.toInt := by rw [Int32.lt_iff_toInt_lt] at q; omega
theorem own_eq {x y : Int32} (q : x.toInt = y.toInt) : x = y := Int32.toInt_inj.mp q
theorem own_ne {x y : Int32} (q : x.toInt ≠ y.toInt) : ¬ x = y := fun r => q (by rw [r])
theorem own_neI {x y : Int32} (q : ¬ x = y) : x.toInt ≠ y.toInt := fun r => q (own_eq r)
/-- the read of an int out of an array -/
theorem own_iaload {Q : Option Value → Heap → List Loc → Prop} {k n : Nat} (X : Stand p l e R s m args below meth c T locs cells slots) (hx : p.tables.exec = Jvm.exec) (hZ : Z.Warmed39 s.vm) (eT : T.heap = h) {a : Addr} {nn i : Nat} {F : Nat → Value} {x z : Int32} (A : own_Ar Z h a .int nn F) (hz : z.toInt = (i : Int)) (hi : i < nn) (hF : F i = .int x)
    {pc pc' : Nat} {Ls : Array Slot} {rest : List Value} (hd : decode c.code pc = .ok (.iaload, 1)) (hpc : pc + 1 = pc') (go : own_Go p e below sW Q k n (T.setTop (mkF m pc' Ls (.int x :: rest)))) : own_Go p e below sW Q k n (T.setTop (mkF m pc Ls (.int z :: .ref a :: rest))) := by
  subst hpc
  obtain ⟨-, c, A, r, r2⟩ := A
  obtain ⟨q1, q2⟩ := own_inb r hz hi
  exact own_go (X.iaload hx (j := z) (v := .int x) (by rw [eT]; exact A.1) (State.isArrayOf_alike hZ.alike A.2.1) A.2.2 q1 (by rw [q2, r2 i hi, hF]) (g := mkF m pc Ls (.int z :: .ref a :: rest)) rfl rfl hd) go
theorem own_iastore {Q : Option Value → Heap → List Loc → Prop} {k n : Nat} (X : Stand p l e R s m args below meth c T locs cells slots) (hx : p.tables.exec = Jvm.exec) (hZ : Z.Warmed39 s.vm) (eT : T.heap = h) {a : Addr} {nn i : Nat} {F : Nat → Value} {x z : Int32} (A : own_Ar Z h a .int nn F) (hz : z.toInt = (i : Int)) (hi : i < nn)
    {pc pc' : Nat} {Ls : Array Slot} {rest : List Value} (hd : decode c.code pc = .ok (.iastore, 1)) (hpc : pc + 1 = pc') (go : ∀ T' h', Stand p l e R s m args below meth c T' (locs ++ [⟨a, i⟩]) cells slots → T'.heap = h' → Wr h h' a i (.int x) → own_Ar Z h' a .int nn (fun j => if j = i then .int x else F j) → own_Go p e below sW Q k n (T'.setTop (mkF m pc' Ls rest))) : own_Go p e below sW Q k n (T.setTop (mkF m pc Ls (.int x :: .int z :: .ref a :: rest))) := by
  subst hpc
  have A' := A
  obtain ⟨-, c, A, r, r2⟩ := A
  obtain ⟨q1, q2⟩ := own_inb r hz hi
  obtain ⟨T', h', X', e', W', st⟩ := stI X hx hZ eT A (j := z) (x := x) q1 (g := mkF m pc Ls (.int x :: .int z :: .ref a :: rest)) rfl rfl hd
  rw [q2] at X' W'
  exact own_go st (go T' h' X' e' W' (A'.set W'))
theorem own_length {Q : Option Value → Heap → List Loc → Prop} {k n : Nat} (X : Stand p l e R s m args below meth c T locs cells slots) (hx : p.tables.exec = Jvm.exec) (hZ : Z.Warmed39 s.vm) (eT : T.heap = h) {a : Addr} {nn : Nat} {ty : FieldType} {F : Nat → Value} {z : Int32} (A : own_Ar Z h a ty nn F) (hz : z.toInt = (nn : Int))
    {pc pc' : Nat} {Ls : Array Slot} {rest : List Value} (hd : decode c.code pc = .ok (.arraylength, 1)) (hpc : pc + 1 = pc') (go : own_Go p e below sW Q k n (T.setTop (mkF m pc' Ls (.int z :: rest)))) : own_Go p e below sW Q k n (T.setTop (mkF m pc Ls (.ref a :: rest))) := by
  subst hpc
  obtain ⟨q, c, A, r, r2⟩ := A
  have hz' : c.slots.size.toInt32 = z := own_eq (by rw [r, hz]; exact len_toInt q)
  subst hz'
  exact own_go (X.arraylength hx (by rw [eT]; exact A.1) (State.isArrayOf_alike hZ.alike A.2.1) (g := mkF m pc Ls (.ref a :: rest)) rfl rfl hd) go
end OwnKit
abbrev vI (x : Int32) : Slot := .val (.int x)
abbrev vR (a : Addr) : Slot := .val (.ref a)
theorem wd {a0 : Array Value} {Z : State} (hw : ∀ d ∈ tables_1, d.before a0 Z = true) (i : Nat) {d : Jvm.Cond} (h : tables_1[i]? = some d) : d.before a0 Z = true := hw d (List.mem_of_getElem? h)
abbrev OG {p : Program} {e : Env} {below : List Frame} {sW : State × Bool} {Q : Option Value → Heap → List Loc → Prop} {k n : Nat} (t : State) : Prop := own_Go p e below sW Q k n t
theorem pd_0 : parseMethodDescriptor "()B" = some ⟨[], some .byte⟩ := by decide +kernel
theorem pd_1 : parseMethodDescriptor "(IILjava/util/function/BiFunction;)I" = some ⟨[.int, .int, (.object "java/util/function/BiFunction")], some .int⟩ := by decide +kernel
theorem pd_2 : parseMethodDescriptor "(II)V" = some ⟨[.int, .int], none⟩ := by decide +kernel
theorem pd_3 : parseMethodDescriptor "()Z" = some ⟨[], some .boolean⟩ := by decide +kernel
theorem pd_4 : parseMethodDescriptor "([BI)C" = some ⟨[(.array .byte), .int], some .char⟩ := by decide +kernel
theorem pd_5 : parseMethodDescriptor "()I" = some ⟨[], some .int⟩ := by decide +kernel
theorem pd_6 : parseMethodDescriptor "(I)C" = some ⟨[.int], some .char⟩ := by decide +kernel
theorem pd_7 : parseMethodDescriptor "(C)Z" = some ⟨[.char], some .boolean⟩ := by decide +kernel
theorem pd_8 : parseMethodDescriptor "(Ljava/lang/String;)Ljava/lang/String;" = some ⟨[(.object "java/lang/String")], some (.object "java/lang/String")⟩ := by decide +kernel
theorem pd_9 : parseMethodDescriptor "()V" = some ⟨[], none⟩ := by decide +kernel
theorem pd_10 : parseMethodDescriptor "(Ljava/lang/Object;Ljava/lang/String;)Ljava/lang/Object;" = some ⟨[(.object "java/lang/Object"), (.object "java/lang/String")], some (.object "java/lang/Object")⟩ := by decide +kernel
theorem pd_11 : parseMethodDescriptor "(Lcom/example/interleave/interleave/core/Operation$Kind;ILjava/lang/String;)Ljava/lang/String;" = some ⟨[(.object "com/example/interleave/interleave/core/Operation$Kind"), .int, (.object "java/lang/String")], some (.object "java/lang/String")⟩ := by decide +kernel
theorem pd_12 : parseMethodDescriptor "(I)V" = some ⟨[.int], none⟩ := by decide +kernel
theorem pd_13 : parseMethodDescriptor "(II)I" = some ⟨[.int, .int], some .int⟩ := by decide +kernel
theorem pd_14 : parseMethodDescriptor "(III)I" = some ⟨[.int, .int, .int], some .int⟩ := by decide +kernel
theorem pd_15 : parseMethodDescriptor "(I)I" = some ⟨[.int], some .int⟩ := by decide +kernel
theorem pd_16 : parseMethodDescriptor "([BI)[B" = some ⟨[(.array .byte), .int], some (.array .byte)⟩ := by decide +kernel
theorem pd_17 : parseMethodDescriptor "(C)Ljava/lang/AbstractStringBuilder;" = some ⟨[.char], some (.object "java/lang/AbstractStringBuilder")⟩ := by decide +kernel
theorem pd_18 : parseMethodDescriptor "(Ljava/lang/String;)V" = some ⟨[(.object "java/lang/String")], none⟩ := by decide +kernel
theorem pd_19 : parseMethodDescriptor "([BIB)V" = some ⟨[(.array .byte), .int, .byte], none⟩ := by decide +kernel
theorem pd_20 : parseMethodDescriptor "(ILjava/lang/String;)V" = some ⟨[.int, (.object "java/lang/String")], none⟩ := by decide +kernel
theorem pd_21 : parseMethodDescriptor "(Ljava/lang/String;)Ljava/lang/AbstractStringBuilder;" = some ⟨[(.object "java/lang/String")], some (.object "java/lang/AbstractStringBuilder")⟩ := by decide +kernel
theorem pd_22 : parseMethodDescriptor "([BII)[B" = some ⟨[(.array .byte), .int, .int], some (.array .byte)⟩ := by decide +kernel
theorem pd_23 : parseMethodDescriptor "()[B" = some ⟨[], some (.array .byte)⟩ := by decide +kernel
theorem pd_24 : parseMethodDescriptor "(Ljava/lang/AbstractStringBuilder;Ljava/lang/Void;)V" = some ⟨[(.object "java/lang/AbstractStringBuilder"), (.object "java/lang/Void")], none⟩ := by decide +kernel
theorem pd_25 : parseMethodDescriptor "(Ljava/lang/StringBuilder;)V" = some ⟨[(.object "java/lang/StringBuilder")], none⟩ := by decide +kernel
theorem pd_26 : parseMethodDescriptor "(II[B)I" = some ⟨[.int, .int, (.array .byte)], some .int⟩ := by decide +kernel
theorem pd_27 : parseMethodDescriptor "([BB)V" = some ⟨[(.array .byte), .byte], none⟩ := by decide +kernel
theorem pd_28 : parseMethodDescriptor "()C" = some ⟨[], some .char⟩ := by decide +kernel
theorem pd_29 : parseMethodDescriptor "(C)Ljava/lang/StringBuilder;" = some ⟨[.char], some (.object "java/lang/StringBuilder")⟩ := by decide +kernel
theorem pd_30 : parseMethodDescriptor "(I)Ljava/lang/String;" = some ⟨[.int], some (.object "java/lang/String")⟩ := by decide +kernel
theorem pd_31 : parseMethodDescriptor "(Ljava/lang/String;)Ljava/lang/StringBuilder;" = some ⟨[(.object "java/lang/String")], some (.object "java/lang/StringBuilder")⟩ := by decide +kernel
theorem pd_32 : parseMethodDescriptor "()Ljava/lang/String;" = some ⟨[], some (.object "java/lang/String")⟩ := by decide +kernel
theorem pd_33 : parseMethodDescriptor "(Ljava/lang/String;[CII)Z" = some ⟨[(.object "java/lang/String"), (.array .char), .int, .int], some .boolean⟩ := by decide +kernel
theorem pd_34 : parseMethodDescriptor "(Lcom/example/interleave/interleave/core/Operation$Kind;ILjava/lang/String;)V" = some ⟨[(.object "com/example/interleave/interleave/core/Operation$Kind"), .int, (.object "java/lang/String")], none⟩ := by decide +kernel
theorem pd_35 : parseMethodDescriptor "([CII[II)V" = some ⟨[(.array .char), .int, .int, (.array .int), .int], none⟩ := by decide +kernel
section OwnRef
variable {sW : State × Bool} {p : Program} {l : Launch} {e : Env} {R : Room} {s : State} {m : MethodId} {args : Array Value} {below : List Frame} {meth : Method} {c : Code} {T : State} {locs : List Loc} {cells slots : Nat} {Z : State} {a0 : Array Value} {h h' : Heap}
end OwnRef
section OwnWide
variable {sW : State × Bool} {p : Program} {l : Launch} {e : Env} {R : Room} {s : State} {m : MethodId} {args : Array Value} {below : List Frame} {meth : Method} {c : Code} {T : State} {locs : List Loc} {cells slots : Nat} {Z : State} {a0 : Array Value} {h h' : Heap}
theorem own_cast {Q : Option Value → Heap → List Loc → Prop} {k n : Nat} {t t' : State} (q : t = t') (G : own_Go p e below sW Q k n t) : own_Go p e below sW Q k n t' := q ▸ G
theorem own_via {Q : Option Value → Heap → List Loc → Prop} {k n : Nat} {t t' : State} (A : own_Go p e below sW Q k n t') (B : own_Go p e below sW Q k n t' → own_Go p e below sW Q k n t) : own_Go p e below sW Q k n t := B A
theorem own_retW {Q : Option Value → Heap → List Loc → Prop} {k n : Nat} {vm1 : Vm} (X : Stand p l e R (s.setVm vm1) m args below meth c T locs cells slots) {k0 : Nat} (hS : s.Since vm1 k0) (hk0 : k0 ≤ T.heap.size) (hx : p.tables.exec = Jvm.exec) (hlk : meth.locks = false) {pc : Nat} {Ls : Array Slot} {w : Value} {t : FieldType} {i : Instr} {rest : List Value} (hret : meth.sig.returnType = some t) (hn : narrow t w = w)
    (hi : (i = .ireturn ∧ (t = .int ∨ t = .boolean ∨ t = .byte ∨ t = .char ∨ t = .short) ∧ ∃ z, w = .int z) ∨ (i = .lreturn ∧ t = .long ∧ ∃ z, w = .long z) ∨ (i = .dreturn ∧ t = .double ∧ ∃ z, w = .double z) ∨ (i = .freturn ∧ t = .float ∧ ∃ z, w = .float z) ∨ (i = .areturn ∧ t.isReference = true ∧ w.isRef = true))
    (hd : decode c.code pc = .ok (i, 1)) (hk : cells ≤ k) (hs : slots ≤ n) (hq : Q (some w) T.heap locs) : own_Go p e below (s, true) Q k n (T.setTop (mkF m pc Ls (w :: rest))) := by
  obtain ⟨fs, hr, hrun, hended, q1, q2, q3, q4⟩ := X.leaveW hS hk0 (v := some w) (fun q => by rw [hret] at q; cases q) hlk
  exact ⟨_, _, retOut X hx hret hn hi hd hr, hrun, hended, _, _, rfl, hq, (show ReturnedEndW _ _ _ _ _ _ from ⟨q1, q2, q3, q4.mono hk hs⟩)⟩
theorem own_retWZ {Q : Option Value → Heap → List Loc → Prop} {k n : Nat} {vm1 : Vm} (X : Stand p l e R (s.setVm vm1) m args below meth c T locs cells slots) {k0 : Nat} (hS : s.Since vm1 k0) (hk0 : k0 ≤ T.heap.size) (hx : p.tables.exec = Jvm.exec) (hlk : meth.locks = false) {pc : Nat} {Ls : Array Slot} {z : Int32} {rest : List Value} (hret : meth.sig.returnType = some .boolean)
    (hd : decode c.code pc = .ok (.ireturn, 1)) (hz : z = 0 ∨ z = 1) (hk : cells ≤ k) (hs : slots ≤ n) (hq : Q (some (.int z)) T.heap locs) : own_Go p e below (s, true) Q k n (T.setTop (mkF m pc Ls (.int z :: rest))) :=
  own_retW X hS hk0 hx hlk hret (by rcases hz with rfl | rfl <;> rfl) (Or.inl ⟨rfl, Or.inr (Or.inl rfl), z, rfl⟩) hd hk hs hq
theorem own_retWV {Q : Option Value → Heap → List Loc → Prop} {k n : Nat} {vm1 : Vm} (X : Stand p l e R (s.setVm vm1) m args below meth c T locs cells slots) {k0 : Nat} (hS : s.Since vm1 k0) (hk0 : k0 ≤ T.heap.size) (hx : p.tables.exec = Jvm.exec) (hlk : meth.locks = false) {pc : Nat} {Ls : Array Slot} (hret : meth.sig.returnType = none)
    (hd : decode c.code pc = .ok (.return_, 1)) (hk : cells ≤ k) (hs : slots ≤ n) (hq : Q none T.heap locs) : own_Go p e below (s, true) Q k n (T.setTop (mkF m pc Ls [])) := by
  obtain ⟨fs, hr, hrun, hended, q1, q2, q3, q4⟩ := X.leaveW hS hk0 (v := none) (fun _ => rfl) hlk
  exact ⟨_, _, X.returnOut hx hret hd hr, hrun, hended, _, _, rfl, hq, (show ReturnedEndW _ _ _ _ _ _ from ⟨q1, q2, q3, q4.mono hk hs⟩)⟩
abbrev own_MetW (l : Launch) (Z : State) (y : MethodName) (bytes : ByteArray) (maxL : Nat) (ret : Option FieldType) (rm : Room) (ws : List Jvm.Cond) (as' : Array Value) (h0 : Heap) (Q : Option Value → Heap → List Loc → Prop) : Prop :=
  MetFree l y (head1 (Jvm.Cond.code y bytes maxL ret :: ws) rm) (fun a U => a = as' ∧ Z.Warmed39 U.vm ∧ U.heap = h0) (fun _ _ _ _ _ => True) (fun _ U o U' => ∃ v L, o = .returned v ∧ Q v U'.heap L ∧ ReturnedEndW U o U' L rm.cells rm.slots)
theorem own_enterW {y : MethodName} {bytes : ByteArray} {maxL : Nat} {ret : Option FieldType} {rm : Room} {ws : List Jvm.Cond} {as' : Array Value} {h0 : Heap} {Q : Option Value → Heap → List Loc → Prop} (hpl : plainFor y = true)
    (body : ∀ (p : Program) (e : Env) (s : State) (m : MethodId) (below : List Frame) (meth : Method) (c : Code) (s₁ : State), p.tables.exec = Jvm.exec → c.code = bytes → c.maxLocals = maxL → s.vm.findClass y.cls = some m.cls → meth.name = y.name → meth.locks = false → meth.sig.returnType = ret → Z.Warmed39 s.vm →
      Stand p l e rm s m as' below meth c s₁ [] 0 0 → s₁.heap = h0 → own_Go p e below (s, true) Q rm.cells rm.slots (s₁.setTop (entryFrame m as' maxL))) : own_MetW l Z y bytes maxL ret rm ws as' h0 Q := by
  refine MetFree.of_bodySF hpl hisR ?_
  intro p e s m args below meth c s₁ Bd hml0 hP hK
  obtain ⟨rfl, hZ, hh⟩ := hP
  exact body p e s m below meth c s₁ Bd.exec Bd.bytes hml0 (findClass_of_methodNamed Bd.named) (name_of_methodNamed Bd.named Bd.method).1 Bd.notSynchronized Bd.returns hZ (Stand.of_body Bd) (by rw [← hh, Bd.state]; rfl)
theorem own_since (s : State) (n : Nat) : s.Since s.vm n := (State.WarmedH.refl s).since n
/-- a constructor that may load literals, by its contract -/
theorem own_initW {Q Q' : Option Value → Heap → List Loc → Prop} {k n : Nat} (X : Stand p l e R s m args below meth c T locs cells slots) (hx : p.tables.exec = Jvm.exec) (hZ : Z.Warmed39 s.vm) {own : String} {index : Nat} {y : MethodName} {bytes : ByteArray} {maxL : Nat} {rm : Room} (hyi : y.name = "<init>")
    (hown : s.vm.findClass own = some m.cls) (w1 : (Cond.methodLink own index y).before a0 Z = true) (w2 : (Cond.instanceMethod y).before a0 Z = true) (w3 : (Cond.initialized y.cls).before a0 Z = true) (w4 : (Cond.code y bytes maxL none).before a0 Z = true)
    (hy : y.cls ≠ "java/lang/invoke/MethodHandle" ∧ y.cls ≠ "java/lang/invoke/VarHandle") (eT : T.heap = h) {a : Addr} {argsL rest : List Value} (hM : own_MetW l Z y bytes maxL none rm [] (.ref a :: argsL).toArray h Q) (W : Nat) (hf : rm.frames + 1 ≤ R.frames) (hl : W + (maxL + 11) + rm.locals ≤ R.locals) (hc : cells + rm.cells ≤ R.cells) (hsl : slots + rm.slots ≤ R.slots)
    {pc pc' : Nat} {Ls : Array Slot} {st : List Value} (hsize : Ls.size = c.maxLocals) {ps : List FieldType} {rt : Option FieldType} (hdesc : parseMethodDescriptor y.desc = some ⟨ps, rt⟩) (hlen : argsL.length = ps.length) (hst : st = argsL.reverse ++ .ref a :: rest) (hW : (rest.map fun v => v.category).sum ≤ W) (hd : decode c.code pc = .ok (.invokespecial index, 3)) (hpc : pc + 3 = pc')
    (go : ∀ (v : Option Value) (T' : State) (L : List Loc), Stand p l e R (s.setVm T'.vm) m args below meth c T' (locs ++ L) (cells + rm.cells) (slots + rm.slots) → s.Since T'.vm T'.heap.size → Z.Warmed39 (s.setVm T'.vm).vm → (s.setVm T'.vm).vm.findClass own = some m.cls → Q v T'.heap L → own_Go p e below sW Q' k n (T'.setTop (mkF m pc' Ls (v.toList ++ rest)))) : own_Go p e below sW Q' k n (T.setTop (mkF m pc Ls st)) := by
  subst hpc
  obtain ⟨v, _, ⟨T', L', k', n'⟩, -, X', hS, -, ⟨L, hQ, hl', hk', hn'⟩, stp⟩ := X.specialBackS hx hyi hown (mvT hZ w1) (mvT hZ w2) (mvT hZ w4) hy (backOfS (W := W) hM hZ w4 w3 hf hl) (g := mkF m pc Ls st) rfl hsize (Steps.refl _) (a := a) (argsL := argsL) (rest := rest) (lenOf hdesc hlen) hst (by show 2 * 0 + _ ≤ _; omega) hd (fun _ _ => ⟨rfl, eT, hc, hsl⟩)
  dsimp only [Pt.U, Pt.locs, Pt.cells, Pt.slots] at X' hl' hk' hn' stp hQ hS
  subst hl' hk' hn'
  exact own_go (fun _ q => stp.trans q) (go v T' L X' hS (State.Warmed39.trans hZ hS.1) ((hS.1.alike.findClass _ _).trans hown) hQ)
theorem own_same {C : String} {y y' : MethodName} (w3 : (Cond.instanceMethod y).before a0 Z = true) (w5 : (Cond.selects C y' y').before a0 Z = true) (w6 : (Cond.instanceMethod y').before a0 Z = true) (he : y'.cls = y.cls) (hy : y.cls ≠ "java/lang/invoke/MethodHandle" ∧ y.cls ≠ "java/lang/invoke/VarHandle") : (Cond.sameMethod y.cls y.cls y.name y.desc).before a0 Z = true := by
  obtain ⟨mk, methM, hnamed, hmethM, -, -⟩ := Cond.instanceMethod_spec w3
  obtain ⟨mk', methM', hnamed', -, -, -⟩ := Cond.instanceMethod_spec w6
  have hcn := findClass_of_methodNamed hnamed
  have hcn' := findClass_of_methodNamed hnamed'
  rw [he] at hcn'
  have ee : mk.cls = mk'.cls := Option.some.inj (hcn.symm.trans hcn')
  obtain ⟨k, hk, hi⟩ := notFace_of_selects (args := a0) w5 mk' hnamed'
  have hf := State.methodFound?_of_named hnamed hy
  rw [← ee] at hk
  simp only [Cond.before, Cond.holds, Cond.value, hcn, hf, hnamed, hk]
  simp [hi]
theorem own_face {C : String} {y y' : MethodName} (hZ : Z.Warmed39 s.vm) (w5 : (Cond.selects C y' y').before a0 Z = true) (w6 : (Cond.instanceMethod y').before a0 Z = true) (he : y'.cls = y.cls) : NotFace s y := fun r0 h0 => by
  have w6' : (Cond.instanceMethod y').before #[] s = true := mvT hZ w6
  have w5' : (Cond.selects C y' y').before #[] s = true := mvT hZ w5
  obtain ⟨mk', methM', hnamed', -, -, -⟩ := Cond.instanceMethod_spec w6'
  obtain ⟨k, hk, hi⟩ := notFace_of_selects w5' mk' hnamed'
  have hcn := findClass_of_methodNamed h0
  have hcn' := findClass_of_methodNamed hnamed'
  rw [he] at hcn'
  have ee : r0.cls = mk'.cls := Option.some.inj (hcn.symm.trans hcn')
  exact ⟨k, by rw [ee]; exact hk, hi⟩
/-- super.m(..) by its contract -/
theorem own_super {Q Q' : Option Value → Heap → List Loc → Prop} {k n : Nat} (X : Stand p l e R s m args below meth c T locs cells slots) (hx : p.tables.exec = Jvm.exec) (hZ : Z.Warmed39 s.vm) {own C : String} {index : Nat} {y : MethodName} {bytes : ByteArray} {maxL : Nat} {ret : Option FieldType} {rm : Room} (hyn : y.name ≠ "<init>")
    (hown : s.vm.findClass own = some m.cls) (w1 : (Cond.methodLink own index y).before a0 Z = true) (w2 : (Cond.sameMethod y.cls y.cls y.name y.desc).before a0 Z = true) (w3 : (Cond.instanceMethod y).before a0 Z = true) (w5 : (Cond.superclass own y.cls).before a0 Z = true) (w6 : (Cond.initialized y.cls).before a0 Z = true) (w4 : (Cond.code y bytes maxL ret).before a0 Z = true)
    (eT : T.heap = h) {a : Addr} (E : Exa Z h a C) {argsL rest : List Value} (hM : own_Met l Z y bytes maxL ret rm [] (.ref a :: argsL).toArray h Q) (W : Nat) (hf : rm.frames + 1 ≤ R.frames) (hl : W + (maxL + 11) + rm.locals ≤ R.locals) (hc : cells + rm.cells ≤ R.cells) (hsl : slots + rm.slots ≤ R.slots)
    {pc pc' : Nat} {Ls : Array Slot} {st : List Value} (hsize : Ls.size = c.maxLocals) {ps : List FieldType} {rt : Option FieldType} (hdesc : parseMethodDescriptor y.desc = some ⟨ps, rt⟩) (hlen : argsL.length = ps.length) (hst : st = argsL.reverse ++ .ref a :: rest) (hW : (rest.map fun v => v.category).sum ≤ W) (hd : decode c.code pc = .ok (.invokespecial index, 3)) (hpc : pc + 3 = pc')
    (go : ∀ (v : Option Value) (T' : State) (L : List Loc), Stand p l e R s m args below meth c T' (locs ++ L) (cells + rm.cells) (slots + rm.slots) → Q v T'.heap L → own_Go p e below sW Q' k n (T'.setTop (mkF m pc' Ls (v.toList ++ rest)))) : own_Go p e below sW Q' k n (T.setTop (mkF m pc Ls st)) := by
  subst hpc
  obtain ⟨v, _, ⟨T', L', k', n'⟩, -, X', ⟨L, hQ, hl', hk', hn'⟩, stp⟩ := superBack X hx hZ hown w1 w2 w3 w5 hyn (backOf (W := W) hM hZ w4 w6 hf hl) eT (Ins.self E) (g := mkF m pc Ls st) rfl hsize w4 (a := a) (argsL := argsL) (rest := rest) (lenOf hdesc hlen) hst (by show 2 * 0 + _ ≤ _; omega) hd (fun _ _ => ⟨rfl, eT, hc, hsl⟩)
  dsimp only [Pt.U, Pt.locs, Pt.cells, Pt.slots] at X' hl' hk' hn' stp hQ
  subst hl' hk' hn'
  exact own_go (fun _ q => stp.trans q) (go v T' L X' hQ)
/-- a private instance method of a class above the receiver's own -/
theorem own_privSel {Q Q' : Option Value → Heap → List Loc → Prop} {k n : Nat} (X : Stand p l e R s m args below meth c T locs cells slots) (hx : p.tables.exec = Jvm.exec) (hZ : Z.Warmed39 s.vm) {own C : String} {index : Nat} {y : MethodName} {bytes : ByteArray} {maxL : Nat} {ret : Option FieldType} {rm : Room}
    (hown : s.vm.findClass own = some m.cls) (w1 : (Cond.methodLink own index y).before a0 Z = true) (w2 : (Cond.instanceMethod y).before a0 Z = true) (w3 : (Cond.privateMethod y).before a0 Z = true) (w5 : (Cond.selects C y y).before a0 Z = true) (w6 : (Cond.initialized y.cls).before a0 Z = true) (w4 : (Cond.code y bytes maxL ret).before a0 Z = true)
    (hy : y.cls ≠ "java/lang/invoke/MethodHandle" ∧ y.cls ≠ "java/lang/invoke/VarHandle") (eT : T.heap = h) {a : Addr} (E : Exa Z h a C) {argsL rest : List Value} (hM : own_Met l Z y bytes maxL ret rm [] (.ref a :: argsL).toArray h Q) (W : Nat) (hf : rm.frames + 1 ≤ R.frames) (hl : W + (maxL + 11) + rm.locals ≤ R.locals) (hc : cells + rm.cells ≤ R.cells) (hsl : slots + rm.slots ≤ R.slots)
    {pc pc' : Nat} {Ls : Array Slot} {st : List Value} (hsize : Ls.size = c.maxLocals) {ps : List FieldType} {rt : Option FieldType} (hdesc : parseMethodDescriptor y.desc = some ⟨ps, rt⟩) (hlen : argsL.length = ps.length) (hst : st = argsL.reverse ++ .ref a :: rest) (hW : (rest.map fun v => v.category).sum ≤ W) (hd : decode c.code pc = .ok (.invokevirtual index, 3)) (hpc : pc + 3 = pc')
    (go : ∀ (v : Option Value) (T' : State) (L : List Loc), Stand p l e R s m args below meth c T' (locs ++ L) (cells + rm.cells) (slots + rm.slots) → Q v T'.heap L → own_Go p e below sW Q' k n (T'.setTop (mkF m pc' Ls (v.toList ++ rest)))) : own_Go p e below sW Q' k n (T.setTop (mkF m pc Ls st)) := by
  subst hpc
  obtain ⟨cq, hq1, hq2⟩ := E.cell
  have hpr : s.PrivateAt y := Cond.privateMethod_at (mvP hZ w3 (args := #[]))
  have hin : (Cond.instanceMethod y).before args s = true := mvT hZ w2
  have hse : (Cond.selects C y y).before args s = true := mvT hZ w5
  obtain ⟨mk, methM, hnamed, -, -, -⟩ := Cond.instanceMethod_spec hin
  obtain ⟨ki, i2, i3⟩ := notFace_of_selects hse mk hnamed
  have hsel : (Cond.selects y.cls y y).before args s = true := Jvm.Stand.selects_self_of_private (findClass_of_methodNamed hnamed) i2 i3 hpr hin hy
  obtain ⟨v, _, ⟨T', L', k', n'⟩, -, X', ⟨L, hQ, hl', hk', hn'⟩, stp⟩ := X.privateBack hx hown (mvT hZ w1) hin hsel hpr (mvT hZ w4) hy (backOf (W := W) hM hZ w4 w6 hf hl) (g := mkF m pc Ls st) rfl hsize (Steps.refl _) (a := a) (by rw [eT]; exact hq1) hq2 (argsL := argsL) (rest := rest) (lenOf hdesc hlen) hst (by show 2 * 0 + _ ≤ _; omega) hd (fun _ _ => ⟨rfl, eT, hc, hsl⟩)
  dsimp only [Pt.U, Pt.locs, Pt.cells, Pt.slots] at X' hl' hk' hn' stp hQ
  subst hl' hk' hn'
  exact own_go (fun _ q => stp.trans q) (go v T' L X' hQ)
/-- a virtual call that selects another body z -/
theorem own_virtual2 {Q Q' : Option Value → Heap → List Loc → Prop} {k n : Nat} (X : Stand p l e R s m args below meth c T locs cells slots) (hx : p.tables.exec = Jvm.exec) (hZ : Z.Warmed39 s.vm) {own C : String} {index : Nat} {y z : MethodName} {bytes : ByteArray} {maxL : Nat} {ret : Option FieldType} {rm : Room}
    (hown : s.vm.findClass own = some m.cls) (w1 : (Cond.methodLink own index y).before a0 Z = true) (w2 : (Cond.declares y).before a0 Z = true) (w3 : (Cond.selects C y z).before a0 Z = true) (w5 : (Cond.instanceMethod z).before a0 Z = true) (w6 : (Cond.initialized z.cls).before a0 Z = true) (w4 : (Cond.code z bytes maxL ret).before a0 Z = true)
    (w7 : NotFace s y) (hy : y.cls ≠ "java/lang/invoke/MethodHandle" ∧ y.cls ≠ "java/lang/invoke/VarHandle") (eT : T.heap = h) {a : Addr} (E : Exa Z h a C) {argsL rest : List Value} (hM : own_Met l Z z bytes maxL ret rm [] (.ref a :: argsL).toArray h Q) (W : Nat) (hf : rm.frames + 1 ≤ R.frames) (hl : W + (maxL + 11) + rm.locals ≤ R.locals) (hc : cells + rm.cells ≤ R.cells) (hsl : slots + rm.slots ≤ R.slots)
    {pc pc' : Nat} {Ls : Array Slot} {st : List Value} (hsize : Ls.size = c.maxLocals) {ps : List FieldType} {rt : Option FieldType} (hdesc : parseMethodDescriptor y.desc = some ⟨ps, rt⟩) (hlen : argsL.length = ps.length) (hst : st = argsL.reverse ++ .ref a :: rest) (hW : (rest.map fun v => v.category).sum ≤ W) (hd : decode c.code pc = .ok (.invokevirtual index, 3)) (hpc : pc + 3 = pc')
    (go : ∀ (v : Option Value) (T' : State) (L : List Loc), Stand p l e R s m args below meth c T' (locs ++ L) (cells + rm.cells) (slots + rm.slots) → Q v T'.heap L → own_Go p e below sW Q' k n (T'.setTop (mkF m pc' Ls (v.toList ++ rest)))) : own_Go p e below sW Q' k n (T.setTop (mkF m pc Ls st)) := by
  subst hpc
  obtain ⟨cq, kq, qa, qb, qc⟩ := isOf hZ eT E
  obtain ⟨v, _, ⟨T', L', k', n'⟩, -, X', ⟨L, hQ, hl', hk', hn'⟩, stp⟩ := X.virtualBack hx (z := z) hown (mvT hZ w1) (mvT hZ w2) w7 (mvT hZ w3) (mvT hZ w5) hy (backOf (W := W) hM hZ w4 w6 hf hl) qa qc (g := mkF m pc Ls st) rfl hsize (Steps.refl _) (argsL := argsL) (rest := rest) (lenOf hdesc hlen) hst (by show 2 * 0 + _ ≤ _; omega) hd (fun _ _ => ⟨rfl, eT, hc, hsl⟩)
  dsimp only [Pt.U, Pt.locs, Pt.cells, Pt.slots] at X' hl' hk' hn' stp hQ
  subst hl' hk' hn'
  exact own_go (fun _ q => stp.trans q) (go v T' L X' hQ)
end OwnWide
section OwnBy
variable {sW : State × Bool} {p : Program} {l : Launch} {e : Env} {R : Room} {s : State} {m : MethodId} {args : Array Value} {below : List Frame} {meth : Method} {c : Code} {T : State} {locs : List Loc} {cells slots : Nat} {Z : State} {a0 : Array Value} {h h' : Heap} {a b : Addr} {ty : FieldType} {N : Nat} {g g' : Nat → Option Nat}
/-- an array of N bytes or chars, of which g says some -/
def own_By (Z : State) (h : Heap) (a : Addr) (ty : FieldType) (N : Nat) (g : Nat → Option Nat) : Prop := ∃ F : Nat → Value, own_Ar Z h a ty N F ∧ (∀ j, j < N → fits ty (F j) = true) ∧ ∀ j v, j < N → g j = some v → F j = .int (Int32.ofNat v)
theorem own_By.lt (A : own_By Z h a ty N g) : a < h.size := by obtain ⟨F, A, -⟩ := A; exact A.lt
theorem own_By.ext (A : own_By Z h a ty N g) (E : Ext h h') : own_By Z h' a ty N g := by obtain ⟨F, A, r⟩ := A; exact ⟨F, A.ext E, r⟩
theorem own_By.other {sl : Nat} {v : Value} (A : own_By Z h a ty N g) (W : Wr h h' b sl v) (q : a ≠ b) : own_By Z h' a ty N g := by obtain ⟨F, A, r⟩ := A; exact ⟨F, A.other W q, r⟩
theorem own_By.keep {ws : List Addr} (A : own_By Z h a ty N g) (K : Keep h h' ws) (q : a ∉ ws) : own_By Z h' a ty N g := by obtain ⟨F, A, r⟩ := A; exact ⟨F, A.keep K q, r⟩
theorem own_By.weak (A : own_By Z h a ty N g) (q : ∀ j v, j < N → g' j = some v → g j = some v) : own_By Z h a ty N g' := by obtain ⟨F, A, r, r2⟩ := A; exact ⟨F, A, r, fun j v hj hv => r2 j v hj (q j v hj hv)⟩
theorem own_By.set {i v : Nat} (A : own_By Z h a ty N g) (W : Wr h h' a i (.int (Int32.ofNat v))) (hf : fits ty (.int (Int32.ofNat v)) = true) : own_By Z h' a ty N (fun j => if j = i then some v else g j) := by
  obtain ⟨F, A, r, r2⟩ := A
  refine ⟨_, A.set W, fun j hj => ?_, fun j w hj hw => ?_⟩
  · by_cases q : j = i
    · simp only [if_pos q]; exact hf
    · simp only [if_neg q]; exact r j hj
  · by_cases q : j = i
    · simp only [if_pos q] at hw ⊢; cases hw; rfl
    · simp only [if_neg q] at hw ⊢; exact r2 j w hj hw
theorem own_By.new {k : ClassId} {z : Int32} {nn : Nat} (A : Arr Z h a (newA k ty z) ty) (q : ¬ z < 0) (hz : z.toNatClampNeg = nn) (hty : fits ty (defaultValue ty) = true) : own_By Z h a ty nn (fun _ => none) := ⟨_, own_Ar.new A q hz, fun _ _ => hty, fun _ _ _ q => nomatch q⟩
theorem own_By.arv (A : own_By Z h a ty N g) : ∃ (k : ClassId) (F : Nat → Value), N < 2 ^ 31 ∧ Arv Z h a k ty (Int32.ofNat N) ((List.range N).map F) .null ∧ ∀ j v, j < N → g j = some v → F j = .int (Int32.ofNat v) := by
  obtain ⟨F, ⟨q, c, A, r, r2⟩, f, e⟩ := A
  have hn : (Int32.ofNat N).toInt = (N : Int) := Int32.toInt_ofNat_of_lt q
  have hN : (Int32.ofNat N).toNatClampNeg = N := by rw [Int32.toNatClampNeg, hn]; rfl
  have gd : ∀ i, i < N → ((List.range N).map F).getD i .null = F i := fun i hi => by simp [List.getD_eq_getElem?_getD, hi]
  refine ⟨c.cls, F, q, ⟨c, A, rfl, by rw [hN]; exact r, ?_, fun i hi => ?_, fun i hi => ?_⟩, e⟩
  · rw [Int32.lt_iff_toInt_lt, hn]; have : (0 : Int32).toInt = 0 := rfl; omega
  · rw [r] at hi; rw [gd i hi]; exact r2 i hi
  · rw [r] at hi; rw [gd i hi]; exact f i hi
theorem own_By.of_arv {k : ClassId} {vs : List Value} {d : Value} (V : Arv Z h a k ty (Int32.ofNat N) vs d) (q : N < 2 ^ 31) (e : ∀ j v, j < N → g j = some v → vs.getD j d = .int (Int32.ofNat v)) : own_By Z h a ty N g := by
  obtain ⟨c, A, -, r, -, H, f⟩ := V
  have hN : (Int32.ofNat N).toNatClampNeg = N := by rw [Int32.toNatClampNeg, Int32.toInt_ofNat_of_lt q]; rfl
  rw [hN] at r
  exact ⟨fun j => vs.getD j d, ⟨q, c, A, r, fun j hj => H j (by rw [r]; exact hj)⟩, fun j hj => f j (by rw [r]; exact hj), e⟩
theorem own_fits_byte {v : Nat} (h : v < 128) : fits .byte (.int (Int32.ofNat v)) = true := by
  have : ∀ v : Fin 128, fits .byte (.int (Int32.ofNat v.1)) = true := by decide +kernel
  exact this ⟨v, h⟩
theorem own_fits_char {v : Nat} (h : v < 128) : fits .char (.int (Int32.ofNat v)) = true := by
  have : ∀ v : Fin 128, fits .char (.int (Int32.ofNat v.1)) = true := by decide +kernel
  exact this ⟨v, h⟩
theorem own_nar_byte {v : Nat} (h : v < 128) : nar .byte (Int32.ofNat v) = Int32.ofNat v := by
  have : ∀ v : Fin 128, nar .byte (Int32.ofNat v.1) = Int32.ofNat v.1 := by decide +kernel
  exact this ⟨v, h⟩
theorem own_nar_char {v : Nat} (h : v < 128) : nar .char (Int32.ofNat v) = Int32.ofNat v := by
  have : ∀ v : Fin 128, nar .char (Int32.ofNat v.1) = Int32.ofNat v.1 := by decide +kernel
  exact this ⟨v, h⟩
theorem own_bload {Q : Option Value → Heap → List Loc → Prop} {k n : Nat} (X : Stand p l e R s m args below meth c T locs cells slots) (hx : p.tables.exec = Jvm.exec) (hZ : Z.Warmed39 s.vm) (eT : T.heap = h) {i v : Nat} {z : Int32} (A : own_By Z h a .byte N g) (hz : z.toInt = (i : Int)) (hi : i < N) (hF : g i = some v)
    {pc pc' : Nat} {Ls : Array Slot} {rest : List Value} (hd : decode c.code pc = .ok (.baload, 1)) (hpc : pc + 1 = pc') (go : own_Go p e below sW Q k n (T.setTop (mkF m pc' Ls (.int (Int32.ofNat v) :: rest)))) : own_Go p e below sW Q k n (T.setTop (mkF m pc Ls (.int z :: .ref a :: rest))) := by
  subst hpc
  obtain ⟨F, ⟨-, cl, A, r, r2⟩, -, e⟩ := A
  obtain ⟨q1, q2⟩ := own_inb r hz hi
  exact own_go (X.baloadBytes hx (j := z) (v := .int (Int32.ofNat v)) (by rw [eT]; exact A.1) (State.isArrayOf_alike hZ.alike A.2.1) A.2.2 q1 (by rw [q2, r2 i hi, e i v hi hF]) (g := mkF m pc Ls (.int z :: .ref a :: rest)) rfl rfl hd) go
theorem own_cload {Q : Option Value → Heap → List Loc → Prop} {k n : Nat} (X : Stand p l e R s m args below meth c T locs cells slots) (hx : p.tables.exec = Jvm.exec) (hZ : Z.Warmed39 s.vm) (eT : T.heap = h) {i v : Nat} {z : Int32} (A : own_By Z h a .char N g) (hz : z.toInt = (i : Int)) (hi : i < N) (hF : g i = some v)
    {pc pc' : Nat} {Ls : Array Slot} {rest : List Value} (hd : decode c.code pc = .ok (.caload, 1)) (hpc : pc + 1 = pc') (go : own_Go p e below sW Q k n (T.setTop (mkF m pc' Ls (.int (Int32.ofNat v) :: rest)))) : own_Go p e below sW Q k n (T.setTop (mkF m pc Ls (.int z :: .ref a :: rest))) := by
  subst hpc
  obtain ⟨F, ⟨-, cl, A, r, r2⟩, -, e⟩ := A
  obtain ⟨q1, q2⟩ := own_inb r hz hi
  exact own_go (X.caload hx (j := z) (v := .int (Int32.ofNat v)) (by rw [eT]; exact A.1) (State.isArrayOf_alike hZ.alike A.2.1) A.2.2 q1 (by rw [q2, r2 i hi, e i v hi hF]) (g := mkF m pc Ls (.int z :: .ref a :: rest)) rfl rfl hd) go
theorem own_bstore {Q : Option Value → Heap → List Loc → Prop} {k n : Nat} (X : Stand p l e R s m args below meth c T locs cells slots) (hx : p.tables.exec = Jvm.exec) (hZ : Z.Warmed39 s.vm) (eT : T.heap = h) {i v : Nat} {x z : Int32} (A : own_By Z h a .byte N g) (hv : v < 128) (hxv : x = Int32.ofNat v) (hz : z.toInt = (i : Int)) (hi : i < N)
    {pc pc' : Nat} {Ls : Array Slot} {rest : List Value} (hd : decode c.code pc = .ok (.bastore, 1)) (hpc : pc + 1 = pc') (go : ∀ T' h', Stand p l e R s m args below meth c T' (locs ++ [⟨a, i⟩]) cells slots → T'.heap = h' → Wr h h' a i (.int (Int32.ofNat v)) → own_By Z h' a .byte N (fun j => if j = i then some v else g j) → own_Go p e below sW Q k n (T'.setTop (mkF m pc' Ls rest))) : own_Go p e below sW Q k n (T.setTop (mkF m pc Ls (.int x :: .int z :: .ref a :: rest))) := by
  subst hpc hxv
  have A' := A
  obtain ⟨F, ⟨-, cl, A, r, r2⟩, -, -⟩ := A
  obtain ⟨q1, q2⟩ := own_inb r hz hi
  obtain ⟨T', h', X', e', W', st⟩ := stB X hx hZ eT A (j := z) (x := Int32.ofNat v) q1 (g := mkF m pc Ls (.int (Int32.ofNat v) :: .int z :: .ref a :: rest)) rfl rfl hd
  rw [q2] at X' W'
  rw [own_nar_byte hv] at W'
  exact own_go st (go T' h' X' e' W' (A'.set W' (own_fits_byte hv)))
theorem own_cstore {Q : Option Value → Heap → List Loc → Prop} {k n : Nat} (X : Stand p l e R s m args below meth c T locs cells slots) (hx : p.tables.exec = Jvm.exec) (hZ : Z.Warmed39 s.vm) (eT : T.heap = h) {i v : Nat} {x z : Int32} (A : own_By Z h a .char N g) (hv : v < 128) (hxv : x = Int32.ofNat v) (hz : z.toInt = (i : Int)) (hi : i < N)
    {pc pc' : Nat} {Ls : Array Slot} {rest : List Value} (hd : decode c.code pc = .ok (.castore, 1)) (hpc : pc + 1 = pc') (go : ∀ T' h', Stand p l e R s m args below meth c T' (locs ++ [⟨a, i⟩]) cells slots → T'.heap = h' → Wr h h' a i (.int (Int32.ofNat v)) → own_By Z h' a .char N (fun j => if j = i then some v else g j) → own_Go p e below sW Q k n (T'.setTop (mkF m pc' Ls rest))) : own_Go p e below sW Q k n (T.setTop (mkF m pc Ls (.int x :: .int z :: .ref a :: rest))) := by
  subst hpc hxv
  have A' := A
  obtain ⟨F, ⟨-, cl, A, r, r2⟩, -, -⟩ := A
  obtain ⟨q1, q2⟩ := own_inb r hz hi
  obtain ⟨T', h', X', e', W', st⟩ := stC X hx hZ eT A (j := z) (x := Int32.ofNat v) q1 (g := mkF m pc Ls (.int (Int32.ofNat v) :: .int z :: .ref a :: rest)) rfl rfl hd
  rw [q2] at X' W'
  rw [own_nar_char hv] at W'
  exact own_go st (go T' h' X' e' W' (A'.set W' (own_fits_char hv)))
theorem own_blen {Q : Option Value → Heap → List Loc → Prop} {k n : Nat} (X : Stand p l e R s m args below meth c T locs cells slots) (hx : p.tables.exec = Jvm.exec) (hZ : Z.Warmed39 s.vm) (eT : T.heap = h) {z : Int32} (A : own_By Z h a ty N g) (hz : z.toInt = (N : Int))
    {pc pc' : Nat} {Ls : Array Slot} {rest : List Value} (hd : decode c.code pc = .ok (.arraylength, 1)) (hpc : pc + 1 = pc') (go : own_Go p e below sW Q k n (T.setTop (mkF m pc' Ls (.int z :: rest)))) : own_Go p e below sW Q k n (T.setTop (mkF m pc Ls (.ref a :: rest))) := by
  obtain ⟨F, A, -, -⟩ := A
  exact own_length X hx hZ eT A hz hd hpc go
theorem own_cpList {F G : Nat → Value} {M d k s j : Nat} (h5 : d + k ≤ M) (hj : j < M) : (((List.range M).map G).take d ++ (List.range k).map (fun i => F (s + i)) ++ ((List.range M).map G).drop (d + k)).getD j .null = if d ≤ j ∧ j < d + k then F (s + (j - d)) else G j := by
  rw [List.getD_eq_getElem?_getD, List.append_assoc]
  have l1 : (((List.range M).map G).take d).length = d := by simp; omega
  by_cases q1 : j < d
  · rw [List.getElem?_append_left (by rw [l1]; exact q1), List.getElem?_take_of_lt q1, if_neg (by omega)]
    simp [hj]
  · rw [List.getElem?_append_right (by rw [l1]; omega), l1]
    by_cases q2 : j < d + k
    · rw [List.getElem?_append_left (by simp; omega), if_pos (by omega)]
      simp [show j - d < k by omega]
    · rw [List.getElem?_append_right (by simp; omega), if_neg (by omega), List.getElem?_drop]
      simp [show d + k + (j - d - k) = j by omega, hj]
theorem own_cp {Q : Option Value → Heap → List Loc → Prop} {k n : Nat} (X : Stand p l e R s m args below meth c T locs cells slots) (hx : p.tables.exec = Jvm.exec) (hZ : Z.Warmed39 s.vm) {own : String} {index : Nat} (hown : s.vm.findClass own = some m.cls)
    (w1 : (Cond.methodLink own index Jvm.Stand.acN).before a0 Z = true) (w2 : (Cond.native Jvm.Stand.acN).before a0 Z = true) (w3 : (Cond.static Jvm.Stand.acN).before a0 Z = true) (w4 : (Cond.initialized "java/lang/System").before a0 Z = true) (eT : T.heap = h)
    {M : Nat} {f : Nat → Option Nat} (A : own_By Z h a .byte N g) (B : own_By Z h b .byte M f) {sp dp nn : Int32} {s0 d0 k0 : Nat} (hsp : sp.toInt = (s0 : Int)) (hdp : dp.toInt = (d0 : Int)) (hnn : nn.toInt = (k0 : Int)) (h4 : s0 + k0 ≤ N) (h5 : d0 + k0 ≤ M) {n0 : Nat} (Nf : Fr n0 locs) (ge : n0 ≤ b)
    {pc pc' : Nat} {Ls : Array Slot} {rest : List Value} (hsize : Ls.size = c.maxLocals) (hf : 1 ≤ R.frames) (W : Nat) (hW : (rest.map fun v => v.category).sum ≤ W) (hlo : W + (nativeFrameWords "java/lang/System" "arraycopy" 5 + 11) ≤ R.locals) (hd : decode c.code pc = .ok (.invokestatic index, 3)) (hpc : pc + 3 = pc')
    (go : ∀ T' h' L, Stand p l e R s m args below meth c T' L cells slots → T'.heap = h' → Fr n0 L → Keep h h' [b] → own_By Z h' b .byte M (fun j => if d0 ≤ j ∧ j < d0 + k0 then g (s0 + (j - d0)) else f j) → own_Go p e below sW Q k n (T'.setTop (mkF m pc' Ls rest))) :
    own_Go p e below sW Q k n (T.setTop (mkF m pc Ls (.int nn :: .int dp :: .ref b :: .int sp :: .ref a :: rest))) := by
  subst hpc
  obtain ⟨k1, F, hN, VA, eA⟩ := A.arv
  obtain ⟨k2, G, hM, VB, eB⟩ := B.arv
  have cl : ∀ {z : Int32} {i : Nat}, z.toInt = (i : Int) → z.toNatClampNeg = i ∧ ¬ z < 0 := fun {z i} q => by
    refine ⟨by rw [Int32.toNatClampNeg, q]; rfl, ?_⟩
    rw [Int32.lt_iff_toInt_lt, q]; have : (0 : Int32).toInt = 0 := rfl; omega
  obtain ⟨c1, c1'⟩ := cl hsp
  obtain ⟨c2, c2'⟩ := cl hdp
  obtain ⟨c3, c3'⟩ := cl hnn
  have cN : (Int32.ofNat N).toNatClampNeg = N := (cl (Int32.toInt_ofNat_of_lt hN)).1
  have cM : (Int32.ofNat M).toNatClampNeg = M := (cl (Int32.toInt_ofNat_of_lt hM)).1
  obtain ⟨T', h', L, X', e', N', K', V', st⟩ := cpA X hx hZ hown w1 w2 w3 w4 eT VA VB (Or.inl ⟨rfl, rfl⟩) c1' c2' c3' (by rw [c1, c3, cN]; exact h4) (by rw [c2, c3, cM]; exact h5) (us := (List.range k0).map fun i => F (s0 + i)) (by
      rw [c3, c1]
      refine List.map_congr_left fun i hi => ?_
      have := List.mem_range.mp hi
      simp [List.getD_eq_getElem?_getD, show s0 + i < N by omega]) (by rw [c2, c3]; simp; exact h5) Nf ge (g := mkF m pc Ls (.int nn :: .int dp :: .ref b :: .int sp :: .ref a :: rest)) rfl hsize rfl hd hf (W := W) (by show 2 * 0 + _ ≤ _; omega) hlo
  rw [c2, c3] at V'
  refine own_go st (go T' h' L X' e' N' K' (own_By.of_arv V' hM fun j v hj hv => ?_))
  rw [own_cpList h5 hj]
  by_cases q : d0 ≤ j ∧ j < d0 + k0
  · rw [if_pos q] at hv ⊢
    exact eA _ v (by omega) hv
  · rw [if_neg q] at hv ⊢
    exact eB j v hj hv
theorem own_cloneB (X : Stand p l e R s m args below meth c T locs cells slots) (hx : p.tables.exec = Jvm.exec) (hZ : Z.Warmed39 s.vm) {own ad : String} {index : Nat} (hown : s.vm.findClass own = some m.cls)
    (w1 : (Cond.methodLink own index ⟨ad, "clone", "()Ljava/lang/Object;"⟩).before a0 Z = true) (w2 : (Cond.sameMethod ad "java/lang/Object" "clone" "()Ljava/lang/Object;").before a0 Z = true) (w3 : (Cond.native ⟨"java/lang/Object", "clone", "()Ljava/lang/Object;"⟩).before a0 Z = true)
    (w4 : (Cond.instanceMethod ⟨"java/lang/Object", "clone", "()Ljava/lang/Object;"⟩).before a0 Z = true) (w5 : (Cond.selects ad ⟨ad, "clone", "()Ljava/lang/Object;"⟩ ⟨"java/lang/Object", "clone", "()Ljava/lang/Object;"⟩).before a0 Z = true) (w6 : (Cond.castable ad "java/lang/Cloneable").before a0 Z = true)
    (eT : T.heap = h) (A : own_By Z h a ty N g) (E : Exa Z h a ad) {f : JFrame} (hg : f.method = m) (hsize : f.locals.size = c.maxLocals) {rest : List Value} (hs : f.stack = .ref a :: rest) (hd : decode c.code f.pc = .ok (.invokevirtual index, 3))
    (hf : 1 ≤ R.frames) {W : Nat} (hW : 2 * f.monitorRoom + (rest.map fun v => v.category).sum ≤ W) (hl : W + 14 ≤ R.locals) (hc : cells + 1 ≤ R.cells) (hsl : slots + N ≤ R.slots) :
    ∃ T' h', Stand p l e R s m args below meth c T' locs (cells + 1) (slots + N) ∧ T'.heap = h' ∧ Ext h h' ∧ own_By Z h' h.size ty N g ∧ Exa Z h' h.size ad ∧
      ∀ target, Steps p.tables e below (T'.setTop { f with pc := f.pc + 3, stack := .ref h.size :: rest }) target → Steps p.tables e below (T.setTop f) target := by
  obtain ⟨F, ⟨q, cl, A, r, r2⟩, ft, e⟩ := A
  obtain ⟨T', h', X', e', E', A2, Ex, st⟩ := cloneA X hx hZ hown w1 w2 w3 w4 w5 w6 eT A E (fun i v hv => by
    have hi := (Array.getElem?_eq_some_iff.mp hv).1
    rw [r] at hi
    have hv' : v = F i := Option.some.inj (hv.symm.trans (r2 i hi))
    obtain ⟨-, k, hk, comp, hkind⟩ := A.2.1
    subst hv'
    simp [State.fitsSlot, State.slotType?, hk, hkind, ft i hi]) hg hsize hs hd hf hW hl (cap := N) (by omega) hc hsl
  exact ⟨T', h', X', e', E', ⟨F, ⟨q, _, A2, r, r2⟩, ft, e⟩, Ex, st⟩
end OwnBy
section OwnStrC
variable {sW : State × Bool} {p : Program} {l : Launch} {e : Env} {R : Room} {s : State} {m : MethodId} {args : Array Value} {below : List Frame} {meth : Method} {c : Code} {T : State} {locs : List Loc} {cells slots : Nat} {Z : State} {a0 : Array Value} {h h' : Heap}
theorem own_arvC {b : Addr} {n : Nat} {cs : List Nat} (hn : cs.length = n) (A : own_By Z h b .char n (fun j => cs[j]?)) : ∃ k : ClassId, Arv Z h b k .char (Int32.ofNat n) ((cs.map Int32.ofNat).map Value.int) .null := by
  obtain ⟨k, F, hN, V, e⟩ := A.arv
  refine ⟨k, ?_⟩
  have q : (List.range n).map F = (cs.map Int32.ofNat).map Value.int := by
    refine List.ext_getElem (by simp [hn]) fun i h1 h2 => ?_
    have hi : i < n := by simpa using h1
    have hv : cs[i]? = some cs[i] := List.getElem?_eq_getElem (by omega)
    have := e i _ hi hv
    simp [this]
  rw [← q]
  exact V
theorem own_lo8 {x : Nat} (h : x < 128) : (Int32.ofNat x).toInt8.toInt32 = Int32.ofNat x := by
  have : ∀ v : Fin 128, (Int32.ofNat v.1).toInt8.toInt32 = Int32.ofNat v.1 := by decide +kernel
  exact this ⟨x, h⟩
/-- new String(char[]), the chars below 128 -/
theorem own_strC {Q' : Option Value → Heap → List Loc → Prop} {k n' : Nat} (X : Stand p l e R s m args below meth c T locs cells slots) (hx : p.tables.exec = Jvm.exec) (hZ : Z.Warmed39 s.vm) {own : String} {index : Nat} {bytes : ByteArray} {maxL : Nat}
    (hown : s.vm.findClass own = some m.cls) (w1 : (Cond.methodLink own index ⟨"java/lang/String", "<init>", "([C)V"⟩).before a0 Z = true) (w2 : (Cond.instanceMethod ⟨"java/lang/String", "<init>", "([C)V"⟩).before a0 Z = true) (w4 : (Cond.code ⟨"java/lang/String", "<init>", "([C)V"⟩ bytes maxL none).before a0 Z = true)
    (hws : ∀ d ∈ StrChars.Road.words, d.before a0 Z = true) {kI : Nat} (wi : (Jvm.Cond.instantiable "java/lang/String" kI).before a0 Z = true) (eT : T.heap = h) {x b : Addr} {cs : List Nat} {n n0 : Nat} {v0 c0 : Value} {z : Int32} (hn : cs.length = n) (l0 : 0 < n) (l2 : n ≤ 4000) (hc : ∀ c ∈ cs, c < 128)
    (E : Exa Z h x "java/lang/String") (V : Fld Z h x "java/lang/String" "value" "[B" v0) (C : Fld Z h x "java/lang/String" "coder" "B" c0) (A : own_By Z h b .char n (fun j => cs[j]?)) (S : Sta Z h "java/lang/String" "COMPACT_STRINGS" "Z" (.int z)) (hz : ¬ z = 0) (hx0 : n0 ≤ x) (hh0 : n0 ≤ h.size)
    (W : Nat) (hfr : 4 ≤ R.frames) (hlo : W + 65 ≤ R.locals) (hcl : cells + 1 ≤ R.cells) (hsl : slots + n ≤ R.slots) {pc pc' : Nat} {Ls : Array Slot} {rest : List Value} (hsize : Ls.size = c.maxLocals) (hW : (rest.map fun v => v.category).sum ≤ W) (hd : decode c.code pc = .ok (.invokespecial index, 3)) (hpc : pc + 3 = pc')
    (go : ∀ (T' : State) (L : List Loc) (r : Addr), Stand p l e R s m args below meth c T' (locs ++ L) (cells + 1) (slots + n) → Fr n0 L → Keep h T'.heap [x] → Exa Z T'.heap x "java/lang/String" → Fld Z T'.heap x "java/lang/String" "coder" "B" (.int 0) → n0 ≤ r → h.size ≤ r → Fld Z T'.heap x "java/lang/String" "value" "[B" (.ref r) → own_By Z T'.heap r .byte n (fun j => cs[j]?) → own_Go p e below sW Q' k n' (T'.setTop (mkF m pc' Ls rest))) :
    own_Go p e below sW Q' k n' (T.setTop (mkF m pc Ls (.ref b :: .ref x :: rest))) := by
  subst hpc
  obtain ⟨kC, VA⟩ := own_arvC hn A
  have hlat : ∀ c ∈ cs.map Int32.ofNat, ¬ c < 0 ∧ ¬ (255 : Int32) < c := by
    intro c hcm
    obtain ⟨v, hv, rfl⟩ := List.mem_map.mp hcm
    have h7 := hc v hv
    have e1 : (Int32.ofNat v).toInt = (v : Int) := Int32.toInt_ofNat_of_lt (by omega)
    have e255 : (255 : Int32).toInt = 255 := rfl
    have e0 : (0 : Int32).toInt = 0 := rfl
    exact ⟨own_nlt (by omega), own_nlt (by omega)⟩
  obtain ⟨v, _, ⟨T', L', k', m'⟩, -, X', ⟨L, hQ, hl', hk', hn'⟩, stp⟩ := X.specialBack hx rfl hown (mvT hZ w1) (mvT hZ w2) (mvT hZ w4) (by decide) (StrChars.Road.backV (W := W) hZ hws wi (cs := cs.map Int32.ofNat) (bs := (cs.map Int32.ofNat).map (fun c => c.toInt8.toInt32)) (n := n) hx0 hh0 E V C VA S hz (by rw [List.length_map]; exact hn) rfl l0 l2 hlat rfl hfr hlo) (g := mkF m pc Ls (.ref b :: .ref x :: rest)) rfl hsize (Steps.refl _) (a := x) (argsL := [.ref b]) (rest := rest) (lenOf (ps := [.array .char]) (r := none) (by decide +kernel) rfl) rfl (by show 2 * 0 + _ ≤ _; omega) hd (fun _ _ => ⟨rfl, eT, hcl, hsl⟩)
  dsimp only [Pt.U, Pt.locs, Pt.cells, Pt.slots] at X' hl' hk' hn' stp hQ
  subst hl' hk' hn'
  obtain ⟨q1, q2, q3, q4, q5, r, kb, q6, q7, q8, q9, q10⟩ := hQ
  subst q1
  have hb : own_By Z T'.heap r .byte n (fun j => cs[j]?) := own_By.of_arv q10 (by omega) fun j v hj hv => by
    have hv' : cs[j]? = some v := hv
    have hm : v ∈ cs := List.mem_of_getElem? hv'
    rw [List.getD_eq_getElem?_getD, List.getElem?_map, List.getElem?_map, List.getElem?_map, hv']
    show Value.int ((Int32.ofNat v).toInt8.toInt32) = _
    rw [own_lo8 (hc v hm)]
  exact own_go (fun _ q => stp.trans q) (go T' L r X' q2 q3 q4 q5 q6 q7 q9 hb)
end OwnStrC
theorem own_shr0 (z : Int32) : z >>> ((0 : Int32) &&& 31) = z := by
  have : (0 : Int32) &&& 31 = 0 := by decide
  rw [this]
  simp
theorem own_mask {x : Nat} (h : x < 128) : ((Int32.ofNat x) &&& (255 : Int32)).toUInt32.toUInt16.toUInt32.toInt32 = Int32.ofNat x := by
  have : ∀ v : Fin 128, ((Int32.ofNat v.1) &&& (255 : Int32)).toUInt32.toUInt16.toUInt32.toInt32 = Int32.ofNat v.1 := by decide +kernel
  exact this ⟨x, h⟩
theorem own_narrow_char {x : Nat} (h : x < 128) : narrow .char (.int (Int32.ofNat x)) = .int (Int32.ofNat x) := by
  have : ∀ v : Fin 128, narrow .char (.int (Int32.ofNat v.1)) = .int (Int32.ofNat v.1) := by decide +kernel
  exact this ⟨x, h⟩
def own_okc (x : Nat) : Prop := (97 ≤ x ∧ x ≤ 122) ∨ (65 ≤ x ∧ x ≤ 90) ∨ (48 ≤ x ∧ x ≤ 57) ∨ x = 95 ∨ x = 45
theorem own_okc_lt {x : Nat} (h : own_okc x) : x < 128 := by rcases h with q | q | q | q | q <;> omega
theorem own_ofNat {x : Nat} (h : x < 128) : (Int32.ofNat x).toInt = (x : Int) := Int32.toInt_ofNat_of_lt (by omega)
theorem own_inc {zi : Int32} {i : Nat} (h : zi.toInt = (i : Int)) (hb : (i : Int) + 1 < 2147483648) : (zi + (1 : Int32)).toInt = ((i + 1 : Nat) : Int) := by
  have h1 := c_iadd zi 1
  have h2 := rng32 (zi + 1)
  have e1 : (1 : Int32).toInt = 1 := rfl
  omega
theorem own_mi {x : Nat} {r1 r2 : Int32} (hok : own_okc x) (hd1 : r1 = 0) (hd2 : r2 = 0) (hu : ¬ Int32.ofNat x = 95)
    (hr1 : (r1 = 1 ∧ (97 ≤ (Int32.ofNat x).toInt ∧ (Int32.ofNat x).toInt ≤ 122 ∨ 65 ≤ (Int32.ofNat x).toInt ∧ (Int32.ofNat x).toInt ≤ 90)) ∨ (r1 = 0 ∧ ¬ (97 ≤ (Int32.ofNat x).toInt ∧ (Int32.ofNat x).toInt ≤ 122 ∨ 65 ≤ (Int32.ofNat x).toInt ∧ (Int32.ofNat x).toInt ≤ 90)))
    (hr2 : (r2 = 1 ∧ (48 ≤ (Int32.ofNat x).toInt ∧ (Int32.ofNat x).toInt ≤ 57)) ∨ (r2 = 0 ∧ ¬ (48 ≤ (Int32.ofNat x).toInt ∧ (Int32.ofNat x).toInt ≤ 57))) : Int32.ofNat x = 45 := by
  have hx := own_ofNat (own_okc_lt hok)
  subst hd1 hd2
  rcases hr1 with ⟨q, -⟩ | ⟨-, q1⟩
  · exact absurd q (by decide)
  rcases hr2 with ⟨q, -⟩ | ⟨-, q2⟩
  · exact absurd q (by decide)
  have e95 : (95 : Int32).toInt = 95 := rfl
  have hu' := own_neI hu
  refine own_eq ?_
  have e45 : (45 : Int32).toInt = 45 := rfl
  rw [hx] at q1 q2 hu' ⊢
  rw [e95] at hu'
  rw [e45]
  rcases hok with q | q | q | q | q <;> omega

/-- a builder b of count c over the array w of N bytes -/
def own_SB (Z : State) (h : Heap) (b w : Addr) (N : Nat) (c : Int32) (g : Nat → Option Nat) : Prop := Exa Z h b "java/lang/StringBuilder" ∧ Fld Z h b "java/lang/AbstractStringBuilder" "value" "[B" (.ref w) ∧ Fld Z h b "java/lang/AbstractStringBuilder" "coder" "B" (.int 0) ∧ Fld Z h b "java/lang/AbstractStringBuilder" "count" "I" (.int c) ∧ own_By Z h w .byte N g ∧ Exa Z h w "[B"

theorem own_ofNatI {k : Nat} (h : k < 2147483648) : (Int32.ofNat k).toInt = (k : Int) := Int32.toInt_ofNat_of_lt h
theorem own_ofNat1 {k : Nat} : Int32.ofNat k + (1 : Int32) = Int32.ofNat (k + 1) := (Int32.ofNat_add k 1).symm
theorem own_i2b {x : Nat} (h : x < 128) : (Int32.ofNat x).toInt8.toInt32 = Int32.ofNat x := by
  have : ∀ v : Fin 128, (Int32.ofNat v.1).toInt8.toInt32 = Int32.ofNat v.1 := by decide +kernel
  exact this ⟨x, h⟩
theorem own_suble {x y : Int32} {N : Nat} (h0 : 0 ≤ x.toInt) (h1 : x.toInt ≤ (N : Int)) (h2 : y.toInt = (N : Int)) : ¬ (0 : Int32) < x - y := by
  have h3 := c_isub x y
  have h4 := rng32 (x - y)
  have h5 := rng32 y
  have e0 : (0 : Int32).toInt = 0 := rfl
  exact own_nlt (by omega)
theorem own_g16 {g : Nat → Option Nat} : ∀ j v, j < 34 → (fun j => if j < 16 then g j else none) j = some v → (fun j => if 0 ≤ j ∧ j < 0 + 16 then g (0 + (j - 0)) else none) j = some v := by
  intro j v hj hv
  by_cases q : j < 16
  · simp only [if_pos q] at hv
    simp [q, hv]
  · simp [q] at hv

theorem own_shl0 (z : Int32) : z <<< ((0 : Int32) &&& 31) = z := by
  have : (0 : Int32) &&& 31 = 0 := by decide
  rw [this]
  simp
theorem own_ofNatAdd {k n : Nat} : Int32.ofNat k + Int32.ofNat n = Int32.ofNat (k + n) := (Int32.ofNat_add k n).symm
theorem own_subz (z : Int32) : z - (0 : Int32) = z := by simp

theorem own_gk {k : Nat} {g : Nat → Option Nat} : ∀ j v, j < k → (fun j => if j < k then g j else none) j = some v → (fun j => if 0 ≤ j ∧ j < 0 + k then g (0 + (j - 0)) else none) j = some v := by
  intro j v hj hv
  simp only [if_pos hj] at hv
  simp [hj, hv]
theorem own_gkN {k : Nat} {g : Nat → Option Nat} : ∀ j v, j < k → (fun j => if j < k then g j else none) j = some v → g j = some v := by
  intro j v hj hv
  simpa only [if_pos hj] using hv

def own_dig (nd X : Nat) : Prop := 1 ≤ nd ∧ nd ≤ 10 ∧ 10 ^ (nd - 1) ≤ X ∧ X < 10 ^ nd
theorem own_neg32 {x : Int32} (h : 0 ≤ x.toInt) : (-x).toInt = -x.toInt := by
  have h1 := c_ineg x
  have h2 := rng32 (-x)
  have h3 := rng32 x
  omega

theorem own_dig_lt {pos y : Nat} (h : pos ≤ 10) (q : y < 10 ^ pos) : y < 10000000000 := Nat.lt_of_lt_of_le q (Nat.pow_le_pow_right (by decide) h)
theorem own_dig2 {pos y : Nat} (q : y < 10 ^ pos) (h : 10 ≤ y) : 2 ≤ pos := by
  rcases (show pos ≤ 1 ∨ 2 ≤ pos by omega) with r | r
  · have := Nat.pow_le_pow_right (show 0 < 10 by decide) r
    omega
  · exact r
theorem own_dig3 {pos y : Nat} (q : y < 10 ^ pos) (h : 100 ≤ y) : 3 ≤ pos := by
  rcases (show pos ≤ 2 ∨ 3 ≤ pos by omega) with r | r
  · have := Nat.pow_le_pow_right (show 0 < 10 by decide) r
    omega
  · exact r
theorem own_negz {zi : Int32} {y : Nat} (h : zi.toInt = -(y : Int)) (q : y < 2147483648) : (-zi).toInt = (y : Int) := by
  have h1 := c_ineg zi
  have h2 := rng32 (-zi)
  omega
theorem own_dec {zp : Int32} {pos : Nat} (h : zp.toInt = (pos : Int)) (q : 1 ≤ pos) : (zp + (-1 : Int32)).toInt = ((pos - 1 : Nat) : Int) := by
  have h1 := c_iadd zp (-1)
  have h2 := rng32 (zp + (-1))
  have h3 := rng32 zp
  have e1 : (-1 : Int32).toInt = -1 := rfl
  omega
theorem own_dec2 {zp : Int32} {pos : Nat} (h : zp.toInt = (pos : Int)) (q : 2 ≤ pos) : (zp + (-1 : Int32) + (-1 : Int32)).toInt = ((pos - 2 : Nat) : Int) := by
  have h1 := own_dec h (by omega)
  have h2 := own_dec h1 (by omega)
  omega
theorem own_div100 {zi : Int32} {y : Nat} (h : zi.toInt = -(y : Int)) : (zi / (100 : Int32)).toInt = -((y / 100 : Nat) : Int) := by
  obtain ⟨h1, h2⟩ := c_idiv zi 100 100 rfl (by decide)
  rcases (show zi.toInt < 0 ∨ 0 ≤ zi.toInt by omega) with q | q
  · have := h2 q
    omega
  · have := h1 q
    omega
theorem own_rem100 {zi : Int32} {y : Nat} (h : zi.toInt = -(y : Int)) (q : y < 10000000000) : (zi / (100 : Int32) * (100 : Int32) - zi).toInt = ((y % 100 : Nat) : Int) := by
  have h0 := own_div100 h
  have h1 := c_imul (zi / 100) 100
  have h2 := rng32 (zi / 100 * 100)
  have h3 := c_isub (zi / 100 * 100) zi
  have h4 := rng32 (zi / 100 * 100 - zi)
  have h5 := rng32 zi
  have e1 : (100 : Int32).toInt = 100 := rfl
  rw [h0, e1] at h1
  omega
theorem own_dig100 {pos y : Nat} (p2 : pos ≤ 10) (p3 : 10 ^ (pos - 1) ≤ y) (p4 : y < 10 ^ pos) (h : 3 ≤ pos) : own_dig (pos - 2) (y / 100) := by
  obtain ⟨q, rfl⟩ : ∃ q, pos = q + 3 := ⟨pos - 3, by omega⟩
  have e1 : 10 ^ (q + 3 - 1) = 10 ^ q * 100 := by rw [show q + 3 - 1 = q + 2 by omega, Nat.pow_add]
  have e2 : 10 ^ (q + 3) = 10 ^ (q + 1) * 100 := by rw [show q + 3 = (q + 1) + 2 by omega, Nat.pow_add]
  rw [e1] at p3
  rw [e2] at p4
  refine ⟨by omega, by omega, ?_, ?_⟩
  · show 10 ^ (q + 3 - 2 - 1) ≤ y / 100
    rw [show q + 3 - 2 - 1 = q by omega]
    omega
  · show y / 100 < 10 ^ (q + 3 - 2)
    rw [show q + 3 - 2 = q + 1 by omega]
    omega
theorem own_ydiv {nd pos X y : Nat} (hpn : pos ≤ nd) (hy : y = X / 10 ^ (nd - pos)) (h : 2 ≤ pos) : y / 100 = X / 10 ^ (nd - (pos - 2)) := by
  rw [show nd - (pos - 2) = (nd - pos) + 2 by omega, Nat.pow_add, ← Nat.div_div_eq_div_mul, hy]
theorem own_gz {nd X : Nat} : ∀ j v, j < nd → (fun j => if nd ≤ j ∧ j < nd then some (48 + X / 10 ^ (nd - 1 - j) % 10) else none) j = some v → (fun _ : Nat => (none : Option Nat)) j = some v := by
  intro j v hj hv
  simp only [if_neg (show ¬ (nd ≤ j ∧ j < nd) by omega)] at hv
  exact hv
theorem own_gd1 {nd pos X y : Nat} (hpn : pos ≤ nd) (hy : y = X / 10 ^ (nd - pos)) (p1 : 1 ≤ pos) : X / 10 ^ (nd - 1 - (pos - 1)) % 10 = y % 10 := by
  rw [show nd - 1 - (pos - 1) = nd - pos by omega, ← hy]
theorem own_gd2 {nd pos X y : Nat} (hpn : pos ≤ nd) (hy : y = X / 10 ^ (nd - pos)) (p1 : 2 ≤ pos) : X / 10 ^ (nd - 1 - (pos - 2)) % 10 = y / 10 % 10 := by
  rw [show nd - 1 - (pos - 2) = (nd - pos) + 1 by omega, Nat.pow_add, ← Nat.div_div_eq_div_mul, ← hy]
theorem own_gfin1 {nd pos X y : Nat} (hpn : pos ≤ nd) (hy : y = X / 10 ^ (nd - pos)) (p1 : 1 ≤ pos) (p3 : 10 ^ (pos - 1) ≤ y) (p4 : y < 10 ^ pos) (h : y < 10) : ∀ j v, j < nd → (fun j => if 0 ≤ j ∧ j < nd then some (48 + X / 10 ^ (nd - 1 - j) % 10) else none) j = some v → (fun j => if j = pos - 1 then some (48 + y % 10) else (fun j => if pos ≤ j ∧ j < nd then some (48 + X / 10 ^ (nd - 1 - j) % 10) else none) j) j = some v := by
  intro j v hj hv
  simp only [if_pos (show 0 ≤ j ∧ j < nd by omega)] at hv
  by_cases q : j = pos - 1
  · subst q
    rw [own_gd1 hpn hy p1] at hv
    simpa using hv
  · have hp : pos = 1 := by
      rcases (show pos = 1 ∨ 2 ≤ pos by omega) with r | r
      · exact r
      · have := Nat.pow_le_pow_right (show 0 < 10 by decide) (show 1 ≤ pos - 1 by omega)
        omega
    simp only [if_neg q, if_pos (show pos ≤ j ∧ j < nd by omega)]
    exact hv
theorem own_gfin2 {nd pos X y : Nat} (hpn : pos ≤ nd) (hy : y = X / 10 ^ (nd - pos)) (p1 : 1 ≤ pos) (p3 : 10 ^ (pos - 1) ≤ y) (p4 : y < 10 ^ pos) (h : 10 ≤ y ∧ y < 100) : ∀ j v, j < nd → (fun j => if 0 ≤ j ∧ j < nd then some (48 + X / 10 ^ (nd - 1 - j) % 10) else none) j = some v → (fun j => if j = pos - 2 then some (48 + y / 10) else (fun j => if j = pos - 1 then some (48 + y % 10) else (fun j => if pos ≤ j ∧ j < nd then some (48 + X / 10 ^ (nd - 1 - j) % 10) else none) j) j) j = some v := by
  intro j v hj hv
  simp only [if_pos (show 0 ≤ j ∧ j < nd by omega)] at hv
  have hp2 := own_dig2 p4 h.1
  have hp : pos = 2 := by
    rcases (show pos = 2 ∨ 3 ≤ pos by omega) with r | r
    · exact r
    · have := Nat.pow_le_pow_right (show 0 < 10 by decide) (show 2 ≤ pos - 1 by omega)
      omega
  by_cases q2 : j = pos - 2
  · subst q2
    rw [own_gd2 hpn hy hp2] at hv
    have : y / 10 % 10 = y / 10 := by omega
    rw [this] at hv
    simpa using hv
  · by_cases q : j = pos - 1
    · subst q
      rw [own_gd1 hpn hy p1] at hv
      simp only [if_neg q2]
      simpa using hv
    · simp only [if_neg q2, if_neg q, if_pos (show pos ≤ j ∧ j < nd by omega)]
      exact hv
theorem own_gstep {nd pos X y : Nat} (hpn : pos ≤ nd) (hy : y = X / 10 ^ (nd - pos)) (hp3 : 3 ≤ pos) : ∀ j v, j < nd → (fun j => if pos - 2 ≤ j ∧ j < nd then some (48 + X / 10 ^ (nd - 1 - j) % 10) else none) j = some v → (fun j => if j = pos - 2 then some (48 + (y % 100) / 10) else (fun j => if j = pos - 1 then some (48 + (y % 100) % 10) else (fun j => if pos ≤ j ∧ j < nd then some (48 + X / 10 ^ (nd - 1 - j) % 10) else none) j) j) j = some v := by
  intro j v hj hv
  by_cases q0 : pos - 2 ≤ j
  · simp only [if_pos (show pos - 2 ≤ j ∧ j < nd by omega)] at hv
    by_cases q2 : j = pos - 2
    · subst q2
      rw [own_gd2 hpn hy (by omega)] at hv
      have : y / 10 % 10 = y % 100 / 10 := by omega
      rw [this] at hv
      simpa using hv
    · by_cases q : j = pos - 1
      · subst q
        rw [own_gd1 hpn hy (by omega)] at hv
        have : y % 10 = y % 100 % 10 := by omega
        rw [this] at hv
        simp only [if_neg q2]
        simpa using hv
      · simp only [if_neg q2, if_neg q, if_pos (show pos ≤ j ∧ j < nd by omega)]
        exact hv
  · simp only [if_neg (show ¬ (pos - 2 ≤ j ∧ j < nd) by omega)] at hv
    cases hv

def own_txt (lt nd X : Nat) (it : Option (Nat × (Nat → Option Nat))) (j : Nat) : Option Nat :=
  if j = 0 then some lt else if j < 1 + nd then some (48 + X / 10 ^ (nd - j) % 10) else match it with
    | none => none
    | some (n, gs) => if j = 1 + nd then some 91 else if j < 1 + nd + 1 + n then gs (j - (1 + nd + 1)) else if j = 1 + nd + 1 + n then some 93 else none
abbrev own_tA (lt : Nat) : Nat → Option Nat := fun j => if j = 0 then some lt else (fun _ => none) j
abbrev own_tB (lt nd X : Nat) : Nat → Option Nat := fun j => if 1 ≤ j ∧ j < 1 + nd then (fun j => if 0 ≤ j ∧ j < nd then some (48 + X / 10 ^ (nd - 1 - j) % 10) else none) (0 + (j - 1)) else own_tA lt j
abbrev own_tC (lt nd X : Nat) : Nat → Option Nat := fun j => if j = 1 + nd then some 91 else own_tB lt nd X j
abbrev own_tD (lt nd X n : Nat) (gs : Nat → Option Nat) : Nat → Option Nat := fun j => if 1 + nd + 1 ≤ j ∧ j < 1 + nd + 1 + n then gs (0 + (j - (1 + nd + 1))) else own_tC lt nd X j
theorem own_tB_eq {lt nd X j : Nat} (h : j < 1 + nd) : own_tB lt nd X j = own_txt lt nd X none j := by
  by_cases q : j = 0
  · subst q
    simp [own_txt, own_tB, own_tA]
  · simp only [own_txt, own_tB, if_neg q, if_pos h, if_pos (show 1 ≤ j ∧ j < 1 + nd by omega), if_pos (show 0 ≤ 0 + (j - 1) ∧ 0 + (j - 1) < nd by omega), show nd - 1 - (0 + (j - 1)) = nd - j by omega]
theorem own_txt0 {lt nd X : Nat} : ∀ j v, j < 1 + nd → own_txt lt nd X none j = some v → (fun j => if j < 1 + nd then own_tB lt nd X j else none) j = some v := by
  intro j v hj hv
  simp only [if_pos hj, own_tB_eq hj]
  exact hv
theorem own_tD_eq {lt nd X n j : Nat} {gs : Nat → Option Nat} (h : j < 1 + nd + 1 + n) : own_tD lt nd X n gs j = own_txt lt nd X (some (n, gs)) j := by
  by_cases q1 : j < 1 + nd
  · have e : own_txt lt nd X (some (n, gs)) j = own_txt lt nd X none j := by
      unfold own_txt
      by_cases q : j = 0
      · simp [q]
      · simp [q, q1]
    rw [e, ← own_tB_eq q1]
    simp only [own_tD, own_tC, if_neg (show ¬ (1 + nd + 1 ≤ j ∧ j < 1 + nd + 1 + n) by omega), if_neg (show ¬ j = 1 + nd by omega)]
  · by_cases q2 : j = 1 + nd
    · simp only [own_txt, own_tD, own_tC, if_neg (show ¬ j = 0 by omega), if_neg q1, if_pos q2, if_neg (show ¬ (1 + nd + 1 ≤ j ∧ j < 1 + nd + 1 + n) by omega)]
    · simp only [own_txt, own_tD, if_neg (show ¬ j = 0 by omega), if_neg q1, if_neg q2, if_pos h, if_pos (show 1 + nd + 1 ≤ j ∧ j < 1 + nd + 1 + n by omega), Nat.zero_add]
theorem own_txt1 {lt nd X n : Nat} {gs : Nat → Option Nat} : ∀ j v, j < 1 + nd + 1 + n + 1 → own_txt lt nd X (some (n, gs)) j = some v → (fun j => if j < 1 + nd + 1 + n + 1 then (fun j => if j = 1 + nd + 1 + n then some 93 else own_tD lt nd X n gs j) j else none) j = some v := by
  intro j v hj hv
  simp only [if_pos hj]
  by_cases q : j = 1 + nd + 1 + n
  · subst q
    simp only [own_txt, if_neg (show ¬ 1 + nd + 1 + n = 0 by omega), if_neg (show ¬ 1 + nd + 1 + n < 1 + nd by omega), if_neg (show ¬ 1 + nd + 1 + n = 1 + nd by omega), Nat.lt_irrefl, if_false, if_true] at hv ⊢
    exact hv
  · rw [if_neg q, own_tD_eq (by omega)]
    exact hv
theorem own_txt2 {lt nd X n : Nat} {gs : Nat → Option Nat} (h16 : 1 + nd + 1 + n = 16) : ∀ j v, j < 17 → own_txt lt nd X (some (n, gs)) j = some v → (fun j => if j < 17 then (fun j => if j = 16 then some 93 else if j < 16 then own_tD lt nd X n gs j else none) j else none) j = some v := by
  intro j v hj hv
  have := own_txt1 (lt := lt) (nd := nd) (X := X) (n := n) (gs := gs) j v (by omega) hv
  simp only [if_pos hj, if_pos (show j < 1 + nd + 1 + n + 1 by omega), h16] at this ⊢
  by_cases q : j = 16
  · simpa [q] using this
  · simp only [if_neg q, if_pos (show j < 16 by omega)] at this ⊢
    exact this
theorem own_cast16 {Z : State} {h : Heap} {b w : Addr} {N k : Nat} {g : Nat → Option Nat} (q : k = 16) (S : own_SB Z h b w N (Int32.ofNat k) g) : own_SB Z h b w N (16 : Int32) g := by
  subst q; exact S
theorem own_len17 {Z : State} {h : Heap} {r : Addr} {nd n : Nat} {g : Nat → Option Nat} (h16 : 1 + nd + 1 + n = 16) (A : own_By Z h r .byte 17 g) : own_By Z h r .byte (1 + nd + 1 + n + 1) g := by
  rw [h16]; exact A

theorem own_fin64 {v : Int32} (h0 : 0 ≤ v.toInt) (h1 : v.toInt < 64) : ∃ k : Fin 64, v = Int32.ofNat k.1 := by
  refine ⟨⟨v.toInt.toNat, by omega⟩, own_eq ?_⟩
  show v.toInt = (Int32.ofNat v.toInt.toNat).toInt
  rw [Int32.toInt_ofNat_of_lt (by omega)]
  omega
theorem own_ch1 (k : Fin 64) (h : Int32.ofNat k.1 < (26 : Int32)) : ((97 : Int32) + Int32.ofNat k.1).toUInt32.toUInt16.toUInt32.toInt32 = Int32.ofNat (97 + k.1) := by revert k; decide +kernel
theorem own_ch2 (k : Fin 64) (h : ¬ Int32.ofNat k.1 < (26 : Int32)) (h2 : Int32.ofNat k.1 < (52 : Int32)) : ((65 : Int32) + (Int32.ofNat k.1 - (26 : Int32))).toUInt32.toUInt16.toUInt32.toInt32 = Int32.ofNat (65 + (k.1 - 26)) := by revert k; decide +kernel
theorem own_ch3 (k : Fin 64) (h : ¬ Int32.ofNat k.1 < (26 : Int32)) (h2 : ¬ Int32.ofNat k.1 < (52 : Int32)) (h3 : Int32.ofNat k.1 < (62 : Int32)) : ((48 : Int32) + (Int32.ofNat k.1 - (52 : Int32))).toUInt32.toUInt16.toUInt32.toInt32 = Int32.ofNat (48 + (k.1 - 52)) := by revert k; decide +kernel
theorem own_okc_ch1 (k : Fin 64) (h : Int32.ofNat k.1 < (26 : Int32)) : own_okc (97 + k.1) := by
  have : ∀ k : Fin 64, Int32.ofNat k.1 < (26 : Int32) → k.1 < 26 := by decide +kernel
  have := this k h
  exact Or.inl (by omega)
theorem own_okc_ch2 (k : Fin 64) (h : ¬ Int32.ofNat k.1 < (26 : Int32)) (h2 : Int32.ofNat k.1 < (52 : Int32)) : own_okc (65 + (k.1 - 26)) := by
  have : ∀ k : Fin 64, Int32.ofNat k.1 < (52 : Int32) → k.1 < 52 := by decide +kernel
  have := this k h2
  exact Or.inr (Or.inl (by omega))
theorem own_okc_ch3 (k : Fin 64) (h : ¬ Int32.ofNat k.1 < (26 : Int32)) (h2 : ¬ Int32.ofNat k.1 < (52 : Int32)) (h3 : Int32.ofNat k.1 < (62 : Int32)) : own_okc (48 + (k.1 - 52)) := by
  have : ∀ k : Fin 64, Int32.ofNat k.1 < (62 : Int32) → k.1 < 62 := by decide +kernel
  have := this k h3
  exact Or.inr (Or.inr (Or.inl (by omega)))
theorem own_okc_lit95 : own_okc 95 := Or.inr (Or.inr (Or.inr (Or.inl rfl)))
theorem own_okc_lit45 : own_okc 45 := Or.inr (Or.inr (Or.inr (Or.inr rfl)))
theorem own_pidx {nd i : Nat} (h1 : (Int32.ofNat nd).toInt = (nd : Int)) (h2 : (Int32.ofNat i).toInt = (i : Int)) (h : i < nd) : (Int32.ofNat nd - (1 : Int32) - Int32.ofNat i).toInt = ((nd - 1 - i : Nat) : Int) := by
  have a1 := c_isub (Int32.ofNat nd) 1
  have a2 := rng32 (Int32.ofNat nd - 1)
  have a3 := c_isub (Int32.ofNat nd - 1) (Int32.ofNat i)
  have a4 := rng32 (Int32.ofNat nd - 1 - Int32.ofNat i)
  have a5 := rng32 (Int32.ofNat nd)
  have e1 : (1 : Int32).toInt = 1 := rfl
  omega
theorem own_p10lt {k : Nat} (h : k < 10) : 10 ^ k ≤ 1000000000 := Nat.pow_le_pow_right (by decide) (show k ≤ 9 by omega)
theorem own_p10i {k : Nat} (h : k < 10) : (Int32.ofNat (10 ^ k)).toInt = ((10 ^ k : Nat) : Int) := own_ofNatI (by have := own_p10lt h; omega)
theorem own_p10ne {k : Nat} (h : k < 10) : Int32.ofNat (10 ^ k) ≠ 0 := own_ne (by rw [own_p10i h]; have := Nat.pos_of_ne_zero (show 10 ^ k ≠ 0 by exact Nat.pos_iff_ne_zero.mp (Nat.pow_pos (by decide))); have e0 : (0 : Int32).toInt = 0 := rfl; omega)
theorem own_1pi {i : Nat} (h : (Int32.ofNat i).toInt = (i : Int)) (q : i < 1000) : ((1 : Int32) + Int32.ofNat i).toInt = ((1 + i : Nat) : Int) := by
  have a1 := c_iadd 1 (Int32.ofNat i)
  have a2 := rng32 ((1 : Int32) + Int32.ofNat i)
  have e1 : (1 : Int32).toInt = 1 := rfl
  omega
theorem own_gput {nd i X : Nat} {g : Nat → Option Nat} (h : i < nd) : ∀ j v, j < 17 → (fun j => if j = 1 + i ∧ i < nd then some (48 + X / 10 ^ (nd - 1 - i) % 10) else g j) j = some v → (fun j => if j = 1 + i then some (48 + X / 10 ^ (nd - 1 - i) % 10) else g j) j = some v := by
  intro j v _ hv
  simpa [h] using hv
theorem own_gputn {nd i X : Nat} {g : Nat → Option Nat} (h : ¬ i < nd) : ∀ j v, j < 17 → (fun j => if j = 1 + i ∧ i < nd then some (48 + X / 10 ^ (nd - 1 - i) % 10) else g j) j = some v → g j = some v := by
  intro j v _ hv
  simpa [h] using hv
theorem own_putv {x : Int32} {X k : Nat} (hX : x.toInt = (X : Int)) (hk : k < 10) : ((48 : Int32) + (x / Int32.ofNat (10 ^ k)) % (10 : Int32)).toUInt32.toUInt16.toUInt32.toInt32 = Int32.ofNat (48 + X / 10 ^ k % 10) := by
  have hp := Nat.pow_pos (n := k) (show 0 < 10 by decide)
  have e1 := (c_idiv x (Int32.ofNat (10 ^ k)) ((10 ^ k : Nat) : Int) (own_p10i hk) (own_ne (by rw [own_p10i hk]; have e0 : (-1 : Int32).toInt = -1 := rfl; omega))).1 (by omega)
  rw [hX] at e1
  have e1' : (x / Int32.ofNat (10 ^ k)).toInt = ((X / 10 ^ k : Nat) : Int) := by rw [e1]; exact (Int.natCast_ediv _ _).symm
  have e2 : ((x / Int32.ofNat (10 ^ k)) % (10 : Int32)).toInt = ((X / 10 ^ k % 10 : Nat) : Int) := by
    have q := (c_irem (x / Int32.ofNat (10 ^ k)) 10 10 rfl).1 (by rw [e1']; exact Int.natCast_nonneg _)
    rw [q, e1']
    exact (Int.natCast_emod _ _).symm
  have a1 := c_iadd 48 ((x / Int32.ofNat (10 ^ k)) % 10)
  have a2 := rng32 ((48 : Int32) + (x / Int32.ofNat (10 ^ k)) % 10)
  have e48 : (48 : Int32).toInt = 48 := rfl
  have e3 : (48 : Int32) + (x / Int32.ofNat (10 ^ k)) % (10 : Int32) = Int32.ofNat (48 + X / 10 ^ k % 10) := own_eq (by rw [own_ofNatI (by omega)]; omega)
  rw [e3]
  have h7 : 48 + X / 10 ^ k % 10 < 128 := by omega
  have := own_mask h7
  have m : ∀ v : Fin 128, (Int32.ofNat v.1).toUInt32.toUInt16.toUInt32.toInt32 = Int32.ofNat v.1 := by decide +kernel
  exact m ⟨_, h7⟩

theorem own_pos31 {x : Int32} (h : ¬ (x &&& (2147483647 : Int32)) = 0) : ∃ X : Nat, (x &&& (2147483647 : Int32)).toInt = (X : Int) ∧ 1 ≤ X := by
  have h1 := c_and x 2147483647 (by decide)
  have h2 := own_neI h
  have e0 : (0 : Int32).toInt = 0 := rfl
  exact ⟨(x &&& 2147483647).toInt.toNat, by omega, by omega⟩
theorem own_m63 (x : Int32) : 0 ≤ (x &&& (63 : Int32)).toInt ∧ (x &&& (63 : Int32)).toInt < 64 := by
  have h := c_and x 63 (by decide)
  have e : (63 : Int32).toInt = 63 := rfl
  omega
theorem own_and3 (x : Int32) : ∃ k : Fin 4, x &&& (3 : Int32) = Int32.ofNat k.1 := by
  have h := c_and x 3 (by decide)
  have e : (3 : Int32).toInt = 3 := rfl
  refine ⟨⟨(x &&& 3).toInt.toNat, by omega⟩, own_eq ?_⟩
  show (x &&& 3).toInt = (Int32.ofNat (x &&& 3).toInt.toNat).toInt
  rw [Int32.toInt_ofNat_of_lt (by omega)]
  omega
def own_ndf : Nat → Int32 → Int32
  | 0, _ => 1
  | 1, _ => 1
  | k + 2, x => if x < Int32.ofNat (10 ^ (k + 1)) then own_ndf (k + 1) x else Int32.ofNat (k + 2)
theorem own_ndfY1 {x : Int32} (h : x < (10 : Int32)) : own_ndf 2 x = own_ndf 1 x := if_pos h
theorem own_ndfN1 {x : Int32} (h : ¬ x < (10 : Int32)) : own_ndf 2 x = (2 : Int32) := if_neg h
theorem own_ndfY2 {x : Int32} (h : x < (100 : Int32)) : own_ndf 3 x = own_ndf 2 x := if_pos h
theorem own_ndfN2 {x : Int32} (h : ¬ x < (100 : Int32)) : own_ndf 3 x = (3 : Int32) := if_neg h
theorem own_ndfY3 {x : Int32} (h : x < (1000 : Int32)) : own_ndf 4 x = own_ndf 3 x := if_pos h
theorem own_ndfN3 {x : Int32} (h : ¬ x < (1000 : Int32)) : own_ndf 4 x = (4 : Int32) := if_neg h
theorem own_ndfY4 {x : Int32} (h : x < (10000 : Int32)) : own_ndf 5 x = own_ndf 4 x := if_pos h
theorem own_ndfN4 {x : Int32} (h : ¬ x < (10000 : Int32)) : own_ndf 5 x = (5 : Int32) := if_neg h
theorem own_ndfY5 {x : Int32} (h : x < (100000 : Int32)) : own_ndf 6 x = own_ndf 5 x := if_pos h
theorem own_ndfN5 {x : Int32} (h : ¬ x < (100000 : Int32)) : own_ndf 6 x = (6 : Int32) := if_neg h
theorem own_ndfY6 {x : Int32} (h : x < (1000000 : Int32)) : own_ndf 7 x = own_ndf 6 x := if_pos h
theorem own_ndfN6 {x : Int32} (h : ¬ x < (1000000 : Int32)) : own_ndf 7 x = (7 : Int32) := if_neg h
theorem own_ndfY7 {x : Int32} (h : x < (10000000 : Int32)) : own_ndf 8 x = own_ndf 7 x := if_pos h
theorem own_ndfN7 {x : Int32} (h : ¬ x < (10000000 : Int32)) : own_ndf 8 x = (8 : Int32) := if_neg h
theorem own_ndfY8 {x : Int32} (h : x < (100000000 : Int32)) : own_ndf 9 x = own_ndf 8 x := if_pos h
theorem own_ndfN8 {x : Int32} (h : ¬ x < (100000000 : Int32)) : own_ndf 9 x = (9 : Int32) := if_neg h
theorem own_ndfY9 {x : Int32} (h : x < (1000000000 : Int32)) : own_ndf 10 x = own_ndf 9 x := if_pos h
theorem own_ndfN9 {x : Int32} (h : ¬ x < (1000000000 : Int32)) : own_ndf 10 x = (10 : Int32) := if_neg h
theorem own_hg {c0 c1 c2 c3 n : Nat} {cs : List Nat} (hcs : ∀ j, j < n → cs[j]? = [c0, c1, c2, c3][j]?) (hn : n ≤ 4) (h0 : own_okc c0) (h1 : own_okc c1) (h2 : own_okc c2) (h3 : own_okc c3) : ∀ j, j < n → ∃ x, cs[j]? = some x ∧ own_okc x := by
  intro j hj
  rw [hcs j hj]
  rcases (show j = 0 ∨ j = 1 ∨ j = 2 ∨ j = 3 by omega) with rfl | rfl | rfl | rfl
  · exact ⟨c0, rfl, h0⟩
  · exact ⟨c1, rfl, h1⟩
  · exact ⟨c2, rfl, h2⟩
  · exact ⟨c3, rfl, h3⟩
theorem own_ndeq {x : Int32} {X nd : Nat} (hX : x.toInt = (X : Int)) (hd : own_dig nd X) : own_ndf 10 x = Int32.ofNat nd := by
  obtain ⟨h1, h2, h3, h4⟩ := hd
  have A : ∀ k, nd ≤ k → k ≤ 10 → own_ndf k x = Int32.ofNat nd := by
    intro k
    induction k with
    | zero => intro q _; omega
    | succ k ih =>
      intro q1 q2
      match k, ih, q1, q2 with
      | 0, _, q1, _ =>
        obtain rfl : nd = 1 := by omega
        rfl
      | k + 1, ih, q1, q2 =>
        have hp := own_p10i (k := k + 1) (by omega)
        show (if x < Int32.ofNat (10 ^ (k + 1)) then own_ndf (k + 1) x else Int32.ofNat (k + 2)) = _
        by_cases q : nd = k + 1 + 1
        · subst q
          rw [if_neg (own_nlt (by rw [hp, hX]; exact Int.ofNat_le.mpr h3))]
        · have h5 : 10 ^ nd ≤ 10 ^ (k + 1) := Nat.pow_le_pow_right (by decide) (by omega)
          rw [if_pos (own_lt (by rw [hp, hX]; exact Int.ofNat_lt.mpr (Nat.lt_of_lt_of_le h4 h5)))]
          exact ih (by omega) (by omega)
  exact A 10 h2 (Nat.le_refl _)
theorem own_1nd {nd : Nat} : (1 : Int32) + Int32.ofNat nd = Int32.ofNat (1 + nd) := (Int32.ofNat_add 1 nd).symm
theorem own_pk {k r : Nat} (h : k + r < 1000) : (Int32.ofNat k + Int32.ofNat r).toInt = ((k + r : Nat) : Int) := by rw [own_ofNatAdd]; exact own_ofNatI (by omega)
theorem own_pkn {k n : Nat} {z : Int32} (hz : z.toInt = (n : Int)) (h : k + n < 1000) : (Int32.ofNat k + (1 : Int32) + z).toInt = ((k + 1 + n : Nat) : Int) := by
  have e : z = Int32.ofNat n := own_eq (by rw [hz, own_ofNatI (by omega)])
  rw [e, show (1 : Int32) = Int32.ofNat 1 from rfl, own_ofNatAdd, own_ofNatAdd]
  exact own_ofNatI (by omega)
theorem own_pk2 {k n : Nat} {z : Int32} (hz : z.toInt = (n : Int)) (h : k + n < 1000) : Int32.ofNat k + (2 : Int32) + z = Int32.ofNat (k + 1 + n + 1) := by
  have e : z = Int32.ofNat n := own_eq (by rw [hz, own_ofNatI (by omega)])
  rw [e, show (2 : Int32) = Int32.ofNat 2 from rfl, own_ofNatAdd, own_ofNatAdd]
  exact congrArg Int32.ofNat (by omega)
abbrev own_P (nd X i : Nat) (g : Nat → Option Nat) : Nat → Option Nat := fun j => if j = 1 + i ∧ i < nd then some (48 + X / 10 ^ (nd - 1 - i) % 10) else g j
theorem own_puts {lt nd X : Nat} (hnd : nd ≤ 10) : ∀ j v, j < 17 → own_txt lt nd X none j = some v → own_P nd X 9 (own_P nd X 8 (own_P nd X 7 (own_P nd X 6 (own_P nd X 5 (own_P nd X 4 (own_P nd X 3 (own_P nd X 2 (own_P nd X 1 (own_P nd X 0 (fun j => if j = 0 then some lt else (fun _ => none) j)))))))))) j = some v := by
  intro j v hj hv
  by_cases q : j = 0
  · subst q
    simpa [own_txt, own_P] using hv
  · by_cases q2 : j < 1 + nd
    · simp only [own_txt, if_neg q, if_pos q2] at hv
      obtain ⟨i, rfl⟩ : ∃ i, j = 1 + i := ⟨j - 1, by omega⟩
      have hi : i < nd := by omega
      rw [show nd - (1 + i) = nd - 1 - i by omega] at hv
      rcases (show i = 0 ∨ i = 1 ∨ i = 2 ∨ i = 3 ∨ i = 4 ∨ i = 5 ∨ i = 6 ∨ i = 7 ∨ i = 8 ∨ i = 9 by omega) with rfl | rfl | rfl | rfl | rfl | rfl | rfl | rfl | rfl | rfl <;> simpa [own_P, hi] using hv
    · simp only [own_txt, if_neg q, if_neg q2] at hv
      cases hv
theorem own_txtL {lt nd X n j : Nat} {gs : Nat → Option Nat} (h : j < 1 + nd) : own_txt lt nd X (some (n, gs)) j = own_txt lt nd X none j := by
  unfold own_txt
  by_cases q : j = 0
  · rw [if_pos q, if_pos q]
  · rw [if_neg q, if_neg q, if_pos h, if_pos h]
theorem own_txtO {lt nd X n : Nat} {gs : Nat → Option Nat} : own_txt lt nd X (some (n, gs)) (1 + nd) = some 91 := by
  simp only [own_txt, if_neg (show ¬ 1 + nd = 0 by omega), if_neg (show ¬ 1 + nd < 1 + nd by omega), if_true]
theorem own_txtI {lt nd X n i : Nat} {gs : Nat → Option Nat} (h : i < n) : own_txt lt nd X (some (n, gs)) (1 + nd + 1 + i) = gs i := by
  simp only [own_txt, if_neg (show ¬ 1 + nd + 1 + i = 0 by omega), if_neg (show ¬ 1 + nd + 1 + i < 1 + nd by omega), if_neg (show ¬ 1 + nd + 1 + i = 1 + nd by omega), if_pos (show 1 + nd + 1 + i < 1 + nd + 1 + n by omega), show 1 + nd + 1 + i - (1 + nd + 1) = i by omega]
theorem own_txtC {lt nd X n : Nat} {gs : Nat → Option Nat} : own_txt lt nd X (some (n, gs)) (1 + nd + 1 + n) = some 93 := by
  simp only [own_txt, if_neg (show ¬ 1 + nd + 1 + n = 0 by omega), if_neg (show ¬ 1 + nd + 1 + n < 1 + nd by omega), if_neg (show ¬ 1 + nd + 1 + n = 1 + nd by omega), if_neg (show ¬ 1 + nd + 1 + n < 1 + nd + 1 + n by omega), if_true]
theorem own_txtN {lt nd X n j : Nat} {gs : Nat → Option Nat} (h : 1 + nd + 1 + n < j) : own_txt lt nd X (some (n, gs)) j = none := by
  simp only [own_txt, if_neg (show ¬ j = 0 by omega), if_neg (show ¬ j < 1 + nd by omega), if_neg (show ¬ j = 1 + nd by omega), if_neg (show ¬ j < 1 + nd + 1 + n by omega), if_neg (show ¬ j = 1 + nd + 1 + n by omega)]
theorem own_we1 {lt nd X n : Nat} {gs ge : Nat → Option Nat} (h : ∀ j v, j < 1 + nd + 1 + n → own_txt lt nd X (some (n, gs)) j = some v → ge j = some v) : ∀ j v, j < 17 → own_txt lt nd X (some (n, gs)) j = some v → (if j = 1 + nd + 1 + n then some 93 else ge j) = some v := by
  intro j v _ hv
  by_cases q : j = 1 + nd + 1 + n
  · rw [if_pos q]
    rw [q, own_txtC] at hv
    exact hv
  · rw [if_neg q]
    by_cases q2 : j < 1 + nd + 1 + n
    · exact h j v q2 hv
    · rw [own_txtN (by omega)] at hv
      cases hv
theorem own_txtE0 {lt nd X : Nat} (hlt : lt < 128) : ∀ j, j < 1 + nd → ∃ x, own_txt lt nd X none j = some x ∧ own_txt lt nd X none j = some x ∧ x < 128 := by
  intro j hj
  by_cases q : j = 0
  · have e : own_txt lt nd X none j = some lt := by simp only [own_txt, if_pos q]
    exact ⟨lt, e, e, hlt⟩
  · have e : own_txt lt nd X none j = some (48 + X / 10 ^ (nd - j) % 10) := by simp only [own_txt, if_neg q, if_pos hj]
    exact ⟨_, e, e, by omega⟩
theorem own_txtE1 {lt nd X n : Nat} {gs : Nat → Option Nat} (hlt : lt < 128) (hg : ∀ j, j < n → ∃ x, gs j = some x ∧ own_okc x) : ∀ j, j < 1 + nd + 1 + n + 1 → ∃ x, own_txt lt nd X (some (n, gs)) j = some x ∧ own_txt lt nd X (some (n, gs)) j = some x ∧ x < 128 := by
  intro j hj
  by_cases q : j < 1 + nd
  · rw [own_txtL q]
    exact own_txtE0 hlt j q
  · by_cases q1 : j = 1 + nd
    · subst q1
      exact ⟨91, own_txtO, own_txtO, by decide⟩
    · by_cases q2 : j = 1 + nd + 1 + n
      · subst q2
        exact ⟨93, own_txtC, own_txtC, by decide⟩
      · obtain ⟨i, rfl⟩ : ∃ i, j = 1 + nd + 1 + i := ⟨j - (1 + nd + 1), by omega⟩
        obtain ⟨x, e, ok⟩ := hg i (by omega)
        have e' : own_txt lt nd X (some (n, gs)) (1 + nd + 1 + i) = some x := (own_txtI (by omega)).trans e
        exact ⟨x, e', e', own_okc_lt ok⟩
theorem own_txtS {lt nd X n j v : Nat} {gs : Nat → Option Nat} (hj : j < 1 + nd + 1 + n) (hv : own_txt lt nd X (some (n, gs)) j = some v) : (j < 1 + nd ∧ own_txt lt nd X none j = some v) ∨ (j = 1 + nd ∧ v = 91) ∨ ∃ i, i < n ∧ j = 1 + nd + 1 + i ∧ gs i = some v := by
  by_cases q : j < 1 + nd
  · rw [own_txtL q] at hv
    exact Or.inl ⟨q, hv⟩
  · by_cases q1 : j = 1 + nd
    · subst q1
      rw [own_txtO] at hv
      exact Or.inr (Or.inl ⟨rfl, (Option.some.inj hv).symm⟩)
    · obtain ⟨i, rfl⟩ : ∃ i, j = 1 + nd + 1 + i := ⟨j - (1 + nd + 1), by omega⟩
      rw [own_txtI (by omega)] at hv
      exact Or.inr (Or.inr ⟨i, by omega, rfl, hv⟩)
theorem own_wc1 {lt nd X n c0 c1 c2 c3 : Nat} {cs : List Nat} (hn : n = 1) (hcs : ∀ j, j < n → cs[j]? = [c0, c1, c2, c3][j]?) : ∀ j v, j < 1 + nd + 1 + n → own_txt lt nd X (some (n, fun j => cs[j]?)) j = some v → (if j = 1 + nd + 1 then some c0 else if j = 1 + nd then some 91 else own_txt lt nd X none j) = some v := by
  subst hn
  intro j v hj hv
  rcases own_txtS hj hv with ⟨q, hv3⟩ | ⟨rfl, rfl⟩ | ⟨i, hi, rfl, hv3⟩
  · rw [if_neg (by omega), if_neg (by omega)]
    exact hv3
  · rw [if_neg (by omega), if_pos rfl]
  · have hv2 : cs[i]? = some v := hv3
    rw [hcs i hi] at hv2
    rcases (show i = 0 by omega) with rfl
    · rw [if_pos (by omega)]
      exact hv2
theorem own_wc2 {lt nd X n c0 c1 c2 c3 : Nat} {cs : List Nat} (hn : n = 2) (hcs : ∀ j, j < n → cs[j]? = [c0, c1, c2, c3][j]?) : ∀ j v, j < 1 + nd + 1 + n → own_txt lt nd X (some (n, fun j => cs[j]?)) j = some v → (if j = 1 + nd + 2 then some c1 else if j = 1 + nd + 1 then some c0 else if j = 1 + nd then some 91 else own_txt lt nd X none j) = some v := by
  subst hn
  intro j v hj hv
  rcases own_txtS hj hv with ⟨q, hv3⟩ | ⟨rfl, rfl⟩ | ⟨i, hi, rfl, hv3⟩
  · rw [if_neg (by omega), if_neg (by omega), if_neg (by omega)]
    exact hv3
  · rw [if_neg (by omega), if_neg (by omega), if_pos rfl]
  · have hv2 : cs[i]? = some v := hv3
    rw [hcs i hi] at hv2
    rcases (show i = 0 ∨ i = 1 by omega) with rfl | rfl
    · rw [if_neg (by omega), if_pos (by omega)]
      exact hv2
    · rw [if_pos (by omega)]
      exact hv2
theorem own_wc3 {lt nd X n c0 c1 c2 c3 : Nat} {cs : List Nat} (hn : n = 3) (hcs : ∀ j, j < n → cs[j]? = [c0, c1, c2, c3][j]?) : ∀ j v, j < 1 + nd + 1 + n → own_txt lt nd X (some (n, fun j => cs[j]?)) j = some v → (if j = 1 + nd + 3 then some c2 else if j = 1 + nd + 2 then some c1 else if j = 1 + nd + 1 then some c0 else if j = 1 + nd then some 91 else own_txt lt nd X none j) = some v := by
  subst hn
  intro j v hj hv
  rcases own_txtS hj hv with ⟨q, hv3⟩ | ⟨rfl, rfl⟩ | ⟨i, hi, rfl, hv3⟩
  · rw [if_neg (by omega), if_neg (by omega), if_neg (by omega), if_neg (by omega)]
    exact hv3
  · rw [if_neg (by omega), if_neg (by omega), if_neg (by omega), if_pos rfl]
  · have hv2 : cs[i]? = some v := hv3
    rw [hcs i hi] at hv2
    rcases (show i = 0 ∨ i = 1 ∨ i = 2 by omega) with rfl | rfl | rfl
    · rw [if_neg (by omega), if_neg (by omega), if_pos (by omega)]
      exact hv2
    · rw [if_neg (by omega), if_pos (by omega)]
      exact hv2
    · rw [if_pos (by omega)]
      exact hv2
theorem own_wc4 {lt nd X n c0 c1 c2 c3 : Nat} {cs : List Nat} (hn : n = 4) (hcs : ∀ j, j < n → cs[j]? = [c0, c1, c2, c3][j]?) : ∀ j v, j < 1 + nd + 1 + n → own_txt lt nd X (some (n, fun j => cs[j]?)) j = some v → (if j = 1 + nd + 4 then some c3 else if j = 1 + nd + 3 then some c2 else if j = 1 + nd + 2 then some c1 else if j = 1 + nd + 1 then some c0 else if j = 1 + nd then some 91 else own_txt lt nd X none j) = some v := by
  subst hn
  intro j v hj hv
  rcases own_txtS hj hv with ⟨q, hv3⟩ | ⟨rfl, rfl⟩ | ⟨i, hi, rfl, hv3⟩
  · rw [if_neg (by omega), if_neg (by omega), if_neg (by omega), if_neg (by omega), if_neg (by omega)]
    exact hv3
  · rw [if_neg (by omega), if_neg (by omega), if_neg (by omega), if_neg (by omega), if_pos rfl]
  · have hv2 : cs[i]? = some v := hv3
    rw [hcs i hi] at hv2
    rcases (show i = 0 ∨ i = 1 ∨ i = 2 ∨ i = 3 by omega) with rfl | rfl | rfl | rfl
    · rw [if_neg (by omega), if_neg (by omega), if_neg (by omega), if_pos (by omega)]
      exact hv2
    · rw [if_neg (by omega), if_neg (by omega), if_pos (by omega)]
      exact hv2
    · rw [if_neg (by omega), if_pos (by omega)]
      exact hv2
    · rw [if_pos (by omega)]
      exact hv2
theorem own_ten {F : Nat → Value} (h0 : F 0 = .int (Int32.ofNat (10 ^ 0))) (h1 : F 1 = .int (Int32.ofNat (10 ^ 1))) (h2 : F 2 = .int (Int32.ofNat (10 ^ 2))) (h3 : F 3 = .int (Int32.ofNat (10 ^ 3))) (h4 : F 4 = .int (Int32.ofNat (10 ^ 4))) (h5 : F 5 = .int (Int32.ofNat (10 ^ 5))) (h6 : F 6 = .int (Int32.ofNat (10 ^ 6))) (h7 : F 7 = .int (Int32.ofNat (10 ^ 7))) (h8 : F 8 = .int (Int32.ofNat (10 ^ 8))) (h9 : F 9 = .int (Int32.ofNat (10 ^ 9))) : ∀ k, k < 10 → F k = .int (Int32.ofNat (10 ^ k)) := by
  intro k hk
  rcases (show k = 0 ∨ k = 1 ∨ k = 2 ∨ k = 3 ∨ k = 4 ∨ k = 5 ∨ k = 6 ∨ k = 7 ∨ k = 8 ∨ k = 9 by omega) with rfl | rfl | rfl | rfl | rfl | rfl | rfl | rfl | rfl | rfl <;> assumption
theorem own_cs1 {c0 : Nat} : ∀ j v, j < 1 → (fun j => [c0][j]?) j = some v → (fun j => if j = 0 then some c0 else (fun _ => none) j) j = some v := by
  intro j v hj hv
  obtain rfl : j = 0 := by omega
  exact hv
theorem own_cs2 {c0 c1 : Nat} : ∀ j v, j < 2 → (fun j => [c0, c1][j]?) j = some v → (fun j => if j = 1 then some c1 else (fun j => if j = 0 then some c0 else (fun _ => none) j) j) j = some v := by
  intro j v hj hv
  rcases (show j = 0 ∨ j = 1 by omega) with rfl | rfl <;> exact hv
theorem own_cs3 {c0 c1 c2 : Nat} : ∀ j v, j < 3 → (fun j => [c0, c1, c2][j]?) j = some v → (fun j => if j = 2 then some c2 else (fun j => if j = 1 then some c1 else (fun j => if j = 0 then some c0 else (fun _ => none) j) j) j) j = some v := by
  intro j v hj hv
  rcases (show j = 0 ∨ j = 1 ∨ j = 2 by omega) with rfl | rfl | rfl <;> exact hv
theorem own_cs4 {c0 c1 c2 c3 : Nat} : ∀ j v, j < 4 → (fun j => [c0, c1, c2, c3][j]?) j = some v → (fun j => if j = 3 then some c3 else (fun j => if j = 2 then some c2 else (fun j => if j = 1 then some c1 else (fun j => if j = 0 then some c0 else (fun _ => none) j) j) j) j) j = some v := by
  intro j v hj hv
  rcases (show j = 0 ∨ j = 1 ∨ j = 2 ∨ j = 3 by omega) with rfl | rfl | rfl | rfl <;> exact hv
theorem own_all1 {c0 : Nat} (h0 : own_okc c0) : ∀ c ∈ [c0], c < 128 := by intro c hc; cases List.mem_singleton.mp hc; exact own_okc_lt h0
theorem own_all2 {c0 c1 : Nat} (h0 : own_okc c0) (h1 : own_okc c1) : ∀ c ∈ [c0, c1], c < 128 := fun c hc => (List.mem_cons.mp hc).elim (fun q => q ▸ own_okc_lt h0) (own_all1 h1 c)
theorem own_all3 {c0 c1 c2 : Nat} (h0 : own_okc c0) (h1 : own_okc c1) (h2 : own_okc c2) : ∀ c ∈ [c0, c1, c2], c < 128 := fun c hc => (List.mem_cons.mp hc).elim (fun q => q ▸ own_okc_lt h0) (own_all2 h1 h2 c)
theorem own_all4 {c0 c1 c2 c3 : Nat} (h0 : own_okc c0) (h1 : own_okc c1) (h2 : own_okc c2) (h3 : own_okc c3) : ∀ c ∈ [c0, c1, c2, c3], c < 128 := fun c hc => (List.mem_cons.mp hc).elim (fun q => q ▸ own_okc_lt h0) (own_all3 h1 h2 h3 c)
theorem own_take1 {c0 c1 c2 c3 : Nat} : ∀ j, j < 1 → [c0][j]? = [c0, c1, c2, c3][j]? := by intro j hj; obtain rfl : j = 0 := by omega
                                                                                           rfl
theorem own_take2 {c0 c1 c2 c3 : Nat} : ∀ j, j < 2 → [c0, c1][j]? = [c0, c1, c2, c3][j]? := by intro j hj; rcases (show j = 0 ∨ j = 1 by omega) with rfl | rfl <;> rfl
theorem own_take3 {c0 c1 c2 c3 : Nat} : ∀ j, j < 3 → [c0, c1, c2][j]? = [c0, c1, c2, c3][j]? := by intro j hj; rcases (show j = 0 ∨ j = 1 ∨ j = 2 by omega) with rfl | rfl | rfl <;> rfl
theorem own_take4 {c0 c1 c2 c3 : Nat} : ∀ j, j < 4 → [c0, c1, c2, c3][j]? = [c0, c1, c2, c3][j]? := fun _ _ => rfl
theorem own_len1 {y : Int32} (h : y = (1 : Int32)) : y.toInt = ((1 : Nat) : Int) := by rw [h]; rfl
theorem own_len2 {y : Int32} (h : y = (2 : Int32)) : y.toInt = ((2 : Nat) : Int) := by rw [h]; rfl
theorem own_len3 {y : Int32} (h : y = (3 : Int32)) : y.toInt = ((3 : Nat) : Int) := by rw [h]; rfl
theorem own_len4 {x : Int32} (h1 : ¬ (x &&& (3 : Int32)) + (1 : Int32) = (1 : Int32)) (h2 : ¬ (x &&& (3 : Int32)) + (1 : Int32) = (2 : Int32)) (h3 : ¬ (x &&& (3 : Int32)) + (1 : Int32) = (3 : Int32)) : ((x &&& (3 : Int32)) + (1 : Int32)).toInt = ((4 : Nat) : Int) := by
  obtain ⟨k, hk⟩ := own_and3 x
  rw [hk] at h1 h2 h3 ⊢
  clear hk
  revert k
  decide +kernel
theorem own_kind0 {y : Int32} (h : y = (0 : Int32)) : y < (2 : Int32) := by rw [h]; decide
theorem own_kind1 {y : Int32} (h0 : ¬ y = (0 : Int32)) (h : y = (1 : Int32)) : y < (2 : Int32) := by rw [h]; decide
theorem own_kind2 {y : Int32} (h0 : ¬ y = (0 : Int32)) (h1 : ¬ y = (1 : Int32)) (h : y = (2 : Int32)) : ¬ y < (2 : Int32) := by rw [h]; decide
theorem own_kind3 {x : Int32} (h0 : ¬ x &&& (3 : Int32) = (0 : Int32)) (h1 : ¬ x &&& (3 : Int32) = (1 : Int32)) (h2 : ¬ x &&& (3 : Int32) = (2 : Int32)) : ¬ x &&& (3 : Int32) < (2 : Int32) := by
  obtain ⟨k, hk⟩ := own_and3 x
  rw [hk] at h0 h1 h2 ⊢
  clear hk
  revert k
  decide +kernel

theorem own_fitb {v : Nat} (h : v < 128) : fits .byte (.int (Int32.ofNat v)) = true := by
  have : ∀ v : Fin 128, fits .byte (.int (Int32.ofNat v.1)) = true := by decide +kernel
  exact this ⟨v, h⟩
/-- a static byte[] of 100 places, said by an 'all' -/
theorem own_tab {s : State} {args : Array Value} {C n : String} {f : Nat → Nat} {tm : Term} (h0 : (Jvm.Cond.initialized C).before args s = true) (h1 : (Jvm.Cond.laysStatic C n "[B").before args s = true) (h3 : (Jvm.Cond.exactly (.static C n "[B") "[B").before args s = true) (h4 : (Jvm.Cond.eq (.length (.static C n "[B")) (.int 100)).before args s = true) (harr : (Jvm.Cond.arrayClass .byte).before args s = true)
    (h5 : (Jvm.Cond.all (.static C n "[B") (.eq (.elem (.static C n "[B") (.index 0)) tm)).before args s = true) (htm : ∀ i, i < 100 → tm.eval args s none [i] s = some (.int (Int32.ofNat (f i)))) (hf : ∀ i, i < 100 → f i < 128) : ∃ d : Addr, Sta s s.heap C n "[B" (.ref d) ∧ own_By s s.heap d .byte 100 (fun j => some (f j)) := by
  obtain ⟨d, cB, cl, kB, ev, hfc, hcell, hk, hst, hcls, -⟩ := Cond.exactly_spec h3
  obtain ⟨d', cl', ev', hat, -⟩ := Term.length_spec (Cond.eq_int h4 rfl)
  cases ev.symm.trans ev'
  obtain ⟨hcell', hkn, -, -⟩ := State.arrayAt?_spec hat
  cases hcell.symm.trans hcell'
  obtain ⟨cB', kB', comp, hname, hk', hkind⟩ := Cond.arrayClass_spec harr
  have e : ("[" ++ FieldType.toString .byte) = "[B" := by decide
  rw [e] at hname
  cases hfc.symm.trans hname
  cases hk.symm.trans hk'
  have A : Arr s s.heap d cl .byte := ⟨hcell, ⟨fun x q => (by rw [q] at hst; exact Bool.noConfusion hst), kB, (by rw [hcls]; exact hk), comp, hkind⟩, hkn⟩
  obtain ⟨hlt, hsz⟩ := IntBox.length_fwd h4 ev A.1 A.2.1 A.2.2
  have h100 : cl.slots.size = 100 := by
    have e := len_toInt hlt
    rw [hsz] at e
    have : (100 : Int32).toInt = 100 := rfl
    omega
  have hall := Cond.all_elim ev hat (Cond.before_iff.mp h5)
  refine ⟨d, Sta.start ev (Or.inr ⟨h0, h1⟩), fun j => .int (Int32.ofNat (f j)), ⟨by decide, cl, A, h100, fun j hj => ?_⟩, fun j hj => own_fitb (hf j hj), fun j v hj hv => (by cases hv; rfl)⟩
  have q := eqv_i (htm j hj) (hall j (by omega))
  have ev2 : (Term.static C n "[B").eval args s none [j] s = some (.ref d) := by simpa only [Term.eval] using ev
  obtain ⟨-, q3⟩ := elem_in q ev2 (Term.index_eval j) A.1
  rw [(IntBox.place_nonneg j (by omega)).2] at q3
  exact q3
theorem own_ones {s : State} {args : Array Value} (hs : ∀ d ∈ jdkStatics_1, d.before args s = true) (hw : ∀ d ∈ tables_1, d.before args s = true) : ∃ d : Addr, Sta s s.heap "java/lang/Integer" "DigitOnes" "[B" (.ref d) ∧ own_By s s.heap d .byte 100 (fun j => some (48 + j % 10)) :=
  own_tab (f := fun j => 48 + j % 10) (hs _ (List.mem_of_getElem? (i := 9) rfl)) (hs _ (List.mem_of_getElem? (i := 10) rfl)) (hs _ (List.mem_of_getElem? (i := 12) rfl)) (hs _ (List.mem_of_getElem? (i := 13) rfl)) (wd hw 27 rfl) (hs _ (List.mem_of_getElem? (i := 14) rfl)) (fun i hi => by
    have q : ∀ i : Fin 100, (48 : Int32) + i.1.toInt32 % (10 : Int32) = Int32.ofNat (48 + i.1 % 10) := by decide +kernel
    have e := rem_f (args := args) (first := s) (o := none) (s := s) (Term.index_eval (idx := []) i) (Term.int_eval 10) (by decide)
    simp only [Term.eval] at e ⊢
    rw [e]
    exact congrArg (fun z => some (Value.int z)) (q ⟨i, hi⟩)) (fun i hi => by show 48 + i % 10 < 128; omega)
theorem own_tens {s : State} {args : Array Value} (hs : ∀ d ∈ jdkStatics_1, d.before args s = true) (hw : ∀ d ∈ tables_1, d.before args s = true) : ∃ d : Addr, Sta s s.heap "java/lang/Integer" "DigitTens" "[B" (.ref d) ∧ own_By s s.heap d .byte 100 (fun j => some (48 + j / 10)) :=
  own_tab (f := fun j => 48 + j / 10) (hs _ (List.mem_of_getElem? (i := 9) rfl)) (hs _ (List.mem_of_getElem? (i := 15) rfl)) (hs _ (List.mem_of_getElem? (i := 17) rfl)) (hs _ (List.mem_of_getElem? (i := 18) rfl)) (wd hw 27 rfl) (hs _ (List.mem_of_getElem? (i := 19) rfl)) (fun i hi => by
    have q : ∀ i : Fin 100, (48 : Int32) + i.1.toInt32 / (10 : Int32) = Int32.ofNat (48 + i.1 / 10) := by decide +kernel
    have e := div_f (args := args) (first := s) (o := none) (s := s) (Term.index_eval (idx := []) i) (Term.int_eval 10) (by decide)
    simp only [Term.eval] at e ⊢
    rw [e]
    exact congrArg (fun z => some (Value.int z)) (q ⟨i, hi⟩)) (fun i hi => by show 48 + i / 10 < 128; omega)
theorem own_compact {s : State} {args : Array Value} (hs : ∀ d ∈ jdkStatics_1, d.before args s = true) : ∃ zc : Int32, Sta s s.heap "java/lang/String" "COMPACT_STRINGS" "Z" (.int zc) ∧ ¬ zc = 0 := by
  have w0 := hs _ (List.mem_of_getElem? (i := 0) rfl)
  have w1 := Cond.before_iff.mp (hs _ (List.mem_of_getElem? (i := 1) rfl))
  have w2 := Cond.before_iff.mp (hs _ (List.mem_of_getElem? (i := 2) rfl))
  obtain ⟨zc, ev⟩ := is_v w1
  refine ⟨zc, Sta.start ev (Or.inl w0), ?_⟩
  have q := not_v w2
  intro hz
  subst hz
  rw [eq_i ev (Term.int_eval (0)) rfl] at q
  cases q
theorem own_sio {s : State} {args : Array Value} (hs : ∀ d ∈ jdkStatics_1, d.before args s = true) : ∃ fv : Value, Sta s s.heap "jdk/internal/util/Preconditions" "SIOOBE_FORMATTER" "Ljava/util/function/BiFunction;" fv ∧ fv.isRef = true := by
  obtain ⟨fv, ev, h⟩ := isR_v (Cond.before_iff.mp (hs _ (List.mem_of_getElem? (i := 8) rfl)))
  exact ⟨fv, Sta.start ev (Or.inl (hs _ (List.mem_of_getElem? (i := 7) rfl))), h⟩
theorem own_kd {s : State} {args : Array Value} {nm : String} {on : Int32} {lt : Nat} (hi : (Jvm.Cond.initialized "com/example/interleave/interleave/core/Operation$Kind").before args s = true) (hl : (Jvm.Cond.laysStatic "com/example/interleave/interleave/core/Operation$Kind" nm "Lcom/example/interleave/interleave/core/Operation$Kind;").before args s = true) (h1 : (Jvm.Cond.exactly (.static "com/example/interleave/interleave/core/Operation$Kind" nm "Lcom/example/interleave/interleave/core/Operation$Kind;") "com/example/interleave/interleave/core/Operation$Kind").value args s none s [] = some true) (h2 : (Jvm.Cond.eq (.field (.static "com/example/interleave/interleave/core/Operation$Kind" nm "Lcom/example/interleave/interleave/core/Operation$Kind;") "com/example/interleave/interleave/core/Operation$Kind" "onItem" "Z") (.int on)).value args s none s [] = some true) (h3 : (Jvm.Cond.eq (.field (.static "com/example/interleave/interleave/core/Operation$Kind" nm "Lcom/example/interleave/interleave/core/Operation$Kind;") "com/example/interleave/interleave/core/Operation$Kind" "letter" "C") (.int (Int32.ofNat lt))).value args s none s [] = some true) :
    ∃ k : Addr, Sta s s.heap "com/example/interleave/interleave/core/Operation$Kind" nm "Lcom/example/interleave/interleave/core/Operation$Kind;" (.ref k) ∧ Exa s s.heap k "com/example/interleave/interleave/core/Operation$Kind" ∧ Fld s s.heap k "com/example/interleave/interleave/core/Operation$Kind" "onItem" "Z" (.int on) ∧ Fld s s.heap k "com/example/interleave/interleave/core/Operation$Kind" "letter" "C" (.int (Int32.ofNat lt)) := by
  obtain ⟨k, ev⟩ := exa_v h1
  refine ⟨k, Sta.start ev (Or.inr ⟨hi, hl⟩), exa_at ev h1, Fld.start ?_, Fld.start ?_⟩
  · have q := eqv_i (Term.int_eval on) h2
    rw [fld_at ev] at q
    exact q
  · have q := eqv_i (Term.int_eval (Int32.ofNat lt)) h3
    rw [fld_at ev] at q
    exact q
abbrev C16 := jdk_42_method_152_code
theorem d16_0 : decode C16 0 = .ok (.getstatic 38, 3) := by decide +kernel
theorem d16_3 : decode C16 3 = .ok (.ifCond .eq 10, 3) := by decide +kernel
theorem d16_6 : decode C16 6 = .ok (.aload_n 0, 1) := by decide +kernel
theorem d16_7 : decode C16 7 = .ok (.getfield 15, 3) := by decide +kernel
theorem d16_10 : decode C16 10 = .ok (.goto 4, 3) := by decide +kernel
theorem d16_14 : decode C16 14 = .ok (.ireturn, 1) := by decide +kernel
def Q16 (Z : State) (a : Addr) (zc : Int32) (h0 : Heap) (n0 : Nat) (v : Option Value) (h : Heap) (L : List Loc) : Prop := v = some (.int 0) ∧ Fr n0 L ∧ h = h0
theorem ef_16 (m : MethodId) (x0 : Addr) : entryFrame m #[(.ref x0)] 1 = mkF m 0 #[vR x0] [] := by first | (simp [entryFrame, mkF, argsToLocals, Value.category]; done) | rfl
set_option maxRecDepth 65536 in
set_option maxHeartbeats 40000000 in
theorem rm16 (l : Launch) (Z : State) (a0 : Array Value) (hw : ∀ d ∈ tables_1, d.before a0 Z = true) (ws : List Jvm.Cond) (a : Addr) (zc : Int32) (h0 : Heap) (n0 : Nat) (Z0 : n0 ≤ h0.size) (SC : Sta Z Z.heap "java/lang/String" "COMPACT_STRINGS" "Z" (.int zc)) (hz0 : ¬ zc = 0) (Od : Old Z n0 h0) (Fc : Fld Z h0 a "java/lang/String" "coder" "B" (.int 0)) :
    own_Met l Z (⟨"java/lang/String", "coder", "()B"⟩ : MethodName) jdk_42_method_152_code 1 (some .byte) ({ frames := 0, cells := 0, slots := 0, locals := 0 } : Room) ws #[(.ref a)] h0 (Q16 Z a zc h0 n0) := by
  refine own_enter (plainFor_of_name (by first | (simp [plainName, overriddenIn]; done) | decide +kernel)) ?_
  intro p e s m below meth c s₁ hx hby hml hown hnm hlk hret hZ X0 e0
  have N0 := Fr.nil n0
  refine own_go (fun _ q => castTop (ef_16 m a) q) ?_
  show OG (s₁.setTop (mkF m 0 #[vR a] []))
  obtain ⟨T1, X1, e1, st1⟩ := getS2 X0 hx hZ hown (host := "") (Or.inl (wd hw 22 rfl)) Via.refl e0 (SC.ext Od.2) (g := (mkF m 0 #[vR a] [])) rfl (hb hby d16_0)
  refine own_go st1 ?_
  show OG (T1.setTop (mkF m 3 _ [(.int zc)]))
  refine own_go (fun _ q => XS.ifNo X1.here hx rfl (hb hby d16_3) rfl ((if0 _ _).trans (feq hz0).1) q) ?_
  show OG (T1.setTop (mkF m 6 #[vR a] []))
  refine own_go (fun _ q => XS.aloadN X1.here hx rfl (hb hby d16_6) rfl rfl q) ?_
  show OG (T1.setTop (mkF m 7 _ [(.ref a)]))
  obtain ⟨T2, X2, e2, st2⟩ := getF X1 hx hZ hown (host := "") (Or.inl (wd hw 34 rfl)) Via.refl e1 Fc (g := (mkF m 7 #[vR a] [(.ref a)])) rfl rfl (hb hby d16_7)
  refine own_go st2 ?_
  show OG (T2.setTop (mkF m 10 _ [(.int (0 : Int32))]))
  refine own_go (fun _ q => XS.goto X2.here hx rfl (pc0 := 10) (pc' := 14) rfl (hb hby d16_10) (by decide) (by decide) q) ?_
  show OG (T2.setTop (mkF m 14 #[vR a] [(.int (0 : Int32))]))
  exact own_ret X2 hx hlk hret rfl (Or.inl ⟨rfl, Or.inr (Or.inr (Or.inl rfl)), _, rfl⟩) (hb hby d16_14) (by decide) (by decide) ⟨rfl, N0, e2⟩
abbrev C18 := jdk_42_method_154_code
theorem d18_0 : decode C18 0 = .ok (.getstatic 38, 3) := by decide +kernel
theorem d18_3 : decode C18 3 = .ok (.ifCond .eq 14, 3) := by decide +kernel
theorem d18_6 : decode C18 6 = .ok (.aload_n 0, 1) := by decide +kernel
theorem d18_7 : decode C18 7 = .ok (.getfield 15, 3) := by decide +kernel
theorem d18_10 : decode C18 10 = .ok (.ifCond .ne 7, 3) := by decide +kernel
theorem d18_13 : decode C18 13 = .ok (.iconst 1, 1) := by decide +kernel
theorem d18_14 : decode C18 14 = .ok (.goto 4, 3) := by decide +kernel
theorem d18_18 : decode C18 18 = .ok (.ireturn, 1) := by decide +kernel
def Q18 (Z : State) (a : Addr) (zc : Int32) (h0 : Heap) (n0 : Nat) (v : Option Value) (h : Heap) (L : List Loc) : Prop := v = some (.int 1) ∧ Fr n0 L ∧ h = h0
theorem ef_18 (m : MethodId) (x0 : Addr) : entryFrame m #[(.ref x0)] 1 = mkF m 0 #[vR x0] [] := by first | (simp [entryFrame, mkF, argsToLocals, Value.category]; done) | rfl
set_option maxRecDepth 65536 in
set_option maxHeartbeats 40000000 in
theorem rm18 (l : Launch) (Z : State) (a0 : Array Value) (hw : ∀ d ∈ tables_1, d.before a0 Z = true) (ws : List Jvm.Cond) (a : Addr) (zc : Int32) (h0 : Heap) (n0 : Nat) (Z0 : n0 ≤ h0.size) (SC : Sta Z Z.heap "java/lang/String" "COMPACT_STRINGS" "Z" (.int zc)) (hz0 : ¬ zc = 0) (Od : Old Z n0 h0) (Fc : Fld Z h0 a "java/lang/String" "coder" "B" (.int 0)) :
    own_Met l Z (⟨"java/lang/String", "isLatin1", "()Z"⟩ : MethodName) jdk_42_method_154_code 1 (some .boolean) ({ frames := 0, cells := 0, slots := 0, locals := 0 } : Room) ws #[(.ref a)] h0 (Q18 Z a zc h0 n0) := by
  refine own_enter (plainFor_of_name (by first | (simp [plainName, overriddenIn]; done) | decide +kernel)) ?_
  intro p e s m below meth c s₁ hx hby hml hown hnm hlk hret hZ X0 e0
  have N0 := Fr.nil n0
  refine own_go (fun _ q => castTop (ef_18 m a) q) ?_
  show OG (s₁.setTop (mkF m 0 #[vR a] []))
  obtain ⟨T1, X1, e1, st1⟩ := getS2 X0 hx hZ hown (host := "") (Or.inl (wd hw 22 rfl)) Via.refl e0 (SC.ext Od.2) (g := (mkF m 0 #[vR a] [])) rfl (hb hby d18_0)
  refine own_go st1 ?_
  show OG (T1.setTop (mkF m 3 _ [(.int zc)]))
  refine own_go (fun _ q => XS.ifNo X1.here hx rfl (hb hby d18_3) rfl ((if0 _ _).trans (feq hz0).1) q) ?_
  show OG (T1.setTop (mkF m 6 #[vR a] []))
  refine own_go (fun _ q => XS.aloadN X1.here hx rfl (hb hby d18_6) rfl rfl q) ?_
  show OG (T1.setTop (mkF m 7 _ [(.ref a)]))
  obtain ⟨T2, X2, e2, st2⟩ := getF X1 hx hZ hown (host := "") (Or.inl (wd hw 34 rfl)) Via.refl e1 Fc (g := (mkF m 7 #[vR a] [(.ref a)])) rfl rfl (hb hby d18_7)
  refine own_go st2 ?_
  show OG (T2.setTop (mkF m 10 _ [(.int (0 : Int32))]))
  refine own_go (fun _ q => XS.ifNo X2.here hx rfl (hb hby d18_10) rfl ((if0 _ _).trans (teq (by decide : (0 : Int32) = (0 : Int32))).2) q) ?_
  show OG (T2.setTop (mkF m 13 #[vR a] []))
  refine own_go (fun _ q => XS.iconst X2.here hx rfl (hb hby d18_13) (XS.goto X2.here hx rfl (pc0 := 14) (pc' := 18) rfl (hb hby d18_14) (by decide) (by decide) q)) ?_
  show OG (T2.setTop (mkF m 18 _ [(.int (1 : Int32))]))
  exact own_retZ X2 hx hlk hret (hb hby d18_18) (by decide) (by decide) (by decide) ⟨rfl, N0, e2⟩
abbrev C15 := jdk_42_method_54_code
theorem d15_0 : decode C15 0 = .ok (.aload_n 0, 1) := by decide +kernel
theorem d15_1 : decode C15 1 = .ok (.getfield 9, 3) := by decide +kernel
theorem d15_4 : decode C15 4 = .ok (.arraylength, 1) := by decide +kernel
theorem d15_5 : decode C15 5 = .ok (.aload_n 0, 1) := by decide +kernel
theorem d15_6 : decode C15 6 = .ok (.invokevirtual 335, 3) := by decide +kernel
theorem d15_9 : decode C15 9 = .ok (.ishr, 1) := by decide +kernel
theorem d15_10 : decode C15 10 = .ok (.ireturn, 1) := by decide +kernel
def Q15 (Z : State) (a : Addr) (v_ : Addr) (N : Nat) (g : Nat → Option Nat) (z : Int32) (zc : Int32) (h0 : Heap) (n0 : Nat) (v : Option Value) (h : Heap) (L : List Loc) : Prop := v = some (.int z) ∧ Fr n0 L ∧ h = h0
theorem ef_15 (m : MethodId) (x0 : Addr) : entryFrame m #[(.ref x0)] 1 = mkF m 0 #[vR x0] [] := by first | (simp [entryFrame, mkF, argsToLocals, Value.category]; done) | rfl
set_option maxRecDepth 65536 in
set_option maxHeartbeats 40000000 in
theorem rm15 (l : Launch) (Z : State) (a0 : Array Value) (hw : ∀ d ∈ tables_1, d.before a0 Z = true) (ws : List Jvm.Cond) (a : Addr) (v_ : Addr) (N : Nat) (g : Nat → Option Nat) (z : Int32) (zc : Int32) (h0 : Heap) (n0 : Nat) (Z0 : n0 ≤ h0.size) (SC : Sta Z Z.heap "java/lang/String" "COMPACT_STRINGS" "Z" (.int zc)) (hz0 : ¬ zc = 0) (Od : Old Z n0 h0) (Ea : Exa Z h0 a "java/lang/String") (Fc : Fld Z h0 a "java/lang/String" "coder" "B" (.int 0)) (Fv : Fld Z h0 a "java/lang/String" "value" "[B" (.ref v_)) (Av : own_By Z h0 v_ .byte N g) (hz : z.toInt = (N : Int)) :
    own_Met l Z (⟨"java/lang/String", "length", "()I"⟩ : MethodName) jdk_42_method_54_code 1 (some .int) ({ frames := 1, cells := 0, slots := 0, locals := 13 } : Room) ws #[(.ref a)] h0 (Q15 Z a v_ N g z zc h0 n0) := by
  refine own_enter (plainFor_of_name (by first | (simp [plainName, overriddenIn]; done) | decide +kernel)) ?_
  intro p e s m below meth c s₁ hx hby hml hown hnm hlk hret hZ X0 e0
  have N0 := Fr.nil n0
  refine own_go (fun _ q => castTop (ef_15 m a) q) ?_
  show OG (s₁.setTop (mkF m 0 #[vR a] []))
  refine own_go (fun _ q => XS.aloadN X0.here hx rfl (hb hby d15_0) rfl rfl q) ?_
  show OG (s₁.setTop (mkF m 1 _ [(.ref a)]))
  obtain ⟨T1, X1, e1, st1⟩ := getF X0 hx hZ hown (host := "") (Or.inl (wd hw 36 rfl)) Via.refl e0 Fv (g := (mkF m 1 #[vR a] [(.ref a)])) rfl rfl (hb hby d15_1)
  refine own_go st1 ?_
  show OG (T1.setTop (mkF m 4 _ [(.ref v_)]))
  refine own_blen (z := z) X1 hx hZ e1 Av hz (hb hby d15_4) rfl ?_
  show OG (T1.setTop (mkF m 5 #[vR a] [(.int z)]))
  refine own_go (fun _ q => XS.aloadN X1.here hx rfl (hb hby d15_5) rfl rfl q) ?_
  show OG (T1.setTop (mkF m 6 _ [(.ref a), (.int z)]))
  refine own_virtual X1 hx hZ hown (wd hw 86 rfl) (wd hw 87 rfl) (wd hw 89 rfl) (wd hw 88 rfl) (wd hw 10 rfl) (wd hw 90 rfl) (by decide) e1 (a := a) Ea (argsL := []) (rest := [(.int z)]) (rm16 l Z a0 hw [] a zc h0 n0 Z0 SC hz0 Od Fc) 1 (by decide) (by decide) (by decide) (by decide) (by rw [hml]; rfl) pd_0 rfl rfl (Nat.le_of_eq rfl) (hb hby d15_6) rfl ?_
  intro v2 T2 L2 X2 hQ2
  obtain ⟨rfl, N2q, e2q⟩ := hQ2
  have N2 := Fr.app N0 N2q
  show OG (T2.setTop (mkF m 9 _ [(.int (0 : Int32)), (.int z)]))
  refine own_go (fun _ q => XS.ishr X2.here hx rfl (hb hby d15_9) rfl q) ?_
  show OG (T2.setTop (mkF m 10 #[vR a] [(.int (z >>> ((0 : Int32) &&& 31)))]))
  rw [own_shr0]
  show OG (T2.setTop (mkF m 10 #[vR a] [(.int z)]))
  exact own_retI X2 hx hlk hret (hb hby d15_10) (by decide) (by decide) ⟨rfl, N2, e2q⟩
abbrev C14 := jdk_42_method_55_code
theorem d14_0 : decode C14 0 = .ok (.aload_n 0, 1) := by decide +kernel
theorem d14_1 : decode C14 1 = .ok (.getfield 9, 3) := by decide +kernel
theorem d14_4 : decode C14 4 = .ok (.arraylength, 1) := by decide +kernel
theorem d14_5 : decode C14 5 = .ok (.ifCond .ne 7, 3) := by decide +kernel
theorem d14_12 : decode C14 12 = .ok (.iconst 0, 1) := by decide +kernel
theorem d14_13 : decode C14 13 = .ok (.ireturn, 1) := by decide +kernel
def Q14 (Z : State) (a : Addr) (v_ : Addr) (N : Nat) (g : Nat → Option Nat) (z : Int32) (zc : Int32) (h0 : Heap) (n0 : Nat) (v : Option Value) (h : Heap) (L : List Loc) : Prop := v = some (.int 0) ∧ Fr n0 L ∧ h = h0
theorem ef_14 (m : MethodId) (x0 : Addr) : entryFrame m #[(.ref x0)] 1 = mkF m 0 #[vR x0] [] := by first | (simp [entryFrame, mkF, argsToLocals, Value.category]; done) | rfl
set_option maxRecDepth 65536 in
set_option maxHeartbeats 40000000 in
theorem rm14 (l : Launch) (Z : State) (a0 : Array Value) (hw : ∀ d ∈ tables_1, d.before a0 Z = true) (ws : List Jvm.Cond) (a : Addr) (v_ : Addr) (N : Nat) (g : Nat → Option Nat) (z : Int32) (zc : Int32) (h0 : Heap) (n0 : Nat) (Z0 : n0 ≤ h0.size) (SC : Sta Z Z.heap "java/lang/String" "COMPACT_STRINGS" "Z" (.int zc)) (hz0 : ¬ zc = 0) (Od : Old Z n0 h0) (Ea : Exa Z h0 a "java/lang/String") (Fc : Fld Z h0 a "java/lang/String" "coder" "B" (.int 0)) (Fv : Fld Z h0 a "java/lang/String" "value" "[B" (.ref v_)) (Av : own_By Z h0 v_ .byte N g) (hz : z.toInt = (N : Int)) (hN : 0 < N) :
    own_Met l Z (⟨"java/lang/String", "isEmpty", "()Z"⟩ : MethodName) jdk_42_method_55_code 1 (some .boolean) ({ frames := 0, cells := 0, slots := 0, locals := 0 } : Room) ws #[(.ref a)] h0 (Q14 Z a v_ N g z zc h0 n0) := by
  refine own_enter (plainFor_of_name (by first | (simp [plainName, overriddenIn]; done) | decide +kernel)) ?_
  intro p e s m below meth c s₁ hx hby hml hown hnm hlk hret hZ X0 e0
  have N0 := Fr.nil n0
  refine own_go (fun _ q => castTop (ef_14 m a) q) ?_
  show OG (s₁.setTop (mkF m 0 #[vR a] []))
  refine own_go (fun _ q => XS.aloadN X0.here hx rfl (hb hby d14_0) rfl rfl q) ?_
  show OG (s₁.setTop (mkF m 1 _ [(.ref a)]))
  obtain ⟨T1, X1, e1, st1⟩ := getF X0 hx hZ hown (host := "") (Or.inl (wd hw 36 rfl)) Via.refl e0 Fv (g := (mkF m 1 #[vR a] [(.ref a)])) rfl rfl (hb hby d14_1)
  refine own_go st1 ?_
  show OG (T1.setTop (mkF m 4 _ [(.ref v_)]))
  refine own_blen (z := z) X1 hx hZ e1 Av hz (hb hby d14_4) rfl ?_
  show OG (T1.setTop (mkF m 5 #[vR a] [(.int z)]))
  refine own_go (fun _ q => XS.ifYes X1.here hx rfl (pc0 := 5) (pc' := 12) rfl (hb hby d14_5) rfl ((if0 _ _).trans (feq (own_ne (x := z) (y := 0) (by have e0 : (0 : Int32).toInt = 0 := rfl; omega))).2) (by decide) (by decide) q) ?_
  show OG (T1.setTop (mkF m 12 #[vR a] []))
  refine own_go (fun _ q => XS.iconst X1.here hx rfl (hb hby d14_12) q) ?_
  show OG (T1.setTop (mkF m 13 _ [(.int (0 : Int32))]))
  exact own_retZ X1 hx hlk hret (hb hby d14_13) (by decide) (by decide) (by decide) ⟨rfl, N0, e1⟩
abbrev C21 := jdk_41_method_11_code
theorem d21_0 : decode C21 0 = .ok (.iload_n 0, 1) := by decide +kernel
theorem d21_1 : decode C21 1 = .ok (.ifCond .lt 8, 3) := by decide +kernel
theorem d21_4 : decode C21 4 = .ok (.iload_n 0, 1) := by decide +kernel
theorem d21_5 : decode C21 5 = .ok (.iload_n 1, 1) := by decide +kernel
theorem d21_6 : decode C21 6 = .ok (.if_icmp .lt 10, 3) := by decide +kernel
theorem d21_16 : decode C21 16 = .ok (.iload_n 0, 1) := by decide +kernel
theorem d21_17 : decode C21 17 = .ok (.ireturn, 1) := by decide +kernel
def Q21 (Z : State) (i : Int32) (n : Int32) (fv : Value) (h0 : Heap) (n0 : Nat) (v : Option Value) (h : Heap) (L : List Loc) : Prop := v = some (.int i) ∧ Fr n0 L ∧ h = h0
theorem ef_21 (m : MethodId) (x0 : Int32) (x1 : Int32) (x2 : Value) (hx2 : x2.isRef = true) : entryFrame m #[(.int x0), (.int x1), x2] 3 = mkF m 0 #[vI x0, vI x1, .val x2] [] := by rcases ref_cases hx2 with rfl | ⟨_, rfl⟩ <;> first | (simp [entryFrame, mkF, argsToLocals, Value.category]; done) | rfl
set_option maxRecDepth 65536 in
set_option maxHeartbeats 40000000 in
theorem rm21 (l : Launch) (Z : State) (a0 : Array Value) (hw : ∀ d ∈ tables_1, d.before a0 Z = true) (ws : List Jvm.Cond) (i : Int32) (n : Int32) (fv : Value) (h0 : Heap) (n0 : Nat) (Z0 : n0 ≤ h0.size) (hfv : fv.isRef = true) (h1 : 0 ≤ i.toInt) (h2 : i.toInt < n.toInt) :
    own_Met l Z (⟨"jdk/internal/util/Preconditions", "checkIndex", "(IILjava/util/function/BiFunction;)I"⟩ : MethodName) jdk_41_method_11_code 3 (some .int) ({ frames := 0, cells := 0, slots := 0, locals := 0 } : Room) ws #[(.int i), (.int n), fv] h0 (Q21 Z i n fv h0 n0) := by
  refine own_enter (plainFor_of_name (by first | (simp [plainName, overriddenIn]; done) | decide +kernel)) ?_
  intro p e s m below meth c s₁ hx hby hml hown hnm hlk hret hZ X0 e0
  have N0 := Fr.nil n0
  refine own_go (fun _ q => castTop (ef_21 m i n fv hfv) q) ?_
  show OG (s₁.setTop (mkF m 0 #[vI i, vI n, .val fv] []))
  refine own_go (fun _ q => XS.iloadN X0.here hx rfl (hb hby d21_0) rfl q) ?_
  show OG (s₁.setTop (mkF m 1 _ [(.int i)]))
  refine own_go (fun _ q => XS.ifNo X0.here hx rfl (hb hby d21_1) rfl ((if0 _ _).trans (flt (own_nlt (x := i) (y := 0) (by have e0 : (0 : Int32).toInt = 0 := rfl; omega))).1) q) ?_
  show OG (s₁.setTop (mkF m 4 #[vI i, vI n, .val fv] []))
  refine own_go (fun _ q => XS.iloadN X0.here hx rfl (hb hby d21_4) rfl (XS.iloadN X0.here hx rfl (hb hby d21_5) rfl q)) ?_
  show OG (s₁.setTop (mkF m 6 _ [(.int n), (.int i)]))
  refine own_go (fun _ q => XS.icmpYes X0.here hx rfl (pc0 := 6) (pc' := 16) rfl (hb hby d21_6) rfl (tlt (own_lt (x := i) (y := n) h2)).1 (by decide) (by decide) q) ?_
  show OG (s₁.setTop (mkF m 16 #[vI i, vI n, .val fv] []))
  refine own_go (fun _ q => XS.iloadN X0.here hx rfl (hb hby d21_16) rfl q) ?_
  show OG (s₁.setTop (mkF m 17 _ [(.int i)]))
  exact own_retI X0 hx hlk hret (hb hby d21_17) (by decide) (by decide) ⟨rfl, N0, e0⟩
abbrev C20 := jdk_42_method_155_code
theorem d20_0 : decode C20 0 = .ok (.iload_n 0, 1) := by decide +kernel
theorem d20_1 : decode C20 1 = .ok (.iload_n 1, 1) := by decide +kernel
theorem d20_2 : decode C20 2 = .ok (.getstatic 1053, 3) := by decide +kernel
theorem d20_5 : decode C20 5 = .ok (.invokestatic 1059, 3) := by decide +kernel
theorem d20_8 : decode C20 8 = .ok (.pop, 1) := by decide +kernel
theorem d20_9 : decode C20 9 = .ok (.return_, 1) := by decide +kernel
def Q20 (Z : State) (i : Int32) (n : Int32) (fv : Value) (zc : Int32) (h0 : Heap) (n0 : Nat) (v : Option Value) (h : Heap) (L : List Loc) : Prop := v = none ∧ Fr n0 L ∧ h = h0
theorem ef_20 (m : MethodId) (x0 : Int32) (x1 : Int32) : entryFrame m #[(.int x0), (.int x1)] 2 = mkF m 0 #[vI x0, vI x1] [] := by first | (simp [entryFrame, mkF, argsToLocals, Value.category]; done) | rfl
set_option maxRecDepth 65536 in
set_option maxHeartbeats 40000000 in
theorem rm20 (l : Launch) (Z : State) (a0 : Array Value) (hw : ∀ d ∈ tables_1, d.before a0 Z = true) (ws : List Jvm.Cond) (i : Int32) (n : Int32) (fv : Value) (zc : Int32) (h0 : Heap) (n0 : Nat) (Z0 : n0 ≤ h0.size) (SC : Sta Z Z.heap "java/lang/String" "COMPACT_STRINGS" "Z" (.int zc)) (hz0 : ¬ zc = 0) (Od : Old Z n0 h0) (SF : Sta Z Z.heap "jdk/internal/util/Preconditions" "SIOOBE_FORMATTER" "Ljava/util/function/BiFunction;" fv) (hfv : fv.isRef = true) (h1 : 0 ≤ i.toInt) (h2 : i.toInt < n.toInt) :
    own_Met l Z (⟨"java/lang/String", "checkIndex", "(II)V"⟩ : MethodName) jdk_42_method_155_code 2 none ({ frames := 1, cells := 0, slots := 0, locals := 14 } : Room) ws #[(.int i), (.int n)] h0 (Q20 Z i n fv zc h0 n0) := by
  refine own_enter (plainFor_of_name (by first | (simp [plainName, overriddenIn]; done) | decide +kernel)) ?_
  intro p e s m below meth c s₁ hx hby hml hown hnm hlk hret hZ X0 e0
  have N0 := Fr.nil n0
  refine own_go (fun _ q => castTop (ef_20 m i n) q) ?_
  show OG (s₁.setTop (mkF m 0 #[vI i, vI n] []))
  refine own_go (fun _ q => XS.iloadN X0.here hx rfl (hb hby d20_0) rfl (XS.iloadN X0.here hx rfl (hb hby d20_1) rfl q)) ?_
  show OG (s₁.setTop (mkF m 2 _ [(.int n), (.int i)]))
  obtain ⟨T1, X1, e1, st1⟩ := getS2 X0 hx hZ hown (host := "") (Or.inl (wd hw 108 rfl)) Via.refl e0 (SF.ext Od.2) (g := (mkF m 2 #[vI i, vI n] [(.int n), (.int i)])) rfl (hb hby d20_2)
  refine own_go st1 ?_
  show OG (T1.setTop (mkF m 5 _ [fv, (.int n), (.int i)]))
  refine own_static X1 hx hZ hown (wd hw 110 rfl) (wd hw 111 rfl) (wd hw 109 rfl) (wd hw 112 rfl) (by decide) e1 (argsL := [(.int i), (.int n), fv]) (rest := []) (rm21 l Z a0 hw [] i n fv h0 n0 Z0 hfv h1 h2) 0 (by decide) (by decide) (by decide) (by decide) (by rw [hml]; rfl) pd_1 rfl rfl (Nat.le_of_eq rfl) (hb hby d20_5) rfl ?_
  intro v2 T2 L2 X2 hQ2
  obtain ⟨rfl, N2q, e2q⟩ := hQ2
  have N2 := Fr.app N0 N2q
  show OG (T2.setTop (mkF m 8 _ [(.int i)]))
  refine own_go (fun _ q => XS.pop X2.here hx rfl (hb hby d20_8) rfl rfl q) ?_
  show OG (T2.setTop (mkF m 9 #[vI i, vI n] []))
  exact own_retV X2 hx hlk hret (hb hby d20_9) (by decide) (by decide) ⟨rfl, N2, e2q⟩
abbrev C19 := jdk_43_method_2_code
theorem d19_0 : decode C19 0 = .ok (.iload_n 1, 1) := by decide +kernel
theorem d19_1 : decode C19 1 = .ok (.aload_n 0, 1) := by decide +kernel
theorem d19_2 : decode C19 2 = .ok (.arraylength, 1) := by decide +kernel
theorem d19_3 : decode C19 3 = .ok (.invokestatic 9, 3) := by decide +kernel
theorem d19_6 : decode C19 6 = .ok (.aload_n 0, 1) := by decide +kernel
theorem d19_7 : decode C19 7 = .ok (.iload_n 1, 1) := by decide +kernel
theorem d19_8 : decode C19 8 = .ok (.baload, 1) := by decide +kernel
theorem d19_9 : decode C19 9 = .ok (.sipush 255, 3) := by decide +kernel
theorem d19_12 : decode C19 12 = .ok (.iand, 1) := by decide +kernel
theorem d19_13 : decode C19 13 = .ok (.i2c, 1) := by decide +kernel
theorem d19_14 : decode C19 14 = .ok (.ireturn, 1) := by decide +kernel
def Q19 (Z : State) (v_ : Addr) (N : Nat) (g : Nat → Option Nat) (z : Int32) (i : Int32) (k : Nat) (x : Nat) (fv : Value) (zc : Int32) (h0 : Heap) (n0 : Nat) (v : Option Value) (h : Heap) (L : List Loc) : Prop := v = some (.int (Int32.ofNat x)) ∧ Fr n0 L ∧ h = h0
theorem ef_19 (m : MethodId) (x0 : Addr) (x1 : Int32) : entryFrame m #[(.ref x0), (.int x1)] 2 = mkF m 0 #[vR x0, vI x1] [] := by first | (simp [entryFrame, mkF, argsToLocals, Value.category]; done) | rfl
set_option maxRecDepth 65536 in
set_option maxHeartbeats 40000000 in
theorem rm19 (l : Launch) (Z : State) (a0 : Array Value) (hw : ∀ d ∈ tables_1, d.before a0 Z = true) (ws : List Jvm.Cond) (v_ : Addr) (N : Nat) (g : Nat → Option Nat) (z : Int32) (i : Int32) (k : Nat) (x : Nat) (fv : Value) (zc : Int32) (h0 : Heap) (n0 : Nat) (Z0 : n0 ≤ h0.size) (SC : Sta Z Z.heap "java/lang/String" "COMPACT_STRINGS" "Z" (.int zc)) (hz0 : ¬ zc = 0) (Od : Old Z n0 h0) (SF : Sta Z Z.heap "jdk/internal/util/Preconditions" "SIOOBE_FORMATTER" "Ljava/util/function/BiFunction;" fv) (hfv : fv.isRef = true) (hz : z.toInt = (N : Int)) (hi : i.toInt = (k : Int)) (hk : k < N) (hg : g k = some x) (hx7 : x < 128) (Av : own_By Z h0 v_ .byte N g) (h1 : 0 ≤ i.toInt) :
    own_Met l Z (⟨"java/lang/StringLatin1", "charAt", "([BI)C"⟩ : MethodName) jdk_43_method_2_code 2 (some .char) ({ frames := 2, cells := 0, slots := 0, locals := 28 } : Room) ws #[(.ref v_), (.int i)] h0 (Q19 Z v_ N g z i k x fv zc h0 n0) := by
  refine own_enter (plainFor_of_name (by first | (simp [plainName, overriddenIn]; done) | decide +kernel)) ?_
  intro p e s m below meth c s₁ hx hby hml hown hnm hlk hret hZ X0 e0
  have N0 := Fr.nil n0
  refine own_go (fun _ q => castTop (ef_19 m v_ i) q) ?_
  show OG (s₁.setTop (mkF m 0 #[vR v_, vI i] []))
  refine own_go (fun _ q => XS.iloadN X0.here hx rfl (hb hby d19_0) rfl (XS.aloadN X0.here hx rfl (hb hby d19_1) rfl rfl q)) ?_
  show OG (s₁.setTop (mkF m 2 _ [(.ref v_), (.int i)]))
  refine own_blen (z := z) X0 hx hZ e0 Av hz (hb hby d19_2) rfl ?_
  show OG (s₁.setTop (mkF m 3 #[vR v_, vI i] [(.int z), (.int i)]))
  refine own_static X0 hx hZ hown (wd hw 105 rfl) (wd hw 106 rfl) (wd hw 10 rfl) (wd hw 107 rfl) (by decide) e0 (argsL := [(.int i), (.int z)]) (rest := []) (rm20 l Z a0 hw [] i z fv zc h0 n0 Z0 SC hz0 Od SF hfv h1 (by omega)) 0 (by decide) (by decide) (by decide) (by decide) (by rw [hml]; rfl) pd_2 rfl rfl (Nat.le_of_eq rfl) (hb hby d19_3) rfl ?_
  intro v1 T1 L1 X1 hQ1
  obtain ⟨rfl, N1q, e1q⟩ := hQ1
  have N1 := Fr.app N0 N1q
  show OG (T1.setTop (mkF m 6 _ []))
  refine own_go (fun _ q => XS.aloadN X1.here hx rfl (hb hby d19_6) rfl rfl (XS.iloadN X1.here hx rfl (hb hby d19_7) rfl q)) ?_
  show OG (T1.setTop (mkF m 8 _ [(.int i), (.ref v_)]))
  refine own_bload (i := k) X1 hx hZ e1q Av hi hk hg (hb hby d19_8) rfl ?_
  show OG (T1.setTop (mkF m 9 #[vR v_, vI i] [(.int (Int32.ofNat x))]))
  refine own_go (fun _ q => XS.sipush X1.here hx rfl (hb hby d19_9) (XS.iand X1.here hx rfl (hb hby d19_12) rfl (XS.i2c X1.here hx rfl (hb hby d19_13) rfl q))) ?_
  show OG (T1.setTop (mkF m 14 _ [(.int (((Int32.ofNat x) &&& (255 : Int32)).toUInt32.toUInt16.toUInt32.toInt32))]))
  rw [own_mask hx7]
  show OG (T1.setTop (mkF m 14 #[vR v_, vI i] [(.int (Int32.ofNat x))]))
  exact own_ret X1 hx hlk hret (own_narrow_char hx7) (Or.inl ⟨rfl, Or.inr (Or.inr (Or.inr (Or.inl rfl))), _, rfl⟩) (hb hby d19_14) (by decide) (by decide) ⟨rfl, N1, e1q⟩
abbrev C17 := jdk_42_method_56_code
theorem d17_0 : decode C17 0 = .ok (.aload_n 0, 1) := by decide +kernel
theorem d17_1 : decode C17 1 = .ok (.invokevirtual 492, 3) := by decide +kernel
theorem d17_4 : decode C17 4 = .ok (.ifCond .eq 12, 3) := by decide +kernel
theorem d17_7 : decode C17 7 = .ok (.aload_n 0, 1) := by decide +kernel
theorem d17_8 : decode C17 8 = .ok (.getfield 9, 3) := by decide +kernel
theorem d17_11 : decode C17 11 = .ok (.iload_n 1, 1) := by decide +kernel
theorem d17_12 : decode C17 12 = .ok (.invokestatic 495, 3) := by decide +kernel
theorem d17_15 : decode C17 15 = .ok (.ireturn, 1) := by decide +kernel
def Q17 (Z : State) (a : Addr) (v_ : Addr) (N : Nat) (g : Nat → Option Nat) (z : Int32) (i : Int32) (k : Nat) (x : Nat) (fv : Value) (zc : Int32) (h0 : Heap) (n0 : Nat) (v : Option Value) (h : Heap) (L : List Loc) : Prop := v = some (.int (Int32.ofNat x)) ∧ Fr n0 L ∧ h = h0
theorem ef_17 (m : MethodId) (x0 : Addr) (x1 : Int32) : entryFrame m #[(.ref x0), (.int x1)] 2 = mkF m 0 #[vR x0, vI x1] [] := by first | (simp [entryFrame, mkF, argsToLocals, Value.category]; done) | rfl
set_option maxRecDepth 65536 in
set_option maxHeartbeats 40000000 in
theorem rm17 (l : Launch) (Z : State) (a0 : Array Value) (hw : ∀ d ∈ tables_1, d.before a0 Z = true) (ws : List Jvm.Cond) (a : Addr) (v_ : Addr) (N : Nat) (g : Nat → Option Nat) (z : Int32) (i : Int32) (k : Nat) (x : Nat) (fv : Value) (zc : Int32) (h0 : Heap) (n0 : Nat) (Z0 : n0 ≤ h0.size) (SC : Sta Z Z.heap "java/lang/String" "COMPACT_STRINGS" "Z" (.int zc)) (hz0 : ¬ zc = 0) (Od : Old Z n0 h0) (SF : Sta Z Z.heap "jdk/internal/util/Preconditions" "SIOOBE_FORMATTER" "Ljava/util/function/BiFunction;" fv) (hfv : fv.isRef = true) (hz : z.toInt = (N : Int)) (hi : i.toInt = (k : Int)) (hk : k < N) (hg : g k = some x) (hx7 : x < 128) (Ea : Exa Z h0 a "java/lang/String") (Fc : Fld Z h0 a "java/lang/String" "coder" "B" (.int 0)) (Fv : Fld Z h0 a "java/lang/String" "value" "[B" (.ref v_)) (Av : own_By Z h0 v_ .byte N g)  :
    own_Met l Z (⟨"java/lang/String", "charAt", "(I)C"⟩ : MethodName) jdk_42_method_56_code 2 (some .char) ({ frames := 3, cells := 0, slots := 0, locals := 44 } : Room) ws #[(.ref a), (.int i)] h0 (Q17 Z a v_ N g z i k x fv zc h0 n0) := by
  refine own_enter (plainFor_of_name (by first | (simp [plainName, overriddenIn]; done) | decide +kernel)) ?_
  intro p e s m below meth c s₁ hx hby hml hown hnm hlk hret hZ X0 e0
  have N0 := Fr.nil n0
  refine own_go (fun _ q => castTop (ef_17 m a i) q) ?_
  show OG (s₁.setTop (mkF m 0 #[vR a, vI i] []))
  refine own_go (fun _ q => XS.aloadN X0.here hx rfl (hb hby d17_0) rfl rfl q) ?_
  show OG (s₁.setTop (mkF m 1 _ [(.ref a)]))
  refine own_virtual X0 hx hZ hown (wd hw 96 rfl) (wd hw 97 rfl) (wd hw 99 rfl) (wd hw 98 rfl) (wd hw 10 rfl) (wd hw 100 rfl) (by decide) e0 (a := a) Ea (argsL := []) (rest := []) (rm18 l Z a0 hw [] a zc h0 n0 Z0 SC hz0 Od Fc) 0 (by decide) (by decide) (by decide) (by decide) (by rw [hml]; rfl) pd_3 rfl rfl (Nat.le_of_eq rfl) (hb hby d17_1) rfl ?_
  intro v1 T1 L1 X1 hQ1
  obtain ⟨rfl, N1q, e1q⟩ := hQ1
  have N1 := Fr.app N0 N1q
  show OG (T1.setTop (mkF m 4 _ [(.int (1 : Int32))]))
  refine own_go (fun _ q => XS.ifNo X1.here hx rfl (hb hby d17_4) rfl ((if0 _ _).trans (feq (by decide : ¬ ((1 : Int32) = (0 : Int32)))).1) q) ?_
  show OG (T1.setTop (mkF m 7 #[vR a, vI i] []))
  refine own_go (fun _ q => XS.aloadN X1.here hx rfl (hb hby d17_7) rfl rfl q) ?_
  show OG (T1.setTop (mkF m 8 _ [(.ref a)]))
  obtain ⟨T2, X2, e2, st2⟩ := getF X1 hx hZ hown (host := "") (Or.inl (wd hw 36 rfl)) Via.refl e1q Fv (g := (mkF m 8 #[vR a, vI i] [(.ref a)])) rfl rfl (hb hby d17_8)
  refine own_go st2 ?_
  show OG (T2.setTop (mkF m 11 _ [(.ref v_)]))
  refine own_go (fun _ q => XS.iloadN X2.here hx rfl (hb hby d17_11) rfl q) ?_
  show OG (T2.setTop (mkF m 12 #[vR a, vI i] [(.int i), (.ref v_)]))
  refine own_static X2 hx hZ hown (wd hw 101 rfl) (wd hw 102 rfl) (wd hw 103 rfl) (wd hw 104 rfl) (by decide) e2 (argsL := [(.ref v_), (.int i)]) (rest := []) (rm19 l Z a0 hw [] v_ N g z i k x fv zc h0 n0 Z0 SC hz0 Od SF hfv hz hi hk hg hx7 Av (by omega)) 0 (by decide) (by decide) (by decide) (by decide) (by rw [hml]; rfl) pd_4 rfl rfl (Nat.le_of_eq rfl) (hb hby d17_12) rfl ?_
  intro v3 T3 L3 X3 hQ3
  obtain ⟨rfl, N3q, e3q⟩ := hQ3
  have N3 := Fr.app N1 N3q
  show OG (T3.setTop (mkF m 15 _ [(.int (Int32.ofNat x))]))
  exact own_ret X3 hx hlk hret (own_narrow_char hx7) (Or.inl ⟨rfl, Or.inr (Or.inr (Or.inr (Or.inl rfl))), _, rfl⟩) (hb hby d17_15) (by decide) (by decide) ⟨rfl, N3, e3q⟩
abbrev C12 := prog_24_method_5_code
theorem d12_0 : decode C12 0 = .ok (.aload_n 0, 1) := by decide +kernel
theorem d12_1 : decode C12 1 = .ok (.getfield 39, 3) := by decide +kernel
theorem d12_4 : decode C12 4 = .ok (.ireturn, 1) := by decide +kernel
def Q12 (Z : State) (kd : Addr) (r : Int32) (zc : Int32) (h0 : Heap) (n0 : Nat) (v : Option Value) (h : Heap) (L : List Loc) : Prop := v = some (.int r) ∧ Fr n0 L ∧ h = h0
theorem ef_12 (m : MethodId) (x0 : Addr) : entryFrame m #[(.ref x0)] 1 = mkF m 0 #[vR x0] [] := by first | (simp [entryFrame, mkF, argsToLocals, Value.category]; done) | rfl
set_option maxRecDepth 65536 in
set_option maxHeartbeats 40000000 in
theorem rm12 (l : Launch) (Z : State) (a0 : Array Value) (hw : ∀ d ∈ tables_1, d.before a0 Z = true) (ws : List Jvm.Cond) (kd : Addr) (r : Int32) (zc : Int32) (h0 : Heap) (n0 : Nat) (Z0 : n0 ≤ h0.size) (SC : Sta Z Z.heap "java/lang/String" "COMPACT_STRINGS" "Z" (.int zc)) (hz0 : ¬ zc = 0) (Od : Old Z n0 h0) (Fk : Fld Z Z.heap kd "com/example/interleave/interleave/core/Operation$Kind" "onItem" "Z" (.int r)) (hr : r = 0 ∨ r = 1) :
    own_Met l Z (⟨"com/example/interleave/interleave/core/Operation$Kind", "onItem", "()Z"⟩ : MethodName) prog_24_method_5_code 1 (some .boolean) ({ frames := 0, cells := 0, slots := 0, locals := 0 } : Room) ws #[(.ref kd)] h0 (Q12 Z kd r zc h0 n0) := by
  refine own_enter (plainFor_of_name (by first | (simp [plainName, overriddenIn]; done) | decide +kernel)) ?_
  intro p e s m below meth c s₁ hx hby hml hown hnm hlk hret hZ X0 e0
  have N0 := Fr.nil n0
  refine own_go (fun _ q => castTop (ef_12 m kd) q) ?_
  show OG (s₁.setTop (mkF m 0 #[vR kd] []))
  refine own_go (fun _ q => XS.aloadN X0.here hx rfl (hb hby d12_0) rfl rfl q) ?_
  show OG (s₁.setTop (mkF m 1 _ [(.ref kd)]))
  obtain ⟨T1, X1, e1, st1⟩ := getF X0 hx hZ hown (host := "") (Or.inl (wd hw 71 rfl)) Via.refl e0 (Fk.ext Od.2) (g := (mkF m 1 #[vR kd] [(.ref kd)])) rfl rfl (hb hby d12_1)
  refine own_go st1 ?_
  show OG (T1.setTop (mkF m 4 _ [(.int r)]))
  exact own_retZ X1 hx hlk hret (hb hby d12_4) hr (by decide) (by decide) ⟨rfl, N0, e1⟩
abbrev C26 := prog_24_method_4_code
theorem d26_0 : decode C26 0 = .ok (.aload_n 0, 1) := by decide +kernel
theorem d26_1 : decode C26 1 = .ok (.getfield 35, 3) := by decide +kernel
theorem d26_4 : decode C26 4 = .ok (.ireturn, 1) := by decide +kernel
def Q26 (Z : State) (kd : Addr) (r : Int32) (zc : Int32) (h0 : Heap) (n0 : Nat) (v : Option Value) (h : Heap) (L : List Loc) : Prop := v = some (.int r) ∧ Fr n0 L ∧ h = h0
theorem ef_26 (m : MethodId) (x0 : Addr) : entryFrame m #[(.ref x0)] 1 = mkF m 0 #[vR x0] [] := by first | (simp [entryFrame, mkF, argsToLocals, Value.category]; done) | rfl
set_option maxRecDepth 65536 in
set_option maxHeartbeats 40000000 in
theorem rm26 (l : Launch) (Z : State) (a0 : Array Value) (hw : ∀ d ∈ tables_1, d.before a0 Z = true) (ws : List Jvm.Cond) (kd : Addr) (r : Int32) (zc : Int32) (h0 : Heap) (n0 : Nat) (Z0 : n0 ≤ h0.size) (SC : Sta Z Z.heap "java/lang/String" "COMPACT_STRINGS" "Z" (.int zc)) (hz0 : ¬ zc = 0) (Od : Old Z n0 h0) (Fk : Fld Z Z.heap kd "com/example/interleave/interleave/core/Operation$Kind" "letter" "C" (.int r)) (hr : narrow .char (.int r) = .int r) :
    own_Met l Z (⟨"com/example/interleave/interleave/core/Operation$Kind", "letter", "()C"⟩ : MethodName) prog_24_method_4_code 1 (some .char) ({ frames := 0, cells := 0, slots := 0, locals := 0 } : Room) ws #[(.ref kd)] h0 (Q26 Z kd r zc h0 n0) := by
  refine own_enter (plainFor_of_name (by first | (simp [plainName, overriddenIn]; done) | decide +kernel)) ?_
  intro p e s m below meth c s₁ hx hby hml hown hnm hlk hret hZ X0 e0
  have N0 := Fr.nil n0
  refine own_go (fun _ q => castTop (ef_26 m kd) q) ?_
  show OG (s₁.setTop (mkF m 0 #[vR kd] []))
  refine own_go (fun _ q => XS.aloadN X0.here hx rfl (hb hby d26_0) rfl rfl q) ?_
  show OG (s₁.setTop (mkF m 1 _ [(.ref kd)]))
  obtain ⟨T1, X1, e1, st1⟩ := getF X0 hx hZ hown (host := "") (Or.inl (wd hw 150 rfl)) Via.refl e0 (Fk.ext Od.2) (g := (mkF m 1 #[vR kd] [(.ref kd)])) rfl rfl (hb hby d26_1)
  refine own_go st1 ?_
  show OG (T1.setTop (mkF m 4 _ [(.int r)]))
  exact own_ret X1 hx hlk hret hr (Or.inl ⟨rfl, Or.inr (Or.inr (Or.inr (Or.inl rfl))), _, rfl⟩) (hb hby d26_4) (by decide) (by decide) ⟨rfl, N0, e1⟩
abbrev C22 := prog_23_method_8_code
theorem d22_0 : decode C22 0 = .ok (.iload_n 0, 1) := by decide +kernel
theorem d22_1 : decode C22 1 = .ok (.bipush 97, 2) := by decide +kernel
theorem d22_3 : decode C22 3 = .ok (.if_icmp .lt 9, 3) := by decide +kernel
theorem d22_6 : decode C22 6 = .ok (.iload_n 0, 1) := by decide +kernel
theorem d22_7 : decode C22 7 = .ok (.bipush 122, 2) := by decide +kernel
theorem d22_9 : decode C22 9 = .ok (.if_icmp .le 15, 3) := by decide +kernel
theorem d22_12 : decode C22 12 = .ok (.iload_n 0, 1) := by decide +kernel
theorem d22_13 : decode C22 13 = .ok (.bipush 65, 2) := by decide +kernel
theorem d22_15 : decode C22 15 = .ok (.if_icmp .lt 13, 3) := by decide +kernel
theorem d22_18 : decode C22 18 = .ok (.iload_n 0, 1) := by decide +kernel
theorem d22_19 : decode C22 19 = .ok (.bipush 90, 2) := by decide +kernel
theorem d22_21 : decode C22 21 = .ok (.if_icmp .gt 7, 3) := by decide +kernel
theorem d22_24 : decode C22 24 = .ok (.iconst 1, 1) := by decide +kernel
theorem d22_25 : decode C22 25 = .ok (.goto 4, 3) := by decide +kernel
theorem d22_28 : decode C22 28 = .ok (.iconst 0, 1) := by decide +kernel
theorem d22_29 : decode C22 29 = .ok (.ireturn, 1) := by decide +kernel
def Q22 (Z : State) (c0 : Int32) (h0 : Heap) (n0 : Nat) (v : Option Value) (h : Heap) (L : List Loc) : Prop := ∃ r : Int32, v = some (.int r) ∧ Fr n0 L ∧ h = h0 ∧ ((r = 1 ∧ (97 ≤ c0.toInt ∧ c0.toInt ≤ 122 ∨ 65 ≤ c0.toInt ∧ c0.toInt ≤ 90)) ∨ (r = 0 ∧ ¬ (97 ≤ c0.toInt ∧ c0.toInt ≤ 122 ∨ 65 ≤ c0.toInt ∧ c0.toInt ≤ 90)))
theorem ef_22 (m : MethodId) (x0 : Int32) : entryFrame m #[(.int x0)] 1 = mkF m 0 #[vI x0] [] := by first | (simp [entryFrame, mkF, argsToLocals, Value.category]; done) | rfl
set_option maxRecDepth 65536 in
set_option maxHeartbeats 40000000 in
theorem rm22 (l : Launch) (Z : State) (a0 : Array Value) (hw : ∀ d ∈ tables_1, d.before a0 Z = true) (ws : List Jvm.Cond) (c0 : Int32) (h0 : Heap) (n0 : Nat) (Z0 : n0 ≤ h0.size)  :
    own_Met l Z (⟨"com/example/interleave/interleave/core/Operation", "isAsciiLetter", "(C)Z"⟩ : MethodName) prog_23_method_8_code 1 (some .boolean) ({ frames := 0, cells := 0, slots := 0, locals := 0 } : Room) ws #[(.int c0)] h0 (Q22 Z c0 h0 n0) := by
  refine own_enter (plainFor_of_name (by first | (simp [plainName, overriddenIn]; done) | decide +kernel)) ?_
  intro p e s m below meth c s₁ hx hby hml hown hnm hlk hret hZ X0 e0
  have N0 := Fr.nil n0
  refine own_go (fun _ q => castTop (ef_22 m c0) q) ?_
  show OG (s₁.setTop (mkF m 0 #[vI c0] []))
  have e97 : (97 : Int32).toInt = 97 := rfl
  have e122 : (122 : Int32).toInt = 122 := rfl
  have e65 : (65 : Int32).toInt = 65 := rfl
  have e90 : (90 : Int32).toInt = 90 := rfl
  refine own_go (fun _ q => XS.iloadN X0.here hx rfl (hb hby d22_0) rfl (XS.bipush X0.here hx rfl (hb hby d22_1) q)) ?_
  show OG (s₁.setTop (mkF m 3 _ [(.int (97 : Int32)), (.int c0)]))
  by_cases hq1 : c0 < (97 : Int32)
  · refine own_go (fun _ q => XS.icmpYes X0.here hx rfl (pc0 := 3) (pc' := 12) rfl (hb hby d22_3) rfl (tlt hq1).1 (by decide) (by decide) q) ?_
    show OG (s₁.setTop (mkF m 12 #[vI c0] []))
    refine own_go (fun _ q => XS.iloadN X0.here hx rfl (hb hby d22_12) rfl (XS.bipush X0.here hx rfl (hb hby d22_13) q)) ?_
    show OG (s₁.setTop (mkF m 15 _ [(.int (65 : Int32)), (.int c0)]))
    by_cases hq2 : c0 < (65 : Int32)
    · refine own_go (fun _ q => XS.icmpYes X0.here hx rfl (pc0 := 15) (pc' := 28) rfl (hb hby d22_15) rfl (tlt hq2).1 (by decide) (by decide) q) ?_
      show OG (s₁.setTop (mkF m 28 #[vI c0] []))
      refine own_go (fun _ q => XS.iconst X0.here hx rfl (hb hby d22_28) q) ?_
      show OG (s₁.setTop (mkF m 29 _ [(.int (0 : Int32))]))
      rw [Int32.lt_iff_toInt_lt] at hq1 hq2
      exact own_retZ X0 hx hlk hret (hb hby d22_29) (by decide) (by decide) (by decide) ⟨_, rfl, N0, e0, Or.inr ⟨rfl, by omega⟩⟩
    · refine own_go (fun _ q => XS.icmpNo X0.here hx rfl (hb hby d22_15) rfl (flt hq2).1 q) ?_
      show OG (s₁.setTop (mkF m 18 #[vI c0] []))
      refine own_go (fun _ q => XS.iloadN X0.here hx rfl (hb hby d22_18) rfl (XS.bipush X0.here hx rfl (hb hby d22_19) q)) ?_
      show OG (s₁.setTop (mkF m 21 _ [(.int (90 : Int32)), (.int c0)]))
      by_cases hq3 : (90 : Int32) < c0
      · refine own_go (fun _ q => XS.icmpYes X0.here hx rfl (pc0 := 21) (pc' := 28) rfl (hb hby d22_21) rfl (tlt hq3).2.2.1 (by decide) (by decide) q) ?_
        show OG (s₁.setTop (mkF m 28 #[vI c0] []))
        refine own_go (fun _ q => XS.iconst X0.here hx rfl (hb hby d22_28) q) ?_
        show OG (s₁.setTop (mkF m 29 _ [(.int (0 : Int32))]))
        rw [Int32.lt_iff_toInt_lt] at hq1 hq2 hq3
        exact own_retZ X0 hx hlk hret (hb hby d22_29) (by decide) (by decide) (by decide) ⟨_, rfl, N0, e0, Or.inr ⟨rfl, by omega⟩⟩
      · refine own_go (fun _ q => XS.icmpNo X0.here hx rfl (hb hby d22_21) rfl (flt hq3).2.2.1 q) ?_
        show OG (s₁.setTop (mkF m 24 #[vI c0] []))
        refine own_go (fun _ q => XS.iconst X0.here hx rfl (hb hby d22_24) (XS.goto X0.here hx rfl (pc0 := 25) (pc' := 29) rfl (hb hby d22_25) (by decide) (by decide) q)) ?_
        show OG (s₁.setTop (mkF m 29 _ [(.int (1 : Int32))]))
        rw [Int32.lt_iff_toInt_lt] at hq1 hq2 hq3
        exact own_retZ X0 hx hlk hret (hb hby d22_29) (by decide) (by decide) (by decide) ⟨_, rfl, N0, e0, Or.inl ⟨rfl, by omega⟩⟩
  · refine own_go (fun _ q => XS.icmpNo X0.here hx rfl (hb hby d22_3) rfl (flt hq1).1 q) ?_
    show OG (s₁.setTop (mkF m 6 #[vI c0] []))
    refine own_go (fun _ q => XS.iloadN X0.here hx rfl (hb hby d22_6) rfl (XS.bipush X0.here hx rfl (hb hby d22_7) q)) ?_
    show OG (s₁.setTop (mkF m 9 _ [(.int (122 : Int32)), (.int c0)]))
    by_cases hq4 : (122 : Int32) < c0
    · refine own_go (fun _ q => XS.icmpNo X0.here hx rfl (hb hby d22_9) rfl (tlt hq4).2.2.2 q) ?_
      show OG (s₁.setTop (mkF m 12 #[vI c0] []))
      refine own_go (fun _ q => XS.iloadN X0.here hx rfl (hb hby d22_12) rfl (XS.bipush X0.here hx rfl (hb hby d22_13) q)) ?_
      show OG (s₁.setTop (mkF m 15 _ [(.int (65 : Int32)), (.int c0)]))
      by_cases hq5 : c0 < (65 : Int32)
      · refine own_go (fun _ q => XS.icmpYes X0.here hx rfl (pc0 := 15) (pc' := 28) rfl (hb hby d22_15) rfl (tlt hq5).1 (by decide) (by decide) q) ?_
        show OG (s₁.setTop (mkF m 28 #[vI c0] []))
        refine own_go (fun _ q => XS.iconst X0.here hx rfl (hb hby d22_28) q) ?_
        show OG (s₁.setTop (mkF m 29 _ [(.int (0 : Int32))]))
        rw [Int32.lt_iff_toInt_lt] at hq1 hq4 hq5
        exact own_retZ X0 hx hlk hret (hb hby d22_29) (by decide) (by decide) (by decide) ⟨_, rfl, N0, e0, Or.inr ⟨rfl, by omega⟩⟩
      · refine own_go (fun _ q => XS.icmpNo X0.here hx rfl (hb hby d22_15) rfl (flt hq5).1 q) ?_
        show OG (s₁.setTop (mkF m 18 #[vI c0] []))
        refine own_go (fun _ q => XS.iloadN X0.here hx rfl (hb hby d22_18) rfl (XS.bipush X0.here hx rfl (hb hby d22_19) q)) ?_
        show OG (s₁.setTop (mkF m 21 _ [(.int (90 : Int32)), (.int c0)]))
        by_cases hq6 : (90 : Int32) < c0
        · refine own_go (fun _ q => XS.icmpYes X0.here hx rfl (pc0 := 21) (pc' := 28) rfl (hb hby d22_21) rfl (tlt hq6).2.2.1 (by decide) (by decide) q) ?_
          show OG (s₁.setTop (mkF m 28 #[vI c0] []))
          refine own_go (fun _ q => XS.iconst X0.here hx rfl (hb hby d22_28) q) ?_
          show OG (s₁.setTop (mkF m 29 _ [(.int (0 : Int32))]))
          rw [Int32.lt_iff_toInt_lt] at hq1 hq4 hq5 hq6
          exact own_retZ X0 hx hlk hret (hb hby d22_29) (by decide) (by decide) (by decide) ⟨_, rfl, N0, e0, Or.inr ⟨rfl, by omega⟩⟩
        · refine own_go (fun _ q => XS.icmpNo X0.here hx rfl (hb hby d22_21) rfl (flt hq6).2.2.1 q) ?_
          show OG (s₁.setTop (mkF m 24 #[vI c0] []))
          refine own_go (fun _ q => XS.iconst X0.here hx rfl (hb hby d22_24) (XS.goto X0.here hx rfl (pc0 := 25) (pc' := 29) rfl (hb hby d22_25) (by decide) (by decide) q)) ?_
          show OG (s₁.setTop (mkF m 29 _ [(.int (1 : Int32))]))
          rw [Int32.lt_iff_toInt_lt] at hq1 hq4 hq5 hq6
          exact own_retZ X0 hx hlk hret (hb hby d22_29) (by decide) (by decide) (by decide) ⟨_, rfl, N0, e0, Or.inl ⟨rfl, by omega⟩⟩
    · refine own_go (fun _ q => XS.icmpYes X0.here hx rfl (pc0 := 9) (pc' := 24) rfl (hb hby d22_9) rfl (flt hq4).2.2.2 (by decide) (by decide) q) ?_
      show OG (s₁.setTop (mkF m 24 #[vI c0] []))
      refine own_go (fun _ q => XS.iconst X0.here hx rfl (hb hby d22_24) (XS.goto X0.here hx rfl (pc0 := 25) (pc' := 29) rfl (hb hby d22_25) (by decide) (by decide) q)) ?_
      show OG (s₁.setTop (mkF m 29 _ [(.int (1 : Int32))]))
      rw [Int32.lt_iff_toInt_lt] at hq1 hq4
      exact own_retZ X0 hx hlk hret (hb hby d22_29) (by decide) (by decide) (by decide) ⟨_, rfl, N0, e0, Or.inl ⟨rfl, by omega⟩⟩
abbrev C53 := prog_23_method_9_code
theorem d53_0 : decode C53 0 = .ok (.iload_n 0, 1) := by decide +kernel
theorem d53_1 : decode C53 1 = .ok (.bipush 48, 2) := by decide +kernel
theorem d53_3 : decode C53 3 = .ok (.if_icmp .lt 13, 3) := by decide +kernel
theorem d53_6 : decode C53 6 = .ok (.iload_n 0, 1) := by decide +kernel
theorem d53_7 : decode C53 7 = .ok (.bipush 57, 2) := by decide +kernel
theorem d53_9 : decode C53 9 = .ok (.if_icmp .gt 7, 3) := by decide +kernel
theorem d53_12 : decode C53 12 = .ok (.iconst 1, 1) := by decide +kernel
theorem d53_13 : decode C53 13 = .ok (.goto 4, 3) := by decide +kernel
theorem d53_16 : decode C53 16 = .ok (.iconst 0, 1) := by decide +kernel
theorem d53_17 : decode C53 17 = .ok (.ireturn, 1) := by decide +kernel
def Q53 (Z : State) (c0 : Int32) (h0 : Heap) (n0 : Nat) (v : Option Value) (h : Heap) (L : List Loc) : Prop := ∃ r : Int32, v = some (.int r) ∧ Fr n0 L ∧ h = h0 ∧ ((r = 1 ∧ (48 ≤ c0.toInt ∧ c0.toInt ≤ 57)) ∨ (r = 0 ∧ ¬ (48 ≤ c0.toInt ∧ c0.toInt ≤ 57)))
theorem ef_53 (m : MethodId) (x0 : Int32) : entryFrame m #[(.int x0)] 1 = mkF m 0 #[vI x0] [] := by first | (simp [entryFrame, mkF, argsToLocals, Value.category]; done) | rfl
set_option maxRecDepth 65536 in
set_option maxHeartbeats 40000000 in
theorem rm53 (l : Launch) (Z : State) (a0 : Array Value) (hw : ∀ d ∈ tables_1, d.before a0 Z = true) (ws : List Jvm.Cond) (c0 : Int32) (h0 : Heap) (n0 : Nat) (Z0 : n0 ≤ h0.size)  :
    own_Met l Z (⟨"com/example/interleave/interleave/core/Operation", "isAsciiDigit", "(C)Z"⟩ : MethodName) prog_23_method_9_code 1 (some .boolean) ({ frames := 0, cells := 0, slots := 0, locals := 0 } : Room) ws #[(.int c0)] h0 (Q53 Z c0 h0 n0) := by
  refine own_enter (plainFor_of_name (by first | (simp [plainName, overriddenIn]; done) | decide +kernel)) ?_
  intro p e s m below meth c s₁ hx hby hml hown hnm hlk hret hZ X0 e0
  have N0 := Fr.nil n0
  refine own_go (fun _ q => castTop (ef_53 m c0) q) ?_
  show OG (s₁.setTop (mkF m 0 #[vI c0] []))
  have e48 : (48 : Int32).toInt = 48 := rfl
  have e57 : (57 : Int32).toInt = 57 := rfl
  refine own_go (fun _ q => XS.iloadN X0.here hx rfl (hb hby d53_0) rfl (XS.bipush X0.here hx rfl (hb hby d53_1) q)) ?_
  show OG (s₁.setTop (mkF m 3 _ [(.int (48 : Int32)), (.int c0)]))
  by_cases hq1 : c0 < (48 : Int32)
  · refine own_go (fun _ q => XS.icmpYes X0.here hx rfl (pc0 := 3) (pc' := 16) rfl (hb hby d53_3) rfl (tlt hq1).1 (by decide) (by decide) q) ?_
    show OG (s₁.setTop (mkF m 16 #[vI c0] []))
    refine own_go (fun _ q => XS.iconst X0.here hx rfl (hb hby d53_16) q) ?_
    show OG (s₁.setTop (mkF m 17 _ [(.int (0 : Int32))]))
    rw [Int32.lt_iff_toInt_lt] at hq1
    exact own_retZ X0 hx hlk hret (hb hby d53_17) (by decide) (by decide) (by decide) ⟨_, rfl, N0, e0, Or.inr ⟨rfl, by omega⟩⟩
  · refine own_go (fun _ q => XS.icmpNo X0.here hx rfl (hb hby d53_3) rfl (flt hq1).1 q) ?_
    show OG (s₁.setTop (mkF m 6 #[vI c0] []))
    refine own_go (fun _ q => XS.iloadN X0.here hx rfl (hb hby d53_6) rfl (XS.bipush X0.here hx rfl (hb hby d53_7) q)) ?_
    show OG (s₁.setTop (mkF m 9 _ [(.int (57 : Int32)), (.int c0)]))
    by_cases hq2 : (57 : Int32) < c0
    · refine own_go (fun _ q => XS.icmpYes X0.here hx rfl (pc0 := 9) (pc' := 16) rfl (hb hby d53_9) rfl (tlt hq2).2.2.1 (by decide) (by decide) q) ?_
      show OG (s₁.setTop (mkF m 16 #[vI c0] []))
      refine own_go (fun _ q => XS.iconst X0.here hx rfl (hb hby d53_16) q) ?_
      show OG (s₁.setTop (mkF m 17 _ [(.int (0 : Int32))]))
      rw [Int32.lt_iff_toInt_lt] at hq1 hq2
      exact own_retZ X0 hx hlk hret (hb hby d53_17) (by decide) (by decide) (by decide) ⟨_, rfl, N0, e0, Or.inr ⟨rfl, by omega⟩⟩
    · refine own_go (fun _ q => XS.icmpNo X0.here hx rfl (hb hby d53_9) rfl (flt hq2).2.2.1 q) ?_
      show OG (s₁.setTop (mkF m 12 #[vI c0] []))
      refine own_go (fun _ q => XS.iconst X0.here hx rfl (hb hby d53_12) (XS.goto X0.here hx rfl (pc0 := 13) (pc' := 17) rfl (hb hby d53_13) (by decide) (by decide) q)) ?_
      show OG (s₁.setTop (mkF m 17 _ [(.int (1 : Int32))]))
      rw [Int32.lt_iff_toInt_lt] at hq1 hq2
      exact own_retZ X0 hx hlk hret (hb hby d53_17) (by decide) (by decide) (by decide) ⟨_, rfl, N0, e0, Or.inl ⟨rfl, by omega⟩⟩
abbrev C10 := jdk_31_method_11_code
theorem d10_0 : decode C10 0 = .ok (.aload_n 0, 1) := by decide +kernel
theorem d10_1 : decode C10 1 = .ok (.ifnonnull 12, 3) := by decide +kernel
theorem d10_13 : decode C10 13 = .ok (.aload_n 0, 1) := by decide +kernel
theorem d10_14 : decode C10 14 = .ok (.areturn, 1) := by decide +kernel
def Q10 (Z : State) (kd : Addr) (x1 : Addr) (h0 : Heap) (n0 : Nat) (v : Option Value) (h : Heap) (L : List Loc) : Prop := v = some (.ref kd) ∧ Fr n0 L ∧ h = h0
theorem ef_10 (m : MethodId) (x0 : Addr) (x1 : Addr) : entryFrame m #[(.ref x0), (.ref x1)] 2 = mkF m 0 #[vR x0, vR x1] [] := by first | (simp [entryFrame, mkF, argsToLocals, Value.category]; done) | rfl
set_option maxRecDepth 65536 in
set_option maxHeartbeats 40000000 in
theorem rm10 (l : Launch) (Z : State) (a0 : Array Value) (hw : ∀ d ∈ tables_1, d.before a0 Z = true) (ws : List Jvm.Cond) (kd : Addr) (x1 : Addr) (h0 : Heap) (n0 : Nat) (Z0 : n0 ≤ h0.size)  :
    own_Met l Z (⟨"java/util/Objects", "requireNonNull", "(Ljava/lang/Object;Ljava/lang/String;)Ljava/lang/Object;"⟩ : MethodName) jdk_31_method_11_code 2 (some (.object "java/lang/Object")) ({ frames := 0, cells := 0, slots := 0, locals := 0 } : Room) ws #[(.ref kd), (.ref x1)] h0 (Q10 Z kd x1 h0 n0) := by
  refine own_enter (plainFor_of_name (by first | (simp [plainName, overriddenIn]; done) | decide +kernel)) ?_
  intro p e s m below meth c s₁ hx hby hml hown hnm hlk hret hZ X0 e0
  have N0 := Fr.nil n0
  refine own_go (fun _ q => castTop (ef_10 m kd x1) q) ?_
  show OG (s₁.setTop (mkF m 0 #[vR kd, vR x1] []))
  refine own_go (fun _ q => XS.aloadN X0.here hx rfl (hb hby d10_0) rfl rfl (XT.ifnonnullYes X0.here hx rfl (pc0 := 1) (pc' := 13) rfl (hb hby d10_1) rfl (by decide) (by decide) (XS.aloadN X0.here hx rfl (hb hby d10_13) rfl rfl q))) ?_
  show OG (s₁.setTop (mkF m 14 _ [(.ref kd)]))
  exact own_retR X0 hx hlk hret rfl rfl rfl (hb hby d10_14) (by decide) (by decide) ⟨rfl, N0, e0⟩
abbrev C9 := jdk_30_method_1_code
theorem d9_0 : decode C9 0 = .ok (.aload_n 0, 1) := by decide +kernel
theorem d9_1 : decode C9 1 = .ok (.invokespecial 1, 3) := by decide +kernel
theorem d9_4 : decode C9 4 = .ok (.return_, 1) := by decide +kernel
def Q9 (Z : State) (a : Addr) (h0 : Heap) (n0 : Nat) (v : Option Value) (h : Heap) (L : List Loc) : Prop := v = none ∧ Fr n0 L ∧ h = h0
theorem ef_9 (m : MethodId) (x0 : Addr) : entryFrame m #[(.ref x0)] 1 = mkF m 0 #[vR x0] [] := by first | (simp [entryFrame, mkF, argsToLocals, Value.category]; done) | rfl
set_option maxRecDepth 65536 in
set_option maxHeartbeats 40000000 in
theorem rm9 (l : Launch) (Z : State) (a0 : Array Value) (hw : ∀ d ∈ tables_1, d.before a0 Z = true) (ws : List Jvm.Cond) (a : Addr) (h0 : Heap) (n0 : Nat) (Z0 : n0 ≤ h0.size)  :
    own_Met l Z (⟨"java/lang/Record", "<init>", "()V"⟩ : MethodName) jdk_30_method_1_code 1 none ({ frames := 1, cells := 0, slots := 0, locals := 12 } : Room) ws #[(.ref a)] h0 (Q9 Z a h0 n0) := by
  refine own_enter (plainFor_of_name (by first | (simp [plainName, overriddenIn]; done) | decide +kernel)) ?_
  intro p e s m below meth c s₁ hx hby hml hown hnm hlk hret hZ X0 e0
  have N0 := Fr.nil n0
  refine own_go (fun _ q => castTop (ef_9 m a) q) ?_
  show OG (s₁.setTop (mkF m 0 #[vR a] []))
  refine own_go (fun _ q => XS.aloadN X0.here hx rfl (hb hby d9_0) rfl rfl q) ?_
  show OG (s₁.setTop (mkF m 1 _ [(.ref a)]))
  obtain ⟨T1, X1, e1, st1⟩ := initO X0 hx hZ hown (wd hw 55 rfl) (wd hw 20 rfl) (wd hw 21 rfl) e0 (g := (mkF m 1 #[vR a] [(.ref a)])) rfl (by rw [hml]; rfl) rfl (hb hby d9_1) (by decide) (W := 0) (by show 2 * 0 + _ ≤ _; exact Nat.le_of_eq rfl) (by decide)
  refine own_go st1 ?_
  show OG (T1.setTop (mkF m 4 _ []))
  exact own_retV X1 hx hlk hret (hb hby d9_4) (by decide) (by decide) ⟨rfl, N0, e1⟩
abbrev C13 := prog_23_method_5_code
theorem d13_0 : decode C13 0 = .ok (.aload_n 0, 1) := by decide +kernel
theorem d13_1 : decode C13 1 = .ok (.invokevirtual 39, 3) := by decide +kernel
theorem d13_4 : decode C13 4 = .ok (.ifCond .eq 6, 3) := by decide +kernel
theorem d13_10 : decode C13 10 = .ok (.iconst 0, 1) := by decide +kernel
theorem d13_11 : decode C13 11 = .ok (.istore_n 1, 1) := by decide +kernel
theorem d13_12 : decode C13 12 = .ok (.iload_n 1, 1) := by decide +kernel
theorem d13_13 : decode C13 13 = .ok (.aload_n 0, 1) := by decide +kernel
theorem d13_14 : decode C13 14 = .ok (.invokevirtual 83, 3) := by decide +kernel
theorem d13_17 : decode C13 17 = .ok (.if_icmp .ge 73, 3) := by decide +kernel
theorem d13_20 : decode C13 20 = .ok (.aload_n 0, 1) := by decide +kernel
theorem d13_21 : decode C13 21 = .ok (.iload_n 1, 1) := by decide +kernel
theorem d13_22 : decode C13 22 = .ok (.invokevirtual 47, 3) := by decide +kernel
theorem d13_25 : decode C13 25 = .ok (.istore_n 2, 1) := by decide +kernel
theorem d13_26 : decode C13 26 = .ok (.iload_n 2, 1) := by decide +kernel
theorem d13_27 : decode C13 27 = .ok (.invokestatic 180, 3) := by decide +kernel
theorem d13_30 : decode C13 30 = .ok (.ifCond .ne 54, 3) := by decide +kernel
theorem d13_33 : decode C13 33 = .ok (.iload_n 2, 1) := by decide +kernel
theorem d13_34 : decode C13 34 = .ok (.invokestatic 87, 3) := by decide +kernel
theorem d13_37 : decode C13 37 = .ok (.ifCond .ne 47, 3) := by decide +kernel
theorem d13_40 : decode C13 40 = .ok (.iload_n 2, 1) := by decide +kernel
theorem d13_41 : decode C13 41 = .ok (.bipush 95, 2) := by decide +kernel
theorem d13_43 : decode C13 43 = .ok (.if_icmp .eq 41, 3) := by decide +kernel
theorem d13_46 : decode C13 46 = .ok (.iload_n 2, 1) := by decide +kernel
theorem d13_47 : decode C13 47 = .ok (.bipush 45, 2) := by decide +kernel
theorem d13_49 : decode C13 49 = .ok (.if_icmp .eq 35, 3) := by decide +kernel
theorem d13_84 : decode C13 84 = .ok (.iinc 1 1, 3) := by decide +kernel
theorem d13_87 : decode C13 87 = .ok (.goto (-75), 3) := by decide +kernel
theorem d13_90 : decode C13 90 = .ok (.aconst_null, 1) := by decide +kernel
theorem d13_91 : decode C13 91 = .ok (.areturn, 1) := by decide +kernel
def Q13 (Z : State) (a : Addr) (v_ : Addr) (N : Nat) (g : Nat → Option Nat) (z : Int32) (fv : Value) (zc : Int32) (h0 : Heap) (n0 : Nat) (v : Option Value) (h : Heap) (L : List Loc) : Prop := v = some .null ∧ Fr n0 L ∧ h = h0
theorem ef_13 (m : MethodId) (x0 : Addr) : entryFrame m #[(.ref x0)] 3 = mkF m 0 #[vR x0, .unset, .unset] [] := by first | (simp [entryFrame, mkF, argsToLocals, Value.category]; done) | rfl
set_option maxRecDepth 65536 in
set_option maxHeartbeats 40000000 in
theorem rm13 (l : Launch) (Z : State) (a0 : Array Value) (hw : ∀ d ∈ tables_1, d.before a0 Z = true) (ws : List Jvm.Cond) (a : Addr) (v_ : Addr) (N : Nat) (g : Nat → Option Nat) (z : Int32) (fv : Value) (zc : Int32) (h0 : Heap) (n0 : Nat) (Z0 : n0 ≤ h0.size) (SC : Sta Z Z.heap "java/lang/String" "COMPACT_STRINGS" "Z" (.int zc)) (hz0 : ¬ zc = 0) (Od : Old Z n0 h0) (SF : Sta Z Z.heap "jdk/internal/util/Preconditions" "SIOOBE_FORMATTER" "Ljava/util/function/BiFunction;" fv) (hfv : fv.isRef = true) (hz : z.toInt = (N : Int)) (hN : 0 < N) (hg : ∀ j, j < N → ∃ x, g j = some x ∧ own_okc x) (Ea : Exa Z h0 a "java/lang/String") (Fc : Fld Z h0 a "java/lang/String" "coder" "B" (.int 0)) (Fv : Fld Z h0 a "java/lang/String" "value" "[B" (.ref v_)) (Av : own_By Z h0 v_ .byte N g)  :
    own_Met l Z (⟨"com/example/interleave/interleave/core/Operation", "itemFault", "(Ljava/lang/String;)Ljava/lang/String;"⟩ : MethodName) prog_23_method_5_code 3 (some (.object "java/lang/String")) ({ frames := 4, cells := 0, slots := 0, locals := 58 } : Room) ws #[(.ref a)] h0 (Q13 Z a v_ N g z fv zc h0 n0) := by
  refine own_enter (plainFor_of_name (by first | (simp [plainName, overriddenIn]; done) | decide +kernel)) ?_
  intro p e s m below meth c s₁ hx hby hml hown hnm hlk hret hZ X0 e0
  have N0 := Fr.nil n0
  refine own_go (fun _ q => castTop (ef_13 m a) q) ?_
  show OG (s₁.setTop (mkF m 0 #[vR a, .unset, .unset] []))
  refine own_go (fun _ q => XS.aloadN X0.here hx rfl (hb hby d13_0) rfl rfl q) ?_
  show OG (s₁.setTop (mkF m 1 _ [(.ref a)]))
  refine own_virtual X0 hx hZ hown (wd hw 76 rfl) (wd hw 77 rfl) (wd hw 79 rfl) (wd hw 78 rfl) (wd hw 10 rfl) (wd hw 80 rfl) (by decide) e0 (a := a) Ea (argsL := []) (rest := []) (rm14 l Z a0 hw [] a v_ N g z zc h0 n0 Z0 SC hz0 Od Ea Fc Fv Av hz hN) 0 (by decide) (by decide) (by decide) (by decide) (by rw [hml]; rfl) pd_3 rfl rfl (Nat.le_of_eq rfl) (hb hby d13_1) rfl ?_
  intro v1 T1 L1 X1 hQ1
  obtain ⟨rfl, N1q, e1q⟩ := hQ1
  have N1 := Fr.app N0 N1q
  show OG (T1.setTop (mkF m 4 _ [(.int (0 : Int32))]))
  refine own_go (fun _ q => XS.ifYes X1.here hx rfl (pc0 := 4) (pc' := 10) rfl (hb hby d13_4) rfl ((if0 _ _).trans (teq (by decide : (0 : Int32) = (0 : Int32))).1) (by decide) (by decide) q) ?_
  show OG (T1.setTop (mkF m 10 #[vR a, .unset, .unset] []))
  refine own_go (fun _ q => XS.iconst X1.here hx rfl (hb hby d13_10) (XS.istoreN X1.here hx rfl (hb hby d13_11) rfl (l' := #[vR a, vI (0 : Int32), .unset]) rfl q)) ?_
  show OG (T1.setTop (mkF m 12 #[vR a, vI (0 : Int32), .unset] []))
  have loop : ∀ (k i : Nat) (zi : Int32) (sl : Slot) (T : State) (locs : List Loc), i + k = N → zi.toInt = (i : Int) → (sl = .unset ∨ ∃ y, sl = .val (.int y)) → Stand p l e ({ frames := 4, cells := 0, slots := 0, locals := 58 } : Room) s m #[(.ref a)] below meth c T locs 0 0 → T.heap = h0 → Fr n0 locs → own_Go p e below (s, false) (Q13 Z a v_ N g z fv zc h0 n0) 0 0 (T.setTop (mkF m 12 #[vR a, vI zi, sl] [])) := by
    intro k
    induction k with
    | zero =>
      intro i zi sl T locs hik hzi hsl X eh Nl
      show OG (T.setTop (mkF m 12 #[vR a, vI zi, sl] []))
      refine own_go (fun _ q => XS.iloadN X.here hx rfl (hb hby d13_12) rfl (XS.aloadN X.here hx rfl (hb hby d13_13) rfl rfl q)) ?_
      show OG (T.setTop (mkF m 14 _ [(.ref a), (.int zi)]))
      refine own_virtual X hx hZ hown (wd hw 81 rfl) (wd hw 82 rfl) (wd hw 84 rfl) (wd hw 83 rfl) (wd hw 10 rfl) (wd hw 85 rfl) (by decide) eh (a := a) Ea (argsL := []) (rest := [(.int zi)]) (rm15 l Z a0 hw [] a v_ N g z zc h0 n0 Z0 SC hz0 Od Ea Fc Fv Av hz) 1 (by decide) (by decide) (by decide) (by decide) (by rw [hml]; rfl) pd_5 rfl rfl (Nat.le_of_eq rfl) (hb hby d13_14) rfl ?_
      intro v2 T2 L2 X2 hQ2
      obtain ⟨rfl, N2q, e2q⟩ := hQ2
      have N2 := Fr.app Nl N2q
      show OG (T2.setTop (mkF m 17 _ [(.int z), (.int zi)]))
      refine own_go (fun _ q => XS.icmpYes X2.here hx rfl (pc0 := 17) (pc' := 90) rfl (hb hby d13_17) rfl (flt (own_nlt (x := zi) (y := z) (by omega))).2.1 (by decide) (by decide) q) ?_
      show OG (T2.setTop (mkF m 90 #[vR a, vI zi, sl] []))
      refine own_go (fun _ q => XS.aconstNull X2.here hx rfl (hb hby d13_90) q) ?_
      show OG (T2.setTop (mkF m 91 _ [.null]))
      exact own_retR X2 hx hlk hret rfl rfl rfl (hb hby d13_91) (by decide) (by decide) ⟨rfl, N2, e2q⟩
    | succ k ih =>
      intro i zi sl T locs hik hzi hsl X eh Nl
      show OG (T.setTop (mkF m 12 #[vR a, vI zi, sl] []))
      refine own_go (fun _ q => XS.iloadN X.here hx rfl (hb hby d13_12) rfl (XS.aloadN X.here hx rfl (hb hby d13_13) rfl rfl q)) ?_
      show OG (T.setTop (mkF m 14 _ [(.ref a), (.int zi)]))
      refine own_virtual X hx hZ hown (wd hw 81 rfl) (wd hw 82 rfl) (wd hw 84 rfl) (wd hw 83 rfl) (wd hw 10 rfl) (wd hw 85 rfl) (by decide) eh (a := a) Ea (argsL := []) (rest := [(.int zi)]) (rm15 l Z a0 hw [] a v_ N g z zc h0 n0 Z0 SC hz0 Od Ea Fc Fv Av hz) 1 (by decide) (by decide) (by decide) (by decide) (by rw [hml]; rfl) pd_5 rfl rfl (Nat.le_of_eq rfl) (hb hby d13_14) rfl ?_
      intro v3 T3 L3 X3 hQ3
      obtain ⟨rfl, N3q, e3q⟩ := hQ3
      have N3 := Fr.app Nl N3q
      show OG (T3.setTop (mkF m 17 _ [(.int z), (.int zi)]))
      refine own_go (fun _ q => XS.icmpNo X3.here hx rfl (hb hby d13_17) rfl (tlt (own_lt (x := zi) (y := z) (by omega))).2.1 q) ?_
      show OG (T3.setTop (mkF m 20 #[vR a, vI zi, sl] []))
      obtain ⟨x, hgx, hok⟩ := hg i (by omega)
      have hx7 := own_okc_lt hok
      have hxi := own_ofNat hx7
      refine own_go (fun _ q => XS.aloadN X3.here hx rfl (hb hby d13_20) rfl rfl (XS.iloadN X3.here hx rfl (hb hby d13_21) rfl q)) ?_
      show OG (T3.setTop (mkF m 22 _ [(.int zi), (.ref a)]))
      refine own_virtual X3 hx hZ hown (wd hw 91 rfl) (wd hw 92 rfl) (wd hw 94 rfl) (wd hw 93 rfl) (wd hw 10 rfl) (wd hw 95 rfl) (by decide) e3q (a := a) Ea (argsL := [(.int zi)]) (rest := []) (rm17 l Z a0 hw [] a v_ N g z zi i x fv zc h0 n0 Z0 SC hz0 Od SF hfv hz hzi (by omega) hgx hx7 Ea Fc Fv Av) 0 (by decide) (by decide) (by decide) (by decide) (by rw [hml]; rfl) pd_6 rfl rfl (Nat.le_of_eq rfl) (hb hby d13_22) rfl ?_
      intro v4 T4 L4 X4 hQ4
      obtain ⟨rfl, N4q, e4q⟩ := hQ4
      have N4 := Fr.app N3 N4q
      show OG (T4.setTop (mkF m 25 _ [(.int (Int32.ofNat x))]))
      refine own_go (fun _ q => XS.istoreN X4.here hx rfl (hb hby d13_25) rfl (l' := #[vR a, vI zi, vI (Int32.ofNat x)]) (by rcases hsl with rfl | ⟨_, rfl⟩ <;> rfl) (XS.iloadN X4.here hx rfl (hb hby d13_26) rfl q)) ?_
      show OG (T4.setTop (mkF m 27 #[vR a, vI zi, vI (Int32.ofNat x)] [(.int (Int32.ofNat x))]))
      refine own_static X4 hx hZ hown (wd hw 113 rfl) (wd hw 114 rfl) (wd hw 46 rfl) (wd hw 115 rfl) (by decide) e4q (argsL := [(.int (Int32.ofNat x))]) (rest := []) (rm22 l Z a0 hw [] (Int32.ofNat x) h0 n0 Z0) 0 (by decide) (by decide) (by decide) (by decide) (by rw [hml]; rfl) pd_7 rfl rfl (Nat.le_of_eq rfl) (hb hby d13_27) rfl ?_
      intro v5 T5 L5 X5 hQ5
      obtain ⟨r1, rfl, N5q, e5q, hr1⟩ := hQ5
      have N5 := Fr.app N4 N5q
      show OG (T5.setTop (mkF m 30 _ [(.int r1)]))
      by_cases hd1 : r1 = (0 : Int32)
      · refine own_go (fun _ q => XS.ifNo X5.here hx rfl (hb hby d13_30) rfl ((if0 _ _).trans (teq hd1).2) q) ?_
        show OG (T5.setTop (mkF m 33 #[vR a, vI zi, vI (Int32.ofNat x)] []))
        refine own_go (fun _ q => XS.iloadN X5.here hx rfl (hb hby d13_33) rfl q) ?_
        show OG (T5.setTop (mkF m 34 _ [(.int (Int32.ofNat x))]))
        refine own_static X5 hx hZ hown (wd hw 279 rfl) (wd hw 280 rfl) (wd hw 46 rfl) (wd hw 281 rfl) (by decide) e5q (argsL := [(.int (Int32.ofNat x))]) (rest := []) (rm53 l Z a0 hw [] (Int32.ofNat x) h0 n0 Z0) 0 (by decide) (by decide) (by decide) (by decide) (by rw [hml]; rfl) pd_7 rfl rfl (Nat.le_of_eq rfl) (hb hby d13_34) rfl ?_
        intro v6 T6 L6 X6 hQ6
        obtain ⟨r2, rfl, N6q, e6q, hr2⟩ := hQ6
        have N6 := Fr.app N5 N6q
        show OG (T6.setTop (mkF m 37 _ [(.int r2)]))
        by_cases hd2 : r2 = (0 : Int32)
        · refine own_go (fun _ q => XS.ifNo X6.here hx rfl (hb hby d13_37) rfl ((if0 _ _).trans (teq hd2).2) q) ?_
          show OG (T6.setTop (mkF m 40 #[vR a, vI zi, vI (Int32.ofNat x)] []))
          refine own_go (fun _ q => XS.iloadN X6.here hx rfl (hb hby d13_40) rfl (XS.bipush X6.here hx rfl (hb hby d13_41) q)) ?_
          show OG (T6.setTop (mkF m 43 _ [(.int (95 : Int32)), (.int (Int32.ofNat x))]))
          by_cases hu : (Int32.ofNat x) = (95 : Int32)
          · refine own_go (fun _ q => XS.icmpYes X6.here hx rfl (pc0 := 43) (pc' := 84) rfl (hb hby d13_43) rfl (teq hu).1 (by decide) (by decide) q) ?_
            show OG (T6.setTop (mkF m 84 #[vR a, vI zi, vI (Int32.ofNat x)] []))
            refine own_go (fun _ q => XS.iinc X6.here hx rfl (hb hby d13_84) rfl (l' := #[vR a, vI (zi + (1 : Int32)), vI (Int32.ofNat x)]) rfl (XS.goto X6.here hx rfl (pc0 := 87) (pc' := 12) rfl (hb hby d13_87) (by decide) (by decide) q)) ?_
            show OG (T6.setTop (mkF m 12 #[vR a, vI (zi + (1 : Int32)), vI (Int32.ofNat x)] []))
            exact ih (i + 1) _ _ _ _ (by omega) (own_inc hzi (by have := rng32 z; omega)) (Or.inr ⟨_, rfl⟩) X6 e6q N6
          · refine own_go (fun _ q => XS.icmpNo X6.here hx rfl (hb hby d13_43) rfl (feq hu).1 q) ?_
            show OG (T6.setTop (mkF m 46 #[vR a, vI zi, vI (Int32.ofNat x)] []))
            refine own_go (fun _ q => XS.iloadN X6.here hx rfl (hb hby d13_46) rfl (XS.bipush X6.here hx rfl (hb hby d13_47) q)) ?_
            show OG (T6.setTop (mkF m 49 _ [(.int (45 : Int32)), (.int (Int32.ofNat x))]))
            refine own_go (fun _ q => XS.icmpYes X6.here hx rfl (pc0 := 49) (pc' := 84) rfl (hb hby d13_49) rfl (teq (own_mi hok hd1 hd2 hu hr1 hr2)).1 (by decide) (by decide) q) ?_
            show OG (T6.setTop (mkF m 84 #[vR a, vI zi, vI (Int32.ofNat x)] []))
            refine own_go (fun _ q => XS.iinc X6.here hx rfl (hb hby d13_84) rfl (l' := #[vR a, vI (zi + (1 : Int32)), vI (Int32.ofNat x)]) rfl (XS.goto X6.here hx rfl (pc0 := 87) (pc' := 12) rfl (hb hby d13_87) (by decide) (by decide) q)) ?_
            show OG (T6.setTop (mkF m 12 #[vR a, vI (zi + (1 : Int32)), vI (Int32.ofNat x)] []))
            exact ih (i + 1) _ _ _ _ (by omega) (own_inc hzi (by have := rng32 z; omega)) (Or.inr ⟨_, rfl⟩) X6 e6q N6
        · refine own_go (fun _ q => XS.ifYes X6.here hx rfl (pc0 := 37) (pc' := 84) rfl (hb hby d13_37) rfl ((if0 _ _).trans (feq hd2).2) (by decide) (by decide) q) ?_
          show OG (T6.setTop (mkF m 84 #[vR a, vI zi, vI (Int32.ofNat x)] []))
          refine own_go (fun _ q => XS.iinc X6.here hx rfl (hb hby d13_84) rfl (l' := #[vR a, vI (zi + (1 : Int32)), vI (Int32.ofNat x)]) rfl (XS.goto X6.here hx rfl (pc0 := 87) (pc' := 12) rfl (hb hby d13_87) (by decide) (by decide) q)) ?_
          show OG (T6.setTop (mkF m 12 #[vR a, vI (zi + (1 : Int32)), vI (Int32.ofNat x)] []))
          exact ih (i + 1) _ _ _ _ (by omega) (own_inc hzi (by have := rng32 z; omega)) (Or.inr ⟨_, rfl⟩) X6 e6q N6
      · refine own_go (fun _ q => XS.ifYes X5.here hx rfl (pc0 := 30) (pc' := 84) rfl (hb hby d13_30) rfl ((if0 _ _).trans (feq hd1).2) (by decide) (by decide) q) ?_
        show OG (T5.setTop (mkF m 84 #[vR a, vI zi, vI (Int32.ofNat x)] []))
        refine own_go (fun _ q => XS.iinc X5.here hx rfl (hb hby d13_84) rfl (l' := #[vR a, vI (zi + (1 : Int32)), vI (Int32.ofNat x)]) rfl (XS.goto X5.here hx rfl (pc0 := 87) (pc' := 12) rfl (hb hby d13_87) (by decide) (by decide) q)) ?_
        show OG (T5.setTop (mkF m 12 #[vR a, vI (zi + (1 : Int32)), vI (Int32.ofNat x)] []))
        exact ih (i + 1) _ _ _ _ (by omega) (own_inc hzi (by have := rng32 z; omega)) (Or.inr ⟨_, rfl⟩) X5 e5q N5
  exact loop N 0 _ _ _ _ (by omega) rfl (Or.inl rfl) X1 e1q N1
abbrev C11 := prog_23_method_4_code
theorem d11_0 : decode C11 0 = .ok (.iload_n 1, 1) := by decide +kernel
theorem d11_1 : decode C11 1 = .ok (.iconst 1, 1) := by decide +kernel
theorem d11_2 : decode C11 2 = .ok (.if_icmp .ge 26, 3) := by decide +kernel
theorem d11_28 : decode C11 28 = .ok (.aload_n 0, 1) := by decide +kernel
theorem d11_29 : decode C11 29 = .ok (.invokevirtual 109, 3) := by decide +kernel
theorem d11_32 : decode C11 32 = .ok (.ifCond .eq 44, 3) := by decide +kernel
theorem d11_35 : decode C11 35 = .ok (.aload_n 2, 1) := by decide +kernel
theorem d11_36 : decode C11 36 = .ok (.ifnonnull 40, 3) := by decide +kernel
theorem d11_76 : decode C11 76 = .ok (.aload_n 0, 1) := by decide +kernel
theorem d11_77 : decode C11 77 = .ok (.invokevirtual 109, 3) := by decide +kernel
theorem d11_80 : decode C11 80 = .ok (.ifCond .eq 11, 3) := by decide +kernel
theorem d11_83 : decode C11 83 = .ok (.aload_n 2, 1) := by decide +kernel
theorem d11_84 : decode C11 84 = .ok (.invokestatic 172, 3) := by decide +kernel
theorem d11_87 : decode C11 87 = .ok (.astore_n 3, 1) := by decide +kernel
theorem d11_88 : decode C11 88 = .ok (.goto 46, 3) := by decide +kernel
theorem d11_91 : decode C11 91 = .ok (.aload_n 2, 1) := by decide +kernel
theorem d11_92 : decode C11 92 = .ok (.ifnull 40, 3) := by decide +kernel
theorem d11_132 : decode C11 132 = .ok (.aconst_null, 1) := by decide +kernel
theorem d11_133 : decode C11 133 = .ok (.astore_n 3, 1) := by decide +kernel
theorem d11_134 : decode C11 134 = .ok (.aload_n 3, 1) := by decide +kernel
theorem d11_135 : decode C11 135 = .ok (.areturn, 1) := by decide +kernel
def Q11 (Z : State) (kd : Addr) (x : Int32) (a : Addr) (v_ : Addr) (N : Nat) (g : Nat → Option Nat) (z : Int32) (fv : Value) (zc : Int32) (h0 : Heap) (n0 : Nat) (v : Option Value) (h : Heap) (L : List Loc) : Prop := v = some .null ∧ Fr n0 L ∧ h = h0
theorem ef_11 (m : MethodId) (x0 : Addr) (x1 : Int32) (x2 : Addr) : entryFrame m #[(.ref x0), (.int x1), (.ref x2)] 4 = mkF m 0 #[vR x0, vI x1, vR x2, .unset] [] := by first | (simp [entryFrame, mkF, argsToLocals, Value.category]; done) | rfl
set_option maxRecDepth 65536 in
set_option maxHeartbeats 40000000 in
theorem rm11 (l : Launch) (Z : State) (a0 : Array Value) (hw : ∀ d ∈ tables_1, d.before a0 Z = true) (ws : List Jvm.Cond) (kd : Addr) (x : Int32) (a : Addr) (v_ : Addr) (N : Nat) (g : Nat → Option Nat) (z : Int32) (fv : Value) (zc : Int32) (h0 : Heap) (n0 : Nat) (Z0 : n0 ≤ h0.size) (SC : Sta Z Z.heap "java/lang/String" "COMPACT_STRINGS" "Z" (.int zc)) (hz0 : ¬ zc = 0) (Od : Old Z n0 h0) (Ek : Exa Z Z.heap kd "com/example/interleave/interleave/core/Operation$Kind") (Fk : Fld Z Z.heap kd "com/example/interleave/interleave/core/Operation$Kind" "onItem" "Z" (.int 1)) (hx1 : (1 : Int32).toInt ≤ x.toInt) (SF : Sta Z Z.heap "jdk/internal/util/Preconditions" "SIOOBE_FORMATTER" "Ljava/util/function/BiFunction;" fv) (hfv : fv.isRef = true) (hz : z.toInt = (N : Int)) (hN : 0 < N) (hg : ∀ j, j < N → ∃ x, g j = some x ∧ own_okc x) (Ea : Exa Z h0 a "java/lang/String") (Fc : Fld Z h0 a "java/lang/String" "coder" "B" (.int 0)) (Fv : Fld Z h0 a "java/lang/String" "value" "[B" (.ref v_)) (Av : own_By Z h0 v_ .byte N g)  :
    own_Met l Z (⟨"com/example/interleave/interleave/core/Operation", "fault", "(Lcom/example/interleave/interleave/core/Operation$Kind;ILjava/lang/String;)Ljava/lang/String;"⟩ : MethodName) prog_23_method_4_code 4 (some (.object "java/lang/String")) ({ frames := 5, cells := 0, slots := 0, locals := 72 } : Room) ws #[(.ref kd), (.int x), (.ref a)] h0 (Q11 Z kd x a v_ N g z fv zc h0 n0) := by
  refine own_enter (plainFor_of_name (by first | (simp [plainName, overriddenIn]; done) | decide +kernel)) ?_
  intro p e s m below meth c s₁ hx hby hml hown hnm hlk hret hZ X0 e0
  have N0 := Fr.nil n0
  refine own_go (fun _ q => castTop (ef_11 m kd x a) q) ?_
  show OG (s₁.setTop (mkF m 0 #[vR kd, vI x, vR a, .unset] []))
  refine own_go (fun _ q => XS.iloadN X0.here hx rfl (hb hby d11_0) rfl (XS.iconst X0.here hx rfl (hb hby d11_1) q)) ?_
  show OG (s₁.setTop (mkF m 2 _ [(.int (1 : Int32)), (.int x)]))
  refine own_go (fun _ q => XS.icmpYes X0.here hx rfl (pc0 := 2) (pc' := 28) rfl (hb hby d11_2) rfl (flt (own_nlt (x := x) (y := 1) hx1)).2.1 (by decide) (by decide) q) ?_
  show OG (s₁.setTop (mkF m 28 #[vR kd, vI x, vR a, .unset] []))
  refine own_go (fun _ q => XS.aloadN X0.here hx rfl (hb hby d11_28) rfl rfl q) ?_
  show OG (s₁.setTop (mkF m 29 _ [(.ref kd)]))
  refine own_virtual X0 hx hZ hown (wd hw 66 rfl) (wd hw 67 rfl) (wd hw 69 rfl) (wd hw 68 rfl) (wd hw 1 rfl) (wd hw 70 rfl) (by decide) e0 (a := kd) (Ek.ext Od.2) (argsL := []) (rest := []) (rm12 l Z a0 hw [] kd 1 zc h0 n0 Z0 SC hz0 Od Fk (by decide)) 0 (by decide) (by decide) (by decide) (by decide) (by rw [hml]; rfl) pd_3 rfl rfl (Nat.le_of_eq rfl) (hb hby d11_29) rfl ?_
  intro v1 T1 L1 X1 hQ1
  obtain ⟨rfl, N1q, e1q⟩ := hQ1
  have N1 := Fr.app N0 N1q
  show OG (T1.setTop (mkF m 32 _ [(.int (1 : Int32))]))
  refine own_go (fun _ q => XS.ifNo X1.here hx rfl (hb hby d11_32) rfl ((if0 _ _).trans (feq (by decide : ¬ ((1 : Int32) = (0 : Int32)))).1) q) ?_
  show OG (T1.setTop (mkF m 35 #[vR kd, vI x, vR a, .unset] []))
  refine own_go (fun _ q => XS.aloadN X1.here hx rfl (hb hby d11_35) rfl rfl (XT.ifnonnullYes X1.here hx rfl (pc0 := 36) (pc' := 76) rfl (hb hby d11_36) rfl (by decide) (by decide) (XS.aloadN X1.here hx rfl (hb hby d11_76) rfl rfl q))) ?_
  show OG (T1.setTop (mkF m 77 _ [(.ref kd)]))
  refine own_virtual X1 hx hZ hown (wd hw 66 rfl) (wd hw 67 rfl) (wd hw 69 rfl) (wd hw 68 rfl) (wd hw 1 rfl) (wd hw 70 rfl) (by decide) e1q (a := kd) (Ek.ext Od.2) (argsL := []) (rest := []) (rm12 l Z a0 hw [] kd 1 zc h0 n0 Z0 SC hz0 Od Fk (by decide)) 0 (by decide) (by decide) (by decide) (by decide) (by rw [hml]; rfl) pd_3 rfl rfl (Nat.le_of_eq rfl) (hb hby d11_77) rfl ?_
  intro v2 T2 L2 X2 hQ2
  obtain ⟨rfl, N2q, e2q⟩ := hQ2
  have N2 := Fr.app N1 N2q
  show OG (T2.setTop (mkF m 80 _ [(.int (1 : Int32))]))
  refine own_go (fun _ q => XS.ifNo X2.here hx rfl (hb hby d11_80) rfl ((if0 _ _).trans (feq (by decide : ¬ ((1 : Int32) = (0 : Int32)))).1) q) ?_
  show OG (T2.setTop (mkF m 83 #[vR kd, vI x, vR a, .unset] []))
  refine own_go (fun _ q => XS.aloadN X2.here hx rfl (hb hby d11_83) rfl rfl q) ?_
  show OG (T2.setTop (mkF m 84 _ [(.ref a)]))
  refine own_static X2 hx hZ hown (wd hw 73 rfl) (wd hw 74 rfl) (wd hw 46 rfl) (wd hw 75 rfl) (by decide) e2q (argsL := [(.ref a)]) (rest := []) (rm13 l Z a0 hw [] a v_ N g z fv zc h0 n0 Z0 SC hz0 Od SF hfv hz hN hg Ea Fc Fv Av) 0 (by decide) (by decide) (by decide) (by decide) (by rw [hml]; rfl) pd_8 rfl rfl (Nat.le_of_eq rfl) (hb hby d11_84) rfl ?_
  intro v3 T3 L3 X3 hQ3
  obtain ⟨rfl, N3q, e3q⟩ := hQ3
  have N3 := Fr.app N2 N3q
  show OG (T3.setTop (mkF m 87 _ [.null]))
  refine own_go (fun _ q => XS.astoreN X3.here hx rfl (hb hby d11_87) rfl rfl (l' := #[vR kd, vI x, vR a, .val .null]) rfl (XS.goto X3.here hx rfl (pc0 := 88) (pc' := 134) rfl (hb hby d11_88) (by decide) (by decide) (XS.aloadN X3.here hx rfl (hb hby d11_134) rfl rfl q))) ?_
  show OG (T3.setTop (mkF m 135 #[vR kd, vI x, vR a, .val .null] [.null]))
  exact own_retR X3 hx hlk hret rfl rfl rfl (hb hby d11_135) (by decide) (by decide) ⟨rfl, N3, e3q⟩
def Q11b (Z : State) (kd : Addr) (x : Int32) (zc : Int32) (h0 : Heap) (n0 : Nat) (v : Option Value) (h : Heap) (L : List Loc) : Prop := v = some .null ∧ Fr n0 L ∧ h = h0
theorem ef_11b (m : MethodId) (x0 : Addr) (x1 : Int32) : entryFrame m #[(.ref x0), (.int x1), .null] 4 = mkF m 0 #[vR x0, vI x1, .val .null, .unset] [] := by first | (simp [entryFrame, mkF, argsToLocals, Value.category]; done) | rfl
set_option maxRecDepth 65536 in
set_option maxHeartbeats 40000000 in
theorem rm11b (l : Launch) (Z : State) (a0 : Array Value) (hw : ∀ d ∈ tables_1, d.before a0 Z = true) (ws : List Jvm.Cond) (kd : Addr) (x : Int32) (zc : Int32) (h0 : Heap) (n0 : Nat) (Z0 : n0 ≤ h0.size) (SC : Sta Z Z.heap "java/lang/String" "COMPACT_STRINGS" "Z" (.int zc)) (hz0 : ¬ zc = 0) (Od : Old Z n0 h0) (Ek : Exa Z Z.heap kd "com/example/interleave/interleave/core/Operation$Kind") (Fk : Fld Z Z.heap kd "com/example/interleave/interleave/core/Operation$Kind" "onItem" "Z" (.int 0)) (hx1 : (1 : Int32).toInt ≤ x.toInt)  :
    own_Met l Z (⟨"com/example/interleave/interleave/core/Operation", "fault", "(Lcom/example/interleave/interleave/core/Operation$Kind;ILjava/lang/String;)Ljava/lang/String;"⟩ : MethodName) prog_23_method_4_code 4 (some (.object "java/lang/String")) ({ frames := 1, cells := 0, slots := 0, locals := 12 } : Room) ws #[(.ref kd), (.int x), .null] h0 (Q11b Z kd x zc h0 n0) := by
  refine own_enter (plainFor_of_name (by first | (simp [plainName, overriddenIn]; done) | decide +kernel)) ?_
  intro p e s m below meth c s₁ hx hby hml hown hnm hlk hret hZ X0 e0
  have N0 := Fr.nil n0
  refine own_go (fun _ q => castTop (ef_11b m kd x) q) ?_
  show OG (s₁.setTop (mkF m 0 #[vR kd, vI x, .val .null, .unset] []))
  refine own_go (fun _ q => XS.iloadN X0.here hx rfl (hb hby d11_0) rfl (XS.iconst X0.here hx rfl (hb hby d11_1) q)) ?_
  show OG (s₁.setTop (mkF m 2 _ [(.int (1 : Int32)), (.int x)]))
  refine own_go (fun _ q => XS.icmpYes X0.here hx rfl (pc0 := 2) (pc' := 28) rfl (hb hby d11_2) rfl (flt (own_nlt (x := x) (y := 1) hx1)).2.1 (by decide) (by decide) q) ?_
  show OG (s₁.setTop (mkF m 28 #[vR kd, vI x, .val .null, .unset] []))
  refine own_go (fun _ q => XS.aloadN X0.here hx rfl (hb hby d11_28) rfl rfl q) ?_
  show OG (s₁.setTop (mkF m 29 _ [(.ref kd)]))
  refine own_virtual X0 hx hZ hown (wd hw 66 rfl) (wd hw 67 rfl) (wd hw 69 rfl) (wd hw 68 rfl) (wd hw 1 rfl) (wd hw 70 rfl) (by decide) e0 (a := kd) (Ek.ext Od.2) (argsL := []) (rest := []) (rm12 l Z a0 hw [] kd 0 zc h0 n0 Z0 SC hz0 Od Fk (by decide)) 0 (by decide) (by decide) (by decide) (by decide) (by rw [hml]; rfl) pd_3 rfl rfl (Nat.le_of_eq rfl) (hb hby d11_29) rfl ?_
  intro v1 T1 L1 X1 hQ1
  obtain ⟨rfl, N1q, e1q⟩ := hQ1
  have N1 := Fr.app N0 N1q
  show OG (T1.setTop (mkF m 32 _ [(.int (0 : Int32))]))
  refine own_go (fun _ q => XS.ifYes X1.here hx rfl (pc0 := 32) (pc' := 76) rfl (hb hby d11_32) rfl ((if0 _ _).trans (teq (by decide : (0 : Int32) = (0 : Int32))).1) (by decide) (by decide) q) ?_
  show OG (T1.setTop (mkF m 76 #[vR kd, vI x, .val .null, .unset] []))
  refine own_go (fun _ q => XS.aloadN X1.here hx rfl (hb hby d11_76) rfl rfl q) ?_
  show OG (T1.setTop (mkF m 77 _ [(.ref kd)]))
  refine own_virtual X1 hx hZ hown (wd hw 66 rfl) (wd hw 67 rfl) (wd hw 69 rfl) (wd hw 68 rfl) (wd hw 1 rfl) (wd hw 70 rfl) (by decide) e1q (a := kd) (Ek.ext Od.2) (argsL := []) (rest := []) (rm12 l Z a0 hw [] kd 0 zc h0 n0 Z0 SC hz0 Od Fk (by decide)) 0 (by decide) (by decide) (by decide) (by decide) (by rw [hml]; rfl) pd_3 rfl rfl (Nat.le_of_eq rfl) (hb hby d11_77) rfl ?_
  intro v2 T2 L2 X2 hQ2
  obtain ⟨rfl, N2q, e2q⟩ := hQ2
  have N2 := Fr.app N1 N2q
  show OG (T2.setTop (mkF m 80 _ [(.int (0 : Int32))]))
  refine own_go (fun _ q => XS.ifYes X2.here hx rfl (pc0 := 80) (pc' := 91) rfl (hb hby d11_80) rfl ((if0 _ _).trans (teq (by decide : (0 : Int32) = (0 : Int32))).1) (by decide) (by decide) q) ?_
  show OG (T2.setTop (mkF m 91 #[vR kd, vI x, .val .null, .unset] []))
  refine own_go (fun _ q => XS.aloadN X2.here hx rfl (hb hby d11_91) rfl rfl (XS.ifnullYes X2.here hx rfl (pc0 := 92) (pc' := 132) rfl (hb hby d11_92) rfl (by decide) (by decide) (XS.aconstNull X2.here hx rfl (hb hby d11_132) (XS.astoreN X2.here hx rfl (hb hby d11_133) rfl rfl (l' := #[vR kd, vI x, .val .null, .val .null]) rfl (XS.aloadN X2.here hx rfl (hb hby d11_134) rfl rfl q))))) ?_
  show OG (T2.setTop (mkF m 135 #[vR kd, vI x, .val .null, .val .null] [.null]))
  exact own_retR X2 hx hlk hret rfl rfl rfl (hb hby d11_135) (by decide) (by decide) ⟨rfl, N2, e2q⟩
abbrev C8 := prog_23_method_1_code
theorem d8_0 : decode C8 0 = .ok (.aload_n 0, 1) := by decide +kernel
theorem d8_1 : decode C8 1 = .ok (.invokespecial 1, 3) := by decide +kernel
theorem d8_4 : decode C8 4 = .ok (.aload_n 1, 1) := by decide +kernel
theorem d8_5 : decode C8 5 = .ok (.ldc 7, 2) := by decide +kernel
theorem d8_7 : decode C8 7 = .ok (.invokestatic 9, 3) := by decide +kernel
theorem d8_10 : decode C8 10 = .ok (.pop, 1) := by decide +kernel
theorem d8_11 : decode C8 11 = .ok (.aload_n 1, 1) := by decide +kernel
theorem d8_12 : decode C8 12 = .ok (.iload_n 2, 1) := by decide +kernel
theorem d8_13 : decode C8 13 = .ok (.aload_n 3, 1) := by decide +kernel
theorem d8_14 : decode C8 14 = .ok (.invokestatic 15, 3) := by decide +kernel
theorem d8_17 : decode C8 17 = .ok (.astore 4, 2) := by decide +kernel
theorem d8_19 : decode C8 19 = .ok (.aload 4, 2) := by decide +kernel
theorem d8_21 : decode C8 21 = .ok (.ifnull 13, 3) := by decide +kernel
theorem d8_34 : decode C8 34 = .ok (.aload_n 0, 1) := by decide +kernel
theorem d8_35 : decode C8 35 = .ok (.aload_n 1, 1) := by decide +kernel
theorem d8_36 : decode C8 36 = .ok (.putfield 26, 3) := by decide +kernel
theorem d8_39 : decode C8 39 = .ok (.aload_n 0, 1) := by decide +kernel
theorem d8_40 : decode C8 40 = .ok (.iload_n 2, 1) := by decide +kernel
theorem d8_41 : decode C8 41 = .ok (.putfield 29, 3) := by decide +kernel
theorem d8_44 : decode C8 44 = .ok (.aload_n 0, 1) := by decide +kernel
theorem d8_45 : decode C8 45 = .ok (.aload_n 3, 1) := by decide +kernel
theorem d8_46 : decode C8 46 = .ok (.putfield 33, 3) := by decide +kernel
theorem d8_49 : decode C8 49 = .ok (.return_, 1) := by decide +kernel
def Q8 (Z : State) (o : Addr) (kd : Addr) (x : Int32) (a : Addr) (v_ : Addr) (N : Nat) (g : Nat → Option Nat) (z : Int32) (fv : Value) (zc : Int32) (h0 : Heap) (n0 : Nat) (v : Option Value) (h : Heap) (L : List Loc) : Prop := v = none ∧ Fr n0 L ∧ Keep h0 h [o] ∧ Exa Z h o "com/example/interleave/interleave/core/Operation" ∧ Fld Z h o "com/example/interleave/interleave/core/Operation" "kind" "Lcom/example/interleave/interleave/core/Operation$Kind;" (.ref kd) ∧ Fld Z h o "com/example/interleave/interleave/core/Operation" "transaction" "I" (.int x) ∧ Fld Z h o "com/example/interleave/interleave/core/Operation" "item" "Ljava/lang/String;" (.ref a)
theorem ef_8 (m : MethodId) (x0 : Addr) (x1 : Addr) (x2 : Int32) (x3 : Addr) : entryFrame m #[(.ref x0), (.ref x1), (.int x2), (.ref x3)] 5 = mkF m 0 #[vR x0, vR x1, vI x2, vR x3, .unset] [] := by first | (simp [entryFrame, mkF, argsToLocals, Value.category]; done) | rfl
set_option maxRecDepth 65536 in
set_option maxHeartbeats 40000000 in
theorem rm8 (l : Launch) (Z : State) (a0 : Array Value) (hw : ∀ d ∈ tables_1, d.before a0 Z = true) (ws : List Jvm.Cond) (o : Addr) (kd : Addr) (x : Int32) (a : Addr) (v_ : Addr) (N : Nat) (g : Nat → Option Nat) (z : Int32) (fv : Value) (zc : Int32) (h0 : Heap) (n0 : Nat) (Z0 : n0 ≤ h0.size) (SC : Sta Z Z.heap "java/lang/String" "COMPACT_STRINGS" "Z" (.int zc)) (hz0 : ¬ zc = 0) (Od : Old Z n0 h0) (Eo : Exa Z h0 o "com/example/interleave/interleave/core/Operation") (Fo1 : Fld Z h0 o "com/example/interleave/interleave/core/Operation" "kind" "Lcom/example/interleave/interleave/core/Operation$Kind;" .null) (Fo2 : Fld Z h0 o "com/example/interleave/interleave/core/Operation" "transaction" "I" (.int 0)) (Fo3 : Fld Z h0 o "com/example/interleave/interleave/core/Operation" "item" "Ljava/lang/String;" .null) (go : n0 ≤ o) (Ek : Exa Z Z.heap kd "com/example/interleave/interleave/core/Operation$Kind") (Fk : Fld Z Z.heap kd "com/example/interleave/interleave/core/Operation$Kind" "onItem" "Z" (.int 1)) (hx1 : (1 : Int32).toInt ≤ x.toInt) (SF : Sta Z Z.heap "jdk/internal/util/Preconditions" "SIOOBE_FORMATTER" "Ljava/util/function/BiFunction;" fv) (hfv : fv.isRef = true) (hz : z.toInt = (N : Int)) (hN : 0 < N) (hg : ∀ j, j < N → ∃ x, g j = some x ∧ own_okc x) (Ea : Exa Z h0 a "java/lang/String") (Fc : Fld Z h0 a "java/lang/String" "coder" "B" (.int 0)) (Fv : Fld Z h0 a "java/lang/String" "value" "[B" (.ref v_)) (Av : own_By Z h0 v_ .byte N g) (nao : a ≠ o) (nvo : v_ ≠ o) :
    own_MetW l Z (⟨"com/example/interleave/interleave/core/Operation", "<init>", "(Lcom/example/interleave/interleave/core/Operation$Kind;ILjava/lang/String;)V"⟩ : MethodName) prog_23_method_1_code 5 none ({ frames := 6, cells := 2, slots := 20, locals := 87 } : Room) ws #[(.ref o), (.ref kd), (.int x), (.ref a)] h0 (Q8 Z o kd x a v_ N g z fv zc h0 n0) := by
  refine own_enterW (plainFor_of_name (by first | (simp [plainName, overriddenIn]; done) | decide +kernel)) ?_
  intro p e s m below meth c s₁ hx hby hml hown hnm hlk hret hZ X0 e0
  have N0 := Fr.nil n0
  refine own_go (fun _ q => castTop (ef_8 m o kd x a) q) ?_
  show OG (s₁.setTop (mkF m 0 #[vR o, vR kd, vI x, vR a, .unset] []))
  refine own_go (fun _ q => XS.aloadN X0.here hx rfl (hb hby d8_0) rfl rfl q) ?_
  show OG (s₁.setTop (mkF m 1 _ [(.ref o)]))
  refine own_init X0 hx hZ rfl hown (wd hw 50 rfl) (wd hw 51 rfl) (wd hw 53 rfl) (wd hw 54 rfl) (by decide) e0 (a := o) (argsL := []) (rest := []) (rm9 l Z a0 hw [] o h0 n0 Z0) 0 (by decide) (by decide) (by decide) (by decide) (by rw [hml]; rfl) pd_9 rfl rfl (Nat.le_of_eq rfl) (hb hby d8_1) rfl ?_
  intro v1 T1 L1 X1 hQ1
  obtain ⟨rfl, N1q, e1q⟩ := hQ1
  have N1 := Fr.app N0 N1q
  show OG (T1.setTop (mkF m 4 _ []))
  refine own_go (fun _ q => XS.aloadN X1.here hx rfl (hb hby d8_4) rfl rfl q) ?_
  show OG (T1.setTop (mkF m 5 #[vR o, vR kd, vI x, vR a, .unset] [(.ref kd)]))
  have wS : ∀ d ∈ Bundle.stringAtoms, d.before a0 Z = true := fun d hd => hw d ((by decide +kernel : ∀ d ∈ Bundle.stringAtoms, d ∈ tables_1) d hd)
  obtain ⟨b2, T2, h2, k1, X2, e2, E2, hS, hk1, hZ, hown, st2⟩ := ldcS (s := s) (vm0 := s.vm) X1 hx hZ hown (wd hw 56 rfl) wS e1q (own_since s 0) (Nat.zero_le _) (g := (mkF m 5 #[vR o, vR kd, vI x, vR a, .unset] [(.ref kd)])) rfl (hb hby d8_5) (n := 16) (by decide) (by decide) (by decide) (by decide)
  have Z2 : n0 ≤ h2.size := Nat.le_trans Z0 E2.1
  refine own_go st2 ?_
  show OG (T2.setTop (mkF m 7 #[vR o, vR kd, vI x, vR a, .unset] [(.ref b2), (.ref kd)]))
  refine own_static X2 hx hZ hown (wd hw 59 rfl) (wd hw 60 rfl) (wd hw 61 rfl) (wd hw 62 rfl) (by decide) e2 (argsL := [(.ref kd), (.ref b2)]) (rest := []) (rm10 l Z a0 hw [] kd b2 h2 n0 Z2) 0 (by decide) (by decide) (by decide) (by decide) (by rw [hml]; rfl) pd_10 rfl rfl (Nat.le_of_eq rfl) (hb hby d8_7) rfl ?_
  intro v3 T3 L3 X3 hQ3
  obtain ⟨rfl, N3q, e3q⟩ := hQ3
  have N3 := Fr.app N1 N3q
  show OG (T3.setTop (mkF m 10 _ [(.ref kd)]))
  refine own_go (fun _ q => XS.pop X3.here hx rfl (hb hby d8_10) rfl rfl (XS.aloadN X3.here hx rfl (hb hby d8_11) rfl rfl (XS.iloadN X3.here hx rfl (hb hby d8_12) rfl (XS.aloadN X3.here hx rfl (hb hby d8_13) rfl rfl q)))) ?_
  show OG (T3.setTop (mkF m 14 _ [(.ref a), (.int x), (.ref kd)]))
  have f4 := (Ea.ext E2)
  have f5 := (Fc.ext E2)
  have f6 := (Fv.ext E2)
  have f7 := (Av.ext E2)
  have f8 := (Od.ext E2)
  refine own_static X3 hx hZ hown (wd hw 63 rfl) (wd hw 64 rfl) (wd hw 46 rfl) (wd hw 65 rfl) (by decide) e3q (argsL := [(.ref kd), (.int x), (.ref a)]) (rest := []) (rm11 l Z a0 hw [] kd x a v_ N g z fv zc h2 n0 Z2 SC hz0 f8 Ek Fk hx1 SF hfv hz hN hg f4 f5 f6 f7) 0 (by decide) (by decide) (by decide) (by decide) (by rw [hml]; rfl) pd_11 rfl rfl (Nat.le_of_eq rfl) (hb hby d8_14) rfl ?_
  intro v9 T9 L9 X9 hQ9
  obtain ⟨rfl, N9q, e9q⟩ := hQ9
  have N9 := Fr.app N3 N9q
  show OG (T9.setTop (mkF m 17 _ [.null]))
  refine own_go (fun _ q => XS.astore X9.here hx rfl (hb hby d8_17) rfl rfl (l' := #[vR o, vR kd, vI x, vR a, .val .null]) rfl (XS.aload X9.here hx rfl (hb hby d8_19) rfl rfl (XS.ifnullYes X9.here hx rfl (pc0 := 21) (pc' := 34) rfl (hb hby d8_21) rfl (by decide) (by decide) (XS.aloadN X9.here hx rfl (hb hby d8_34) rfl rfl (XS.aloadN X9.here hx rfl (hb hby d8_35) rfl rfl q))))) ?_
  show OG (T9.setTop (mkF m 36 #[vR o, vR kd, vI x, vR a, .val .null] [(.ref kd), (.ref o)]))
  have f11 := (Fo1.ext E2)
  have f12 := (Eo.ext E2)
  obtain ⟨T10, h10, X10, e10, W10, st10⟩ := putF X9 hx hZ hown (host := "") (Or.inl (wd hw 116 rfl)) Via.refl e9q f11 f12 (Or.inr ⟨(wd hw 117 rfl), rfl, hnm⟩) (wd hw 45 rfl) (ty := (.object "com/example/interleave/interleave/core/Operation$Kind")) (by decide) rfl rfl (g := (mkF m 36 #[vR o, vR kd, vI x, vR a, .val .null] [(.ref kd), (.ref o)])) rfl rfl (hb hby d8_36)
  have N10 := Fr.snoc X10 N9 go
  have Fw10 := f11.same W10
  have Z10 : n0 ≤ h10.size := by rw [W10.size]; exact Z2
  refine own_go st10 ?_
  show OG (T10.setTop (mkF m 39 _ []))
  refine own_go (fun _ q => XS.aloadN X10.here hx rfl (hb hby d8_39) rfl rfl (XS.iloadN X10.here hx rfl (hb hby d8_40) rfl q)) ?_
  show OG (T10.setTop (mkF m 41 _ [(.int x), (.ref o)]))
  have f14 := ((Fo2.ext E2).other W10 (Or.inr (slot_ne (Or.inr (wd hw 119 rfl)) (Or.inr (wd hw 117 rfl)) (by decide) (t := .int) (t' := (.object "com/example/interleave/interleave/core/Operation$Kind")) (by decide) (by decide))))
  have f15 := (f12.wr W10)
  obtain ⟨T13, h13, X13, e13, W13, st13⟩ := putF X10 hx hZ hown (host := "") (Or.inl (wd hw 118 rfl)) Via.refl e10 f14 f15 (Or.inr ⟨(wd hw 119 rfl), rfl, hnm⟩) (wd hw 45 rfl) (ty := .int) (by decide) rfl rfl (g := (mkF m 41 #[vR o, vR kd, vI x, vR a, .val .null] [(.int x), (.ref o)])) rfl rfl (hb hby d8_41)
  have N13 := Fr.snoc X13 N10 go
  have Fw13 := f14.same W13
  have Z13 : n0 ≤ h13.size := by rw [W13.size]; exact Z10
  refine own_go st13 ?_
  show OG (T13.setTop (mkF m 44 _ []))
  refine own_go (fun _ q => XS.aloadN X13.here hx rfl (hb hby d8_44) rfl rfl (XS.aloadN X13.here hx rfl (hb hby d8_45) rfl rfl q)) ?_
  show OG (T13.setTop (mkF m 46 #[vR o, vR kd, vI x, vR a, .val .null] [(.ref a), (.ref o)]))
  have f17 := (((Fo3.ext E2).other W10 (Or.inr (slot_ne (Or.inr (wd hw 121 rfl)) (Or.inr (wd hw 117 rfl)) (by decide) (t := (.object "java/lang/String")) (t' := (.object "com/example/interleave/interleave/core/Operation$Kind")) (by decide) (by decide)))).other W13 (Or.inr (slot_ne (Or.inr (wd hw 121 rfl)) (Or.inr (wd hw 119 rfl)) (by decide) (t := (.object "java/lang/String")) (t' := .int) (by decide) (by decide))))
  have f18 := (f15.wr W13)
  obtain ⟨T16, h16, X16, e16, W16, st16⟩ := putF X13 hx hZ hown (host := "") (Or.inl (wd hw 120 rfl)) Via.refl e13 f17 f18 (Or.inr ⟨(wd hw 121 rfl), rfl, hnm⟩) (wd hw 45 rfl) (ty := (.object "java/lang/String")) (by decide) rfl rfl (g := (mkF m 46 #[vR o, vR kd, vI x, vR a, .val .null] [(.ref a), (.ref o)])) rfl rfl (hb hby d8_46)
  have N16 := Fr.snoc X16 N13 go
  have Fw16 := f17.same W16
  have Z16 : n0 ≤ h16.size := by rw [W16.size]; exact Z13
  refine own_go st16 ?_
  show OG (T16.setTop (mkF m 49 _ []))
  have f19 := (f18.wr W16)
  have f20 := ((Fw10.other W13 (Or.inr (slot_ne (Or.inr (wd hw 117 rfl)) (Or.inr (wd hw 119 rfl)) (by decide) (t := (.object "com/example/interleave/interleave/core/Operation$Kind")) (t' := .int) (by decide) (by decide)))).other W16 (Or.inr (slot_ne (Or.inr (wd hw 117 rfl)) (Or.inr (wd hw 121 rfl)) (by decide) (t := (.object "com/example/interleave/interleave/core/Operation$Kind")) (t' := (.object "java/lang/String")) (by decide) (by decide))))
  have f21 := (Fw13.other W16 (Or.inr (slot_ne (Or.inr (wd hw 119 rfl)) (Or.inr (wd hw 121 rfl)) (by decide) (t := .int) (t' := (.object "java/lang/String")) (by decide) (by decide))))
  have K : Keep h0 h16 [o] := (((((Keep.refl h0 [o]).ext E2).wr W10 (Or.inl (List.mem_cons_self ..))).wr W13 (Or.inl (List.mem_cons_self ..))).wr W16 (Or.inl (List.mem_cons_self ..)))
  have hkk : k1 ≤ T16.heap.size := by rw [e16, W16.size, W13.size, W10.size]; exact hk1
  subst e16
  exact own_retWV X16 hS hkk hx hlk hret (hb hby d8_49) (by decide) (by decide) ⟨rfl, N16, K, f19, f20, f21, Fw16⟩
def Q8b (Z : State) (o : Addr) (kd : Addr) (x : Int32) (zc : Int32) (h0 : Heap) (n0 : Nat) (v : Option Value) (h : Heap) (L : List Loc) : Prop := v = none ∧ Fr n0 L ∧ Keep h0 h [o] ∧ Exa Z h o "com/example/interleave/interleave/core/Operation" ∧ Fld Z h o "com/example/interleave/interleave/core/Operation" "kind" "Lcom/example/interleave/interleave/core/Operation$Kind;" (.ref kd) ∧ Fld Z h o "com/example/interleave/interleave/core/Operation" "transaction" "I" (.int x) ∧ Fld Z h o "com/example/interleave/interleave/core/Operation" "item" "Ljava/lang/String;" .null
theorem ef_8b (m : MethodId) (x0 : Addr) (x1 : Addr) (x2 : Int32) : entryFrame m #[(.ref x0), (.ref x1), (.int x2), .null] 5 = mkF m 0 #[vR x0, vR x1, vI x2, .val .null, .unset] [] := by first | (simp [entryFrame, mkF, argsToLocals, Value.category]; done) | rfl
set_option maxRecDepth 65536 in
set_option maxHeartbeats 40000000 in
theorem rm8b (l : Launch) (Z : State) (a0 : Array Value) (hw : ∀ d ∈ tables_1, d.before a0 Z = true) (ws : List Jvm.Cond) (o : Addr) (kd : Addr) (x : Int32) (zc : Int32) (h0 : Heap) (n0 : Nat) (Z0 : n0 ≤ h0.size) (SC : Sta Z Z.heap "java/lang/String" "COMPACT_STRINGS" "Z" (.int zc)) (hz0 : ¬ zc = 0) (Od : Old Z n0 h0) (Eo : Exa Z h0 o "com/example/interleave/interleave/core/Operation") (Fo1 : Fld Z h0 o "com/example/interleave/interleave/core/Operation" "kind" "Lcom/example/interleave/interleave/core/Operation$Kind;" .null) (Fo2 : Fld Z h0 o "com/example/interleave/interleave/core/Operation" "transaction" "I" (.int 0)) (Fo3 : Fld Z h0 o "com/example/interleave/interleave/core/Operation" "item" "Ljava/lang/String;" .null) (go : n0 ≤ o) (Ek : Exa Z Z.heap kd "com/example/interleave/interleave/core/Operation$Kind") (Fk : Fld Z Z.heap kd "com/example/interleave/interleave/core/Operation$Kind" "onItem" "Z" (.int 0)) (hx1 : (1 : Int32).toInt ≤ x.toInt)  :
    own_MetW l Z (⟨"com/example/interleave/interleave/core/Operation", "<init>", "(Lcom/example/interleave/interleave/core/Operation$Kind;ILjava/lang/String;)V"⟩ : MethodName) prog_23_method_1_code 5 none ({ frames := 6, cells := 2, slots := 20, locals := 87 } : Room) ws #[(.ref o), (.ref kd), (.int x), .null] h0 (Q8b Z o kd x zc h0 n0) := by
  refine own_enterW (plainFor_of_name (by first | (simp [plainName, overriddenIn]; done) | decide +kernel)) ?_
  intro p e s m below meth c s₁ hx hby hml hown hnm hlk hret hZ X0 e0
  have N0 := Fr.nil n0
  refine own_go (fun _ q => castTop (ef_8b m o kd x) q) ?_
  show OG (s₁.setTop (mkF m 0 #[vR o, vR kd, vI x, .val .null, .unset] []))
  refine own_go (fun _ q => XS.aloadN X0.here hx rfl (hb hby d8_0) rfl rfl q) ?_
  show OG (s₁.setTop (mkF m 1 _ [(.ref o)]))
  refine own_init X0 hx hZ rfl hown (wd hw 50 rfl) (wd hw 51 rfl) (wd hw 53 rfl) (wd hw 54 rfl) (by decide) e0 (a := o) (argsL := []) (rest := []) (rm9 l Z a0 hw [] o h0 n0 Z0) 0 (by decide) (by decide) (by decide) (by decide) (by rw [hml]; rfl) pd_9 rfl rfl (Nat.le_of_eq rfl) (hb hby d8_1) rfl ?_
  intro v1 T1 L1 X1 hQ1
  obtain ⟨rfl, N1q, e1q⟩ := hQ1
  have N1 := Fr.app N0 N1q
  show OG (T1.setTop (mkF m 4 _ []))
  refine own_go (fun _ q => XS.aloadN X1.here hx rfl (hb hby d8_4) rfl rfl q) ?_
  show OG (T1.setTop (mkF m 5 #[vR o, vR kd, vI x, .val .null, .unset] [(.ref kd)]))
  have wS : ∀ d ∈ Bundle.stringAtoms, d.before a0 Z = true := fun d hd => hw d ((by decide +kernel : ∀ d ∈ Bundle.stringAtoms, d ∈ tables_1) d hd)
  obtain ⟨b2, T2, h2, k1, X2, e2, E2, hS, hk1, hZ, hown, st2⟩ := ldcS (s := s) (vm0 := s.vm) X1 hx hZ hown (wd hw 56 rfl) wS e1q (own_since s 0) (Nat.zero_le _) (g := (mkF m 5 #[vR o, vR kd, vI x, .val .null, .unset] [(.ref kd)])) rfl (hb hby d8_5) (n := 16) (by decide) (by decide) (by decide) (by decide)
  have Z2 : n0 ≤ h2.size := Nat.le_trans Z0 E2.1
  refine own_go st2 ?_
  show OG (T2.setTop (mkF m 7 #[vR o, vR kd, vI x, .val .null, .unset] [(.ref b2), (.ref kd)]))
  refine own_static X2 hx hZ hown (wd hw 59 rfl) (wd hw 60 rfl) (wd hw 61 rfl) (wd hw 62 rfl) (by decide) e2 (argsL := [(.ref kd), (.ref b2)]) (rest := []) (rm10 l Z a0 hw [] kd b2 h2 n0 Z2) 0 (by decide) (by decide) (by decide) (by decide) (by rw [hml]; rfl) pd_10 rfl rfl (Nat.le_of_eq rfl) (hb hby d8_7) rfl ?_
  intro v3 T3 L3 X3 hQ3
  obtain ⟨rfl, N3q, e3q⟩ := hQ3
  have N3 := Fr.app N1 N3q
  show OG (T3.setTop (mkF m 10 _ [(.ref kd)]))
  refine own_go (fun _ q => XS.pop X3.here hx rfl (hb hby d8_10) rfl rfl (XS.aloadN X3.here hx rfl (hb hby d8_11) rfl rfl (XS.iloadN X3.here hx rfl (hb hby d8_12) rfl (XS.aloadN X3.here hx rfl (hb hby d8_13) rfl rfl q)))) ?_
  show OG (T3.setTop (mkF m 14 _ [.null, (.int x), (.ref kd)]))
  have f4 := (Od.ext E2)
  refine own_static X3 hx hZ hown (wd hw 63 rfl) (wd hw 64 rfl) (wd hw 46 rfl) (wd hw 65 rfl) (by decide) e3q (argsL := [(.ref kd), (.int x), .null]) (rest := []) (rm11b l Z a0 hw [] kd x zc h2 n0 Z2 SC hz0 f4 Ek Fk hx1) 0 (by decide) (by decide) (by decide) (by decide) (by rw [hml]; rfl) pd_11 rfl rfl (Nat.le_of_eq rfl) (hb hby d8_14) rfl ?_
  intro v5 T5 L5 X5 hQ5
  obtain ⟨rfl, N5q, e5q⟩ := hQ5
  have N5 := Fr.app N3 N5q
  show OG (T5.setTop (mkF m 17 _ [.null]))
  refine own_go (fun _ q => XS.astore X5.here hx rfl (hb hby d8_17) rfl rfl (l' := #[vR o, vR kd, vI x, .val .null, .val .null]) rfl (XS.aload X5.here hx rfl (hb hby d8_19) rfl rfl (XS.ifnullYes X5.here hx rfl (pc0 := 21) (pc' := 34) rfl (hb hby d8_21) rfl (by decide) (by decide) (XS.aloadN X5.here hx rfl (hb hby d8_34) rfl rfl (XS.aloadN X5.here hx rfl (hb hby d8_35) rfl rfl q))))) ?_
  show OG (T5.setTop (mkF m 36 #[vR o, vR kd, vI x, .val .null, .val .null] [(.ref kd), (.ref o)]))
  have f7 := (Fo1.ext E2)
  have f8 := (Eo.ext E2)
  obtain ⟨T6, h6, X6, e6, W6, st6⟩ := putF X5 hx hZ hown (host := "") (Or.inl (wd hw 116 rfl)) Via.refl e5q f7 f8 (Or.inr ⟨(wd hw 117 rfl), rfl, hnm⟩) (wd hw 45 rfl) (ty := (.object "com/example/interleave/interleave/core/Operation$Kind")) (by decide) rfl rfl (g := (mkF m 36 #[vR o, vR kd, vI x, .val .null, .val .null] [(.ref kd), (.ref o)])) rfl rfl (hb hby d8_36)
  have N6 := Fr.snoc X6 N5 go
  have Fw6 := f7.same W6
  have Z6 : n0 ≤ h6.size := by rw [W6.size]; exact Z2
  refine own_go st6 ?_
  show OG (T6.setTop (mkF m 39 _ []))
  refine own_go (fun _ q => XS.aloadN X6.here hx rfl (hb hby d8_39) rfl rfl (XS.iloadN X6.here hx rfl (hb hby d8_40) rfl q)) ?_
  show OG (T6.setTop (mkF m 41 _ [(.int x), (.ref o)]))
  have f10 := ((Fo2.ext E2).other W6 (Or.inr (slot_ne (Or.inr (wd hw 119 rfl)) (Or.inr (wd hw 117 rfl)) (by decide) (t := .int) (t' := (.object "com/example/interleave/interleave/core/Operation$Kind")) (by decide) (by decide))))
  have f11 := (f8.wr W6)
  obtain ⟨T9, h9, X9, e9, W9, st9⟩ := putF X6 hx hZ hown (host := "") (Or.inl (wd hw 118 rfl)) Via.refl e6 f10 f11 (Or.inr ⟨(wd hw 119 rfl), rfl, hnm⟩) (wd hw 45 rfl) (ty := .int) (by decide) rfl rfl (g := (mkF m 41 #[vR o, vR kd, vI x, .val .null, .val .null] [(.int x), (.ref o)])) rfl rfl (hb hby d8_41)
  have N9 := Fr.snoc X9 N6 go
  have Fw9 := f10.same W9
  have Z9 : n0 ≤ h9.size := by rw [W9.size]; exact Z6
  refine own_go st9 ?_
  show OG (T9.setTop (mkF m 44 _ []))
  refine own_go (fun _ q => XS.aloadN X9.here hx rfl (hb hby d8_44) rfl rfl (XS.aloadN X9.here hx rfl (hb hby d8_45) rfl rfl q)) ?_
  show OG (T9.setTop (mkF m 46 #[vR o, vR kd, vI x, .val .null, .val .null] [.null, (.ref o)]))
  have f13 := (((Fo3.ext E2).other W6 (Or.inr (slot_ne (Or.inr (wd hw 121 rfl)) (Or.inr (wd hw 117 rfl)) (by decide) (t := (.object "java/lang/String")) (t' := (.object "com/example/interleave/interleave/core/Operation$Kind")) (by decide) (by decide)))).other W9 (Or.inr (slot_ne (Or.inr (wd hw 121 rfl)) (Or.inr (wd hw 119 rfl)) (by decide) (t := (.object "java/lang/String")) (t' := .int) (by decide) (by decide))))
  have f14 := (f11.wr W9)
  obtain ⟨T12, h12, X12, e12, W12, st12⟩ := putF X9 hx hZ hown (host := "") (Or.inl (wd hw 120 rfl)) Via.refl e9 f13 f14 (Or.inr ⟨(wd hw 121 rfl), rfl, hnm⟩) (wd hw 45 rfl) (ty := (.object "java/lang/String")) (by decide) rfl rfl (g := (mkF m 46 #[vR o, vR kd, vI x, .val .null, .val .null] [.null, (.ref o)])) rfl rfl (hb hby d8_46)
  have N12 := Fr.snoc X12 N9 go
  have Fw12 := f13.same W12
  have Z12 : n0 ≤ h12.size := by rw [W12.size]; exact Z9
  refine own_go st12 ?_
  show OG (T12.setTop (mkF m 49 _ []))
  have f15 := (f14.wr W12)
  have f16 := ((Fw6.other W9 (Or.inr (slot_ne (Or.inr (wd hw 117 rfl)) (Or.inr (wd hw 119 rfl)) (by decide) (t := (.object "com/example/interleave/interleave/core/Operation$Kind")) (t' := .int) (by decide) (by decide)))).other W12 (Or.inr (slot_ne (Or.inr (wd hw 117 rfl)) (Or.inr (wd hw 121 rfl)) (by decide) (t := (.object "com/example/interleave/interleave/core/Operation$Kind")) (t' := (.object "java/lang/String")) (by decide) (by decide))))
  have f17 := (Fw9.other W12 (Or.inr (slot_ne (Or.inr (wd hw 119 rfl)) (Or.inr (wd hw 121 rfl)) (by decide) (t := .int) (t' := (.object "java/lang/String")) (by decide) (by decide))))
  have K : Keep h0 h12 [o] := (((((Keep.refl h0 [o]).ext E2).wr W6 (Or.inl (List.mem_cons_self ..))).wr W9 (Or.inl (List.mem_cons_self ..))).wr W12 (Or.inl (List.mem_cons_self ..)))
  have hkk : k1 ≤ T12.heap.size := by rw [e12, W12.size, W9.size, W6.size]; exact hk1
  subst e12
  exact own_retWV X12 hS hkk hx hlk hret (hb hby d8_49) (by decide) (by decide) ⟨rfl, N12, K, f15, f16, f17, Fw12⟩
abbrev C25 := jdk_68_method_2_code
theorem d25_0 : decode C25 0 = .ok (.aload_n 0, 1) := by decide +kernel
theorem d25_1 : decode C25 1 = .ok (.invokespecial 3, 3) := by decide +kernel
theorem d25_4 : decode C25 4 = .ok (.getstatic 18, 3) := by decide +kernel
theorem d25_7 : decode C25 7 = .ok (.ifCond .eq 18, 3) := by decide +kernel
theorem d25_10 : decode C25 10 = .ok (.aload_n 0, 1) := by decide +kernel
theorem d25_11 : decode C25 11 = .ok (.iload_n 1, 1) := by decide +kernel
theorem d25_12 : decode C25 12 = .ok (.newarray .byte, 2) := by decide +kernel
theorem d25_14 : decode C25 14 = .ok (.putfield 15, 3) := by decide +kernel
theorem d25_17 : decode C25 17 = .ok (.aload_n 0, 1) := by decide +kernel
theorem d25_18 : decode C25 18 = .ok (.iconst 0, 1) := by decide +kernel
theorem d25_19 : decode C25 19 = .ok (.putfield 22, 3) := by decide +kernel
theorem d25_22 : decode C25 22 = .ok (.goto 16, 3) := by decide +kernel
theorem d25_38 : decode C25 38 = .ok (.return_, 1) := by decide +kernel
def Q25 (Z : State) (b : Addr) (zc : Int32) (h0 : Heap) (n0 : Nat) (v : Option Value) (h : Heap) (L : List Loc) : Prop := v = none ∧ Fr n0 L ∧ Keep h0 h [b] ∧ ∃ w : Addr, n0 ≤ w ∧ h0.size ≤ w ∧ own_SB Z h b w 16 (0 : Int32) (fun _ => none)
theorem ef_25 (m : MethodId) (x0 : Addr) (x1 : Int32) : entryFrame m #[(.ref x0), (.int x1)] 2 = mkF m 0 #[vR x0, vI x1] [] := by first | (simp [entryFrame, mkF, argsToLocals, Value.category]; done) | rfl
set_option maxRecDepth 65536 in
set_option maxHeartbeats 40000000 in
theorem rm25 (l : Launch) (Z : State) (a0 : Array Value) (hw : ∀ d ∈ tables_1, d.before a0 Z = true) (ws : List Jvm.Cond) (b : Addr) (zc : Int32) (h0 : Heap) (n0 : Nat) (Z0 : n0 ≤ h0.size) (SC : Sta Z Z.heap "java/lang/String" "COMPACT_STRINGS" "Z" (.int zc)) (hz0 : ¬ zc = 0) (Od : Old Z n0 h0) (Eb : Exa Z h0 b "java/lang/StringBuilder") (F1 : Fld Z h0 b "java/lang/AbstractStringBuilder" "value" "[B" .null) (F2 : Fld Z h0 b "java/lang/AbstractStringBuilder" "coder" "B" (.int 0)) (F3 : Fld Z h0 b "java/lang/AbstractStringBuilder" "count" "I" (.int 0)) (gb : n0 ≤ b) :
    own_Met l Z (⟨"java/lang/AbstractStringBuilder", "<init>", "(I)V"⟩ : MethodName) jdk_68_method_2_code 2 none ({ frames := 1, cells := 1, slots := 16, locals := 12 } : Room) ws #[(.ref b), (.int (16 : Int32))] h0 (Q25 Z b zc h0 n0) := by
  refine own_enter (plainFor_of_name (by first | (simp [plainName, overriddenIn]; done) | decide +kernel)) ?_
  intro p e s m below meth c s₁ hx hby hml hown hnm hlk hret hZ X0 e0
  have N0 := Fr.nil n0
  refine own_go (fun _ q => castTop (ef_25 m b (16 : Int32)) q) ?_
  show OG (s₁.setTop (mkF m 0 #[vR b, vI (16 : Int32)] []))
  refine own_go (fun _ q => XS.aloadN X0.here hx rfl (hb hby d25_0) rfl rfl q) ?_
  show OG (s₁.setTop (mkF m 1 _ [(.ref b)]))
  obtain ⟨T1, X1, e1, st1⟩ := initO X0 hx hZ hown (wd hw 139 rfl) (wd hw 20 rfl) (wd hw 21 rfl) e0 (g := (mkF m 1 #[vR b, vI (16 : Int32)] [(.ref b)])) rfl (by rw [hml]; rfl) rfl (hb hby d25_1) (by decide) (W := 0) (by show 2 * 0 + _ ≤ _; exact Nat.le_of_eq rfl) (by decide)
  refine own_go st1 ?_
  show OG (T1.setTop (mkF m 4 _ []))
  obtain ⟨T2, X2, e2, st2⟩ := getS2 X1 hx hZ hown (host := "") (Or.inl (wd hw 140 rfl)) Via.refl e1 (SC.ext Od.2) (g := (mkF m 4 #[vR b, vI (16 : Int32)] [])) rfl (hb hby d25_4)
  refine own_go st2 ?_
  show OG (T2.setTop (mkF m 7 _ [(.int zc)]))
  refine own_go (fun _ q => XS.ifNo X2.here hx rfl (hb hby d25_7) rfl ((if0 _ _).trans (feq hz0).1) q) ?_
  show OG (T2.setTop (mkF m 10 #[vR b, vI (16 : Int32)] []))
  refine own_go (fun _ q => XS.aloadN X2.here hx rfl (hb hby d25_10) rfl rfl (XS.iloadN X2.here hx rfl (hb hby d25_11) rfl q)) ?_
  show OG (T2.setTop (mkF m 12 _ [(.int (16 : Int32)), (.ref b)]))
  obtain ⟨T3, h3, k3, X3, e3, E3, Aw3, Ex3, st3⟩ := newPE X2 hx hZ (wd hw 27 rfl) e2 (g := (mkF m 12 #[vR b, vI (16 : Int32)] [(.int (16 : Int32)), (.ref b)])) rfl (hb hby d25_12) rfl (by decide) (cap := 16) (by decide) (by decide) (by decide) (by decide) (ad := "[B") (by decide)
  obtain ⟨b3, g3⟩ : ∃ z, z = h0.size := ⟨_, rfl⟩
  rw [← g3] at Aw3 Ex3 st3
  have A3 := own_By.new (nn := 16) Aw3 (by decide) rfl rfl
  have nq4 : b ≠ b3 := Nat.ne_of_lt (Nat.lt_of_lt_of_eq (Eb).lt g3.symm)
  have y3 : h0.size ≤ b3 := Nat.le_trans (Nat.le_refl _) (Nat.le_of_eq g3.symm)
  have G3 : n0 ≤ b3 := Nat.le_trans Z0 (Nat.le_of_eq g3.symm)
  have Z3 : n0 ≤ h3.size := Nat.le_trans Z0 E3.1
  refine own_go st3 ?_
  show OG (T3.setTop (mkF m 14 _ [(.ref b3), (.ref b)]))
  have f6 := (F1.ext E3)
  have f7 := (Eb.ext E3)
  obtain ⟨T5, h5, X5, e5, W5, st5⟩ := putF X3 hx hZ hown (host := "") (Or.inl (wd hw 141 rfl)) Via.refl e3 f6 f7 (Or.inl (wd hw 142 rfl)) (wd hw 128 rfl) (ty := (.array .byte)) (by decide) rfl rfl (g := (mkF m 14 #[vR b, vI (16 : Int32)] [(.ref b3), (.ref b)])) rfl rfl (hb hby d25_14)
  have N5 := Fr.snoc X5 N0 gb
  have Fw5 := f6.same W5
  have Z5 : n0 ≤ h5.size := by rw [W5.size]; exact Z3
  refine own_go st5 ?_
  show OG (T5.setTop (mkF m 17 _ []))
  refine own_go (fun _ q => XS.aloadN X5.here hx rfl (hb hby d25_17) rfl rfl (XS.iconst X5.here hx rfl (hb hby d25_18) q)) ?_
  show OG (T5.setTop (mkF m 19 #[vR b, vI (16 : Int32)] [(.int (0 : Int32)), (.ref b)]))
  have f9 := ((F2.ext E3).other W5 (Or.inr (slot_ne (Or.inl (wd hw 144 rfl)) (Or.inl (wd hw 142 rfl)) (by decide) (t := .byte) (t' := (.array .byte)) (by decide) (by decide))))
  have f10 := (f7.wr W5)
  obtain ⟨T8, h8, X8, e8, W8, st8⟩ := putFN X5 hx hZ hown (wd hw 143 rfl) Via.refl e5 f9 f10 (Or.inl (wd hw 144 rfl)) (wd hw 128 rfl) (ty := .byte) (v' := (.int (0 : Int32))) (by decide) rfl rfl (g := (mkF m 19 #[vR b, vI (16 : Int32)] [(.int (0 : Int32)), (.ref b)])) rfl rfl (hb hby d25_19)
  have N8 := Fr.snoc X8 N5 gb
  have Fw8 := f9.same W8
  have Z8 : n0 ≤ h8.size := by rw [W8.size]; exact Z5
  refine own_go st8 ?_
  show OG (T8.setTop (mkF m 22 _ []))
  refine own_go (fun _ q => XS.goto X8.here hx rfl (pc0 := 22) (pc' := 38) rfl (hb hby d25_22) (by decide) (by decide) q) ?_
  show OG (T8.setTop (mkF m 38 _ []))
  have f11 := (f10.wr W8)
  have f12 := (Fw5.other W8 (Or.inr (slot_ne (Or.inl (wd hw 142 rfl)) (Or.inl (wd hw 144 rfl)) (by decide) (t := (.array .byte)) (t' := .byte) (by decide) (by decide))))
  have f13 := (((F3.ext E3).other W5 (Or.inr (slot_ne (Or.inl (wd hw 163 rfl)) (Or.inl (wd hw 142 rfl)) (by decide) (t := .int) (t' := (.array .byte)) (by decide) (by decide)))).other W8 (Or.inr (slot_ne (Or.inl (wd hw 163 rfl)) (Or.inl (wd hw 144 rfl)) (by decide) (t := .int) (t' := .byte) (by decide) (by decide))))
  have f14 := ((A3.other W5 (Ne.symm nq4)).other W8 (Ne.symm nq4))
  have f15 := ((Ex3.wr W5).wr W8)
  have K : Keep h0 h8 [b] := ((((Keep.refl h0 [b]).ext E3).wr W5 (Or.inl (List.mem_cons_self ..))).wr W8 (Or.inl (List.mem_cons_self ..)))
  subst e8
  exact own_retV X8 hx hlk hret (hb hby d25_38) (by decide) (by decide) ⟨rfl, N8, K, b3, G3, y3, ⟨f11, f12, Fw8, f13, f14, f15⟩⟩
abbrev C24 := jdk_67_method_1_code
theorem d24_0 : decode C24 0 = .ok (.aload_n 0, 1) := by decide +kernel
theorem d24_1 : decode C24 1 = .ok (.bipush 16, 2) := by decide +kernel
theorem d24_3 : decode C24 3 = .ok (.invokespecial 1, 3) := by decide +kernel
theorem d24_6 : decode C24 6 = .ok (.return_, 1) := by decide +kernel
def Q24 (Z : State) (b : Addr) (zc : Int32) (h0 : Heap) (n0 : Nat) (v : Option Value) (h : Heap) (L : List Loc) : Prop := v = none ∧ Fr n0 L ∧ Keep h0 h [b] ∧ ∃ w : Addr, n0 ≤ w ∧ h0.size ≤ w ∧ own_SB Z h b w 16 (0 : Int32) (fun _ => none)
theorem ef_24 (m : MethodId) (x0 : Addr) : entryFrame m #[(.ref x0)] 1 = mkF m 0 #[vR x0] [] := by first | (simp [entryFrame, mkF, argsToLocals, Value.category]; done) | rfl
set_option maxRecDepth 65536 in
set_option maxHeartbeats 40000000 in
theorem rm24 (l : Launch) (Z : State) (a0 : Array Value) (hw : ∀ d ∈ tables_1, d.before a0 Z = true) (ws : List Jvm.Cond) (b : Addr) (zc : Int32) (h0 : Heap) (n0 : Nat) (Z0 : n0 ≤ h0.size) (SC : Sta Z Z.heap "java/lang/String" "COMPACT_STRINGS" "Z" (.int zc)) (hz0 : ¬ zc = 0) (Od : Old Z n0 h0) (Eb : Exa Z h0 b "java/lang/StringBuilder") (F1 : Fld Z h0 b "java/lang/AbstractStringBuilder" "value" "[B" .null) (F2 : Fld Z h0 b "java/lang/AbstractStringBuilder" "coder" "B" (.int 0)) (F3 : Fld Z h0 b "java/lang/AbstractStringBuilder" "count" "I" (.int 0)) (gb : n0 ≤ b) :
    own_Met l Z (⟨"java/lang/StringBuilder", "<init>", "()V"⟩ : MethodName) jdk_67_method_1_code 1 none ({ frames := 2, cells := 1, slots := 16, locals := 26 } : Room) ws #[(.ref b)] h0 (Q24 Z b zc h0 n0) := by
  refine own_enter (plainFor_of_name (by first | (simp [plainName, overriddenIn]; done) | decide +kernel)) ?_
  intro p e s m below meth c s₁ hx hby hml hown hnm hlk hret hZ X0 e0
  have N0 := Fr.nil n0
  refine own_go (fun _ q => castTop (ef_24 m b) q) ?_
  show OG (s₁.setTop (mkF m 0 #[vR b] []))
  refine own_go (fun _ q => XS.aloadN X0.here hx rfl (hb hby d24_0) rfl rfl (XS.bipush X0.here hx rfl (hb hby d24_1) q)) ?_
  show OG (s₁.setTop (mkF m 3 _ [(.int (16 : Int32)), (.ref b)]))
  refine own_init X0 hx hZ rfl hown (wd hw 133 rfl) (wd hw 134 rfl) (wd hw 137 rfl) (wd hw 138 rfl) (by decide) e0 (a := b) (argsL := [(.int (16 : Int32))]) (rest := []) (rm25 l Z a0 hw [] b zc h0 n0 Z0 SC hz0 Od Eb F1 F2 F3 gb) 0 (by decide) (by decide) (by decide) (by decide) (by rw [hml]; rfl) pd_12 rfl rfl (Nat.le_of_eq rfl) (hb hby d24_3) rfl ?_
  intro v1 T1 L1 X1 hQ1
  obtain ⟨rfl, N1q, K1, w1, G1, G2, G3⟩ := hQ1
  have N1 := Fr.app N0 N1q
  show OG (T1.setTop (mkF m 6 _ []))
  exact own_retV X1 hx hlk hret (hb hby d24_6) (by decide) (by decide) ⟨rfl, N1, K1, w1, G1, G2, G3⟩
abbrev C30 := jdk_68_method_68_code
theorem d30_0 : decode C30 0 = .ok (.getstatic 18, 3) := by decide +kernel
theorem d30_3 : decode C30 3 = .ok (.ifCond .eq 14, 3) := by decide +kernel
theorem d30_6 : decode C30 6 = .ok (.aload_n 0, 1) := by decide +kernel
theorem d30_7 : decode C30 7 = .ok (.getfield 22, 3) := by decide +kernel
theorem d30_10 : decode C30 10 = .ok (.ifCond .ne 7, 3) := by decide +kernel
theorem d30_13 : decode C30 13 = .ok (.iconst 1, 1) := by decide +kernel
theorem d30_14 : decode C30 14 = .ok (.goto 4, 3) := by decide +kernel
theorem d30_18 : decode C30 18 = .ok (.ireturn, 1) := by decide +kernel
def Q30 (Z : State) (b : Addr) (zc : Int32) (h0 : Heap) (n0 : Nat) (v : Option Value) (h : Heap) (L : List Loc) : Prop := v = some (.int 1) ∧ Fr n0 L ∧ h = h0
theorem ef_30 (m : MethodId) (x0 : Addr) : entryFrame m #[(.ref x0)] 1 = mkF m 0 #[vR x0] [] := by first | (simp [entryFrame, mkF, argsToLocals, Value.category]; done) | rfl
set_option maxRecDepth 65536 in
set_option maxHeartbeats 40000000 in
theorem rm30 (l : Launch) (Z : State) (a0 : Array Value) (hw : ∀ d ∈ tables_1, d.before a0 Z = true) (ws : List Jvm.Cond) (b : Addr) (zc : Int32) (h0 : Heap) (n0 : Nat) (Z0 : n0 ≤ h0.size) (SC : Sta Z Z.heap "java/lang/String" "COMPACT_STRINGS" "Z" (.int zc)) (hz0 : ¬ zc = 0) (Od : Old Z n0 h0) (Fc : Fld Z h0 b "java/lang/AbstractStringBuilder" "coder" "B" (.int 0)) :
    own_Met l Z (⟨"java/lang/AbstractStringBuilder", "isLatin1", "()Z"⟩ : MethodName) jdk_68_method_68_code 1 (some .boolean) ({ frames := 0, cells := 0, slots := 0, locals := 0 } : Room) ws #[(.ref b)] h0 (Q30 Z b zc h0 n0) := by
  refine own_enter (plainFor_of_name (by first | (simp [plainName, overriddenIn]; done) | decide +kernel)) ?_
  intro p e s m below meth c s₁ hx hby hml hown hnm hlk hret hZ X0 e0
  have N0 := Fr.nil n0
  refine own_go (fun _ q => castTop (ef_30 m b) q) ?_
  show OG (s₁.setTop (mkF m 0 #[vR b] []))
  obtain ⟨T1, X1, e1, st1⟩ := getS2 X0 hx hZ hown (host := "") (Or.inl (wd hw 140 rfl)) Via.refl e0 (SC.ext Od.2) (g := (mkF m 0 #[vR b] [])) rfl (hb hby d30_0)
  refine own_go st1 ?_
  show OG (T1.setTop (mkF m 3 _ [(.int zc)]))
  refine own_go (fun _ q => XS.ifNo X1.here hx rfl (hb hby d30_3) rfl ((if0 _ _).trans (feq hz0).1) q) ?_
  show OG (T1.setTop (mkF m 6 #[vR b] []))
  refine own_go (fun _ q => XS.aloadN X1.here hx rfl (hb hby d30_6) rfl rfl q) ?_
  show OG (T1.setTop (mkF m 7 _ [(.ref b)]))
  obtain ⟨T2, X2, e2, st2⟩ := getF X1 hx hZ hown (host := "") (Or.inl (wd hw 143 rfl)) Via.refl e1 Fc (g := (mkF m 7 #[vR b] [(.ref b)])) rfl rfl (hb hby d30_7)
  refine own_go st2 ?_
  show OG (T2.setTop (mkF m 10 _ [(.int (0 : Int32))]))
  refine own_go (fun _ q => XS.ifNo X2.here hx rfl (hb hby d30_10) rfl ((if0 _ _).trans (teq (by decide : (0 : Int32) = (0 : Int32))).2) q) ?_
  show OG (T2.setTop (mkF m 13 #[vR b] []))
  refine own_go (fun _ q => XS.iconst X2.here hx rfl (hb hby d30_13) (XS.goto X2.here hx rfl (pc0 := 14) (pc' := 18) rfl (hb hby d30_14) (by decide) (by decide) q)) ?_
  show OG (T2.setTop (mkF m 18 _ [(.int (1 : Int32))]))
  exact own_retZ X2 hx hlk hret (hb hby d30_18) (by decide) (by decide) (by decide) ⟨rfl, N0, e2⟩
abbrev C31 := jdk_43_method_3_code
theorem d31_0 : decode C31 0 = .ok (.iload_n 0, 1) := by decide +kernel
theorem d31_1 : decode C31 1 = .ok (.sipush 255, 3) := by decide +kernel
theorem d31_4 : decode C31 4 = .ok (.if_icmp .gt 7, 3) := by decide +kernel
theorem d31_7 : decode C31 7 = .ok (.iconst 1, 1) := by decide +kernel
theorem d31_8 : decode C31 8 = .ok (.goto 4, 3) := by decide +kernel
theorem d31_12 : decode C31 12 = .ok (.ireturn, 1) := by decide +kernel
def Q31 (Z : State) (c0 : Int32) (h0 : Heap) (n0 : Nat) (v : Option Value) (h : Heap) (L : List Loc) : Prop := v = some (.int 1) ∧ Fr n0 L ∧ h = h0
theorem ef_31 (m : MethodId) (x0 : Int32) : entryFrame m #[(.int x0)] 1 = mkF m 0 #[vI x0] [] := by first | (simp [entryFrame, mkF, argsToLocals, Value.category]; done) | rfl
set_option maxRecDepth 65536 in
set_option maxHeartbeats 40000000 in
theorem rm31 (l : Launch) (Z : State) (a0 : Array Value) (hw : ∀ d ∈ tables_1, d.before a0 Z = true) (ws : List Jvm.Cond) (c0 : Int32) (h0 : Heap) (n0 : Nat) (Z0 : n0 ≤ h0.size) (hc0 : ¬ (255 : Int32) < c0) :
    own_Met l Z (⟨"java/lang/StringLatin1", "canEncode", "(C)Z"⟩ : MethodName) jdk_43_method_3_code 1 (some .boolean) ({ frames := 0, cells := 0, slots := 0, locals := 0 } : Room) ws #[(.int c0)] h0 (Q31 Z c0 h0 n0) := by
  refine own_enter (plainFor_of_name (by first | (simp [plainName, overriddenIn]; done) | decide +kernel)) ?_
  intro p e s m below meth c s₁ hx hby hml hown hnm hlk hret hZ X0 e0
  have N0 := Fr.nil n0
  refine own_go (fun _ q => castTop (ef_31 m c0) q) ?_
  show OG (s₁.setTop (mkF m 0 #[vI c0] []))
  refine own_go (fun _ q => XS.iloadN X0.here hx rfl (hb hby d31_0) rfl (XS.sipush X0.here hx rfl (hb hby d31_1) q)) ?_
  show OG (s₁.setTop (mkF m 4 _ [(.int (255 : Int32)), (.int c0)]))
  refine own_go (fun _ q => XS.icmpNo X0.here hx rfl (hb hby d31_4) rfl (flt hc0).2.2.1 q) ?_
  show OG (s₁.setTop (mkF m 7 #[vI c0] []))
  refine own_go (fun _ q => XS.iconst X0.here hx rfl (hb hby d31_7) (XS.goto X0.here hx rfl (pc0 := 8) (pc' := 12) rfl (hb hby d31_8) (by decide) (by decide) q)) ?_
  show OG (s₁.setTop (mkF m 12 _ [(.int (1 : Int32))]))
  exact own_retZ X0 hx hlk hret (hb hby d31_12) (by decide) (by decide) (by decide) ⟨rfl, N0, e0⟩
abbrev C56 := jdk_29_method_65_code
theorem d56_0 : decode C56 0 = .ok (.iload_n 0, 1) := by decide +kernel
theorem d56_1 : decode C56 1 = .ok (.iload_n 1, 1) := by decide +kernel
theorem d56_2 : decode C56 2 = .ok (.if_icmp .lt 7, 3) := by decide +kernel
theorem d56_9 : decode C56 9 = .ok (.iload_n 1, 1) := by decide +kernel
theorem d56_10 : decode C56 10 = .ok (.ireturn, 1) := by decide +kernel
def Q56 (Z : State) (x : Int32) (y : Int32) (h0 : Heap) (n0 : Nat) (v : Option Value) (h : Heap) (L : List Loc) : Prop := v = some (.int y) ∧ Fr n0 L ∧ h = h0
theorem ef_56 (m : MethodId) (x0 : Int32) (x1 : Int32) : entryFrame m #[(.int x0), (.int x1)] 2 = mkF m 0 #[vI x0, vI x1] [] := by first | (simp [entryFrame, mkF, argsToLocals, Value.category]; done) | rfl
set_option maxRecDepth 65536 in
set_option maxHeartbeats 40000000 in
theorem rm56 (l : Launch) (Z : State) (a0 : Array Value) (hw : ∀ d ∈ tables_1, d.before a0 Z = true) (ws : List Jvm.Cond) (x : Int32) (y : Int32) (h0 : Heap) (n0 : Nat) (Z0 : n0 ≤ h0.size) (hxy : x < y) :
    own_Met l Z (⟨"java/lang/Math", "max", "(II)I"⟩ : MethodName) jdk_29_method_65_code 2 (some .int) ({ frames := 0, cells := 0, slots := 0, locals := 0 } : Room) ws #[(.int x), (.int y)] h0 (Q56 Z x y h0 n0) := by
  refine own_enter (Jvm.Free.JP.mathPlain rfl (by decide +kernel)) ?_
  intro p e s m below meth c s₁ hx hby hml hown hnm hlk hret hZ X0 e0
  have N0 := Fr.nil n0
  refine own_go (fun _ q => castTop (ef_56 m x y) q) ?_
  show OG (s₁.setTop (mkF m 0 #[vI x, vI y] []))
  refine own_go (fun _ q => XS.iloadN X0.here hx rfl (hb hby d56_0) rfl (XS.iloadN X0.here hx rfl (hb hby d56_1) rfl q)) ?_
  show OG (s₁.setTop (mkF m 2 _ [(.int y), (.int x)]))
  refine own_go (fun _ q => XS.icmpYes X0.here hx rfl (pc0 := 2) (pc' := 9) rfl (hb hby d56_2) rfl (tlt hxy).1 (by decide) (by decide) q) ?_
  show OG (s₁.setTop (mkF m 9 #[vI x, vI y] []))
  refine own_go (fun _ q => XS.iloadN X0.here hx rfl (hb hby d56_9) rfl q) ?_
  show OG (s₁.setTop (mkF m 10 _ [(.int y)]))
  exact own_retI X0 hx hlk hret (hb hby d56_10) (by decide) (by decide) ⟨rfl, N0, e0⟩
abbrev C50 := jdk_29_method_69_code
theorem d50_0 : decode C50 0 = .ok (.iload_n 0, 1) := by decide +kernel
theorem d50_1 : decode C50 1 = .ok (.iload_n 1, 1) := by decide +kernel
theorem d50_2 : decode C50 2 = .ok (.if_icmp .gt 7, 3) := by decide +kernel
theorem d50_5 : decode C50 5 = .ok (.iload_n 0, 1) := by decide +kernel
theorem d50_6 : decode C50 6 = .ok (.goto 4, 3) := by decide +kernel
theorem d50_9 : decode C50 9 = .ok (.iload_n 1, 1) := by decide +kernel
theorem d50_10 : decode C50 10 = .ok (.ireturn, 1) := by decide +kernel
def Q50 (Z : State) (x : Int32) (y : Int32) (h0 : Heap) (n0 : Nat) (v : Option Value) (h : Heap) (L : List Loc) : Prop := v = some (.int x) ∧ Fr n0 L ∧ h = h0
theorem ef_50 (m : MethodId) (x0 : Int32) (x1 : Int32) : entryFrame m #[(.int x0), (.int x1)] 2 = mkF m 0 #[vI x0, vI x1] [] := by first | (simp [entryFrame, mkF, argsToLocals, Value.category]; done) | rfl
set_option maxRecDepth 65536 in
set_option maxHeartbeats 40000000 in
theorem rm50 (l : Launch) (Z : State) (a0 : Array Value) (hw : ∀ d ∈ tables_1, d.before a0 Z = true) (ws : List Jvm.Cond) (x : Int32) (y : Int32) (h0 : Heap) (n0 : Nat) (Z0 : n0 ≤ h0.size) (hxy : ¬ y < x) :
    own_Met l Z (⟨"java/lang/Math", "min", "(II)I"⟩ : MethodName) jdk_29_method_69_code 2 (some .int) ({ frames := 0, cells := 0, slots := 0, locals := 0 } : Room) ws #[(.int x), (.int y)] h0 (Q50 Z x y h0 n0) := by
  refine own_enter (Jvm.Free.JP.mathPlain rfl (by decide +kernel)) ?_
  intro p e s m below meth c s₁ hx hby hml hown hnm hlk hret hZ X0 e0
  have N0 := Fr.nil n0
  refine own_go (fun _ q => castTop (ef_50 m x y) q) ?_
  show OG (s₁.setTop (mkF m 0 #[vI x, vI y] []))
  refine own_go (fun _ q => XS.iloadN X0.here hx rfl (hb hby d50_0) rfl (XS.iloadN X0.here hx rfl (hb hby d50_1) rfl q)) ?_
  show OG (s₁.setTop (mkF m 2 _ [(.int y), (.int x)]))
  refine own_go (fun _ q => XS.icmpNo X0.here hx rfl (hb hby d50_2) rfl (flt hxy).2.2.1 q) ?_
  show OG (s₁.setTop (mkF m 5 #[vI x, vI y] []))
  refine own_go (fun _ q => XS.iloadN X0.here hx rfl (hb hby d50_5) rfl (XS.goto X0.here hx rfl (pc0 := 6) (pc' := 10) rfl (hb hby d50_6) (by decide) (by decide) q)) ?_
  show OG (s₁.setTop (mkF m 10 _ [(.int x)]))
  exact own_retI X0 hx hlk hret (hb hby d50_10) (by decide) (by decide) ⟨rfl, N0, e0⟩
abbrev C55 := jdk_48_method_27_code
theorem d55_0 : decode C55 0 = .ok (.iload_n 0, 1) := by decide +kernel
theorem d55_1 : decode C55 1 = .ok (.iload_n 1, 1) := by decide +kernel
theorem d55_2 : decode C55 2 = .ok (.iload_n 2, 1) := by decide +kernel
theorem d55_3 : decode C55 3 = .ok (.invokestatic 194, 3) := by decide +kernel
theorem d55_6 : decode C55 6 = .ok (.iadd, 1) := by decide +kernel
theorem d55_7 : decode C55 7 = .ok (.istore_n 3, 1) := by decide +kernel
theorem d55_8 : decode C55 8 = .ok (.iconst 0, 1) := by decide +kernel
theorem d55_9 : decode C55 9 = .ok (.iload_n 3, 1) := by decide +kernel
theorem d55_10 : decode C55 10 = .ok (.if_icmp .ge 11, 3) := by decide +kernel
theorem d55_13 : decode C55 13 = .ok (.iload_n 3, 1) := by decide +kernel
theorem d55_14 : decode C55 14 = .ok (.ldc 200, 2) := by decide +kernel
theorem d55_16 : decode C55 16 = .ok (.if_icmp .gt 5, 3) := by decide +kernel
theorem d55_19 : decode C55 19 = .ok (.iload_n 3, 1) := by decide +kernel
theorem d55_20 : decode C55 20 = .ok (.ireturn, 1) := by decide +kernel
def Q55 (Z : State)  (h0 : Heap) (n0 : Nat) (v : Option Value) (h : Heap) (L : List Loc) : Prop := v = some (.int 34) ∧ Fr n0 L ∧ h = h0
theorem ef_55 (m : MethodId) (x0 : Int32) (x1 : Int32) (x2 : Int32) : entryFrame m #[(.int x0), (.int x1), (.int x2)] 4 = mkF m 0 #[vI x0, vI x1, vI x2, .unset] [] := by first | (simp [entryFrame, mkF, argsToLocals, Value.category]; done) | rfl
set_option maxRecDepth 65536 in
set_option maxHeartbeats 40000000 in
theorem rm55 (l : Launch) (Z : State) (a0 : Array Value) (hw : ∀ d ∈ tables_1, d.before a0 Z = true) (ws : List Jvm.Cond)  (h0 : Heap) (n0 : Nat) (Z0 : n0 ≤ h0.size)  :
    own_Met l Z (⟨"jdk/internal/util/ArraysSupport", "newLength", "(III)I"⟩ : MethodName) jdk_48_method_27_code 4 (some .int) ({ frames := 1, cells := 0, slots := 0, locals := 14 } : Room) ws #[(.int (16 : Int32)), (.int (1 : Int32)), (.int (18 : Int32))] h0 (Q55 Z  h0 n0) := by
  refine own_enter (plainFor_of_name (by first | (simp [plainName, overriddenIn]; done) | decide +kernel)) ?_
  intro p e s m below meth c s₁ hx hby hml hown hnm hlk hret hZ X0 e0
  have N0 := Fr.nil n0
  refine own_go (fun _ q => castTop (ef_55 m (16 : Int32) (1 : Int32) (18 : Int32)) q) ?_
  show OG (s₁.setTop (mkF m 0 #[vI (16 : Int32), vI (1 : Int32), vI (18 : Int32), .unset] []))
  refine own_go (fun _ q => XS.iloadN X0.here hx rfl (hb hby d55_0) rfl (XS.iloadN X0.here hx rfl (hb hby d55_1) rfl (XS.iloadN X0.here hx rfl (hb hby d55_2) rfl q))) ?_
  show OG (s₁.setTop (mkF m 3 _ [(.int (18 : Int32)), (.int (1 : Int32)), (.int (16 : Int32))]))
  refine own_static X0 hx hZ hown (wd hw 291 rfl) (wd hw 292 rfl) (wd hw 261 rfl) (wd hw 293 rfl) (by decide) e0 (argsL := [(.int (1 : Int32)), (.int (18 : Int32))]) (rest := [(.int (16 : Int32))]) (rm56 l Z a0 hw [] (1 : Int32) (18 : Int32) h0 n0 Z0 (by decide)) 1 (by decide) (by decide) (by decide) (by decide) (by rw [hml]; rfl) pd_13 rfl rfl (Nat.le_of_eq rfl) (hb hby d55_3) rfl ?_
  intro v1 T1 L1 X1 hQ1
  obtain ⟨rfl, N1q, e1q⟩ := hQ1
  have N1 := Fr.app N0 N1q
  show OG (T1.setTop (mkF m 6 _ [(.int (18 : Int32)), (.int (16 : Int32))]))
  refine own_go (fun _ q => XS.iadd X1.here hx rfl (hb hby d55_6) rfl (XS.istoreN X1.here hx rfl (hb hby d55_7) rfl (l' := #[vI (16 : Int32), vI (1 : Int32), vI (18 : Int32), vI ((16 : Int32) + (18 : Int32))]) rfl q)) ?_
  show OG (T1.setTop (mkF m 8 #[vI (16 : Int32), vI (1 : Int32), vI (18 : Int32), vI ((16 : Int32) + (18 : Int32))] []))
  show OG (T1.setTop (mkF m 8 #[vI (16 : Int32), vI (1 : Int32), vI (18 : Int32), vI (34 : Int32)] []))
  refine own_go (fun _ q => XS.iconst X1.here hx rfl (hb hby d55_8) (XS.iloadN X1.here hx rfl (hb hby d55_9) rfl q)) ?_
  show OG (T1.setTop (mkF m 10 _ [(.int (34 : Int32)), (.int (0 : Int32))]))
  refine own_go (fun _ q => XS.icmpNo X1.here hx rfl (hb hby d55_10) rfl (tlt (by decide : (0 : Int32) < (34 : Int32))).2.1 q) ?_
  show OG (T1.setTop (mkF m 13 #[vI (16 : Int32), vI (1 : Int32), vI (18 : Int32), vI (34 : Int32)] []))
  refine own_go (fun _ q => XS.iloadN X1.here hx rfl (hb hby d55_13) rfl q) ?_
  show OG (T1.setTop (mkF m 14 _ [(.int (34 : Int32))]))
  refine own_go (X1.ldcInt hx hown (mvT hZ (wd hw 294 rfl)) (g := (mkF m 14 #[vI (16 : Int32), vI (1 : Int32), vI (18 : Int32), vI (34 : Int32)] [(.int (34 : Int32))])) rfl (hb hby d55_14)) ?_
  show OG (T1.setTop (mkF m 16 #[vI (16 : Int32), vI (1 : Int32), vI (18 : Int32), vI (34 : Int32)] [(.int (2147483639 : Int32)), (.int (34 : Int32))]))
  refine own_go (fun _ q => XS.icmpNo X1.here hx rfl (hb hby d55_16) rfl (flt (by decide : ¬ ((2147483639 : Int32) < (34 : Int32)))).2.2.1 q) ?_
  show OG (T1.setTop (mkF m 19 #[vI (16 : Int32), vI (1 : Int32), vI (18 : Int32), vI (34 : Int32)] []))
  refine own_go (fun _ q => XS.iloadN X1.here hx rfl (hb hby d55_19) rfl q) ?_
  show OG (T1.setTop (mkF m 20 _ [(.int (34 : Int32))]))
  exact own_retI X1 hx hlk hret (hb hby d55_20) (by decide) (by decide) ⟨rfl, N1, e1q⟩
abbrev C54 := jdk_68_method_10_code
theorem d54_0 : decode C54 0 = .ok (.aload_n 0, 1) := by decide +kernel
theorem d54_1 : decode C54 1 = .ok (.getfield 15, 3) := by decide +kernel
theorem d54_4 : decode C54 4 = .ok (.arraylength, 1) := by decide +kernel
theorem d54_5 : decode C54 5 = .ok (.istore_n 2, 1) := by decide +kernel
theorem d54_6 : decode C54 6 = .ok (.iload_n 1, 1) := by decide +kernel
theorem d54_7 : decode C54 7 = .ok (.aload_n 0, 1) := by decide +kernel
theorem d54_8 : decode C54 8 = .ok (.getfield 22, 3) := by decide +kernel
theorem d54_11 : decode C54 11 = .ok (.ishl, 1) := by decide +kernel
theorem d54_12 : decode C54 12 = .ok (.istore_n 3, 1) := by decide +kernel
theorem d54_13 : decode C54 13 = .ok (.iload_n 3, 1) := by decide +kernel
theorem d54_14 : decode C54 14 = .ok (.iload_n 2, 1) := by decide +kernel
theorem d54_15 : decode C54 15 = .ok (.isub, 1) := by decide +kernel
theorem d54_16 : decode C54 16 = .ok (.istore 4, 2) := by decide +kernel
theorem d54_18 : decode C54 18 = .ok (.iload_n 2, 1) := by decide +kernel
theorem d54_19 : decode C54 19 = .ok (.iload 4, 2) := by decide +kernel
theorem d54_21 : decode C54 21 = .ok (.iload_n 2, 1) := by decide +kernel
theorem d54_22 : decode C54 22 = .ok (.iconst 2, 1) := by decide +kernel
theorem d54_23 : decode C54 23 = .ok (.aload_n 0, 1) := by decide +kernel
theorem d54_24 : decode C54 24 = .ok (.getfield 22, 3) := by decide +kernel
theorem d54_27 : decode C54 27 = .ok (.ishl, 1) := by decide +kernel
theorem d54_28 : decode C54 28 = .ok (.iadd, 1) := by decide +kernel
theorem d54_29 : decode C54 29 = .ok (.invokestatic 114, 3) := by decide +kernel
theorem d54_32 : decode C54 32 = .ok (.istore 5, 2) := by decide +kernel
theorem d54_34 : decode C54 34 = .ok (.iload 5, 2) := by decide +kernel
theorem d54_36 : decode C54 36 = .ok (.ldc 39, 2) := by decide +kernel
theorem d54_38 : decode C54 38 = .ok (.if_icmp .ne 13, 3) := by decide +kernel
theorem d54_51 : decode C54 51 = .ok (.iload 5, 2) := by decide +kernel
theorem d54_53 : decode C54 53 = .ok (.aload_n 0, 1) := by decide +kernel
theorem d54_54 : decode C54 54 = .ok (.getfield 22, 3) := by decide +kernel
theorem d54_57 : decode C54 57 = .ok (.ishr, 1) := by decide +kernel
theorem d54_58 : decode C54 58 = .ok (.ireturn, 1) := by decide +kernel
def Q54 (Z : State) (b : Addr) (w : Addr) (cn : Int32) (g : Nat → Option Nat) (h0 : Heap) (n0 : Nat) (v : Option Value) (h : Heap) (L : List Loc) : Prop := v = some (.int 34) ∧ Fr n0 L ∧ h = h0
theorem ef_54 (m : MethodId) (x0 : Addr) (x1 : Int32) : entryFrame m #[(.ref x0), (.int x1)] 6 = mkF m 0 #[vR x0, vI x1, .unset, .unset, .unset, .unset] [] := by first | (simp [entryFrame, mkF, argsToLocals, Value.category]; done) | rfl
set_option maxRecDepth 65536 in
set_option maxHeartbeats 40000000 in
theorem rm54 (l : Launch) (Z : State) (a0 : Array Value) (hw : ∀ d ∈ tables_1, d.before a0 Z = true) (ws : List Jvm.Cond) (b : Addr) (w : Addr) (cn : Int32) (g : Nat → Option Nat) (h0 : Heap) (n0 : Nat) (Z0 : n0 ≤ h0.size) (SBf : own_SB Z h0 b w 16 cn g) :
    own_Met l Z (⟨"java/lang/AbstractStringBuilder", "newCapacity", "(I)I"⟩ : MethodName) jdk_68_method_10_code 6 (some .int) ({ frames := 2, cells := 0, slots := 0, locals := 32 } : Room) ws #[(.ref b), (.int (17 : Int32))] h0 (Q54 Z b w cn g h0 n0) := by
  refine own_enter (plainFor_of_name (by first | (simp [plainName, overriddenIn]; done) | decide +kernel)) ?_
  intro p e s m below meth c s₁ hx hby hml hown hnm hlk hret hZ X0 e0
  have N0 := Fr.nil n0
  refine own_go (fun _ q => castTop (ef_54 m b (17 : Int32)) q) ?_
  show OG (s₁.setTop (mkF m 0 #[vR b, vI (17 : Int32), .unset, .unset, .unset, .unset] []))
  obtain ⟨SBE, SBV, SBC, SBN, SBA, SBX⟩ := SBf
  refine own_go (fun _ q => XS.aloadN X0.here hx rfl (hb hby d54_0) rfl rfl q) ?_
  show OG (s₁.setTop (mkF m 1 _ [(.ref b)]))
  obtain ⟨T1, X1, e1, st1⟩ := getF X0 hx hZ hown (host := "") (Or.inl (wd hw 141 rfl)) Via.refl e0 SBV (g := (mkF m 1 #[vR b, vI (17 : Int32), .unset, .unset, .unset, .unset] [(.ref b)])) rfl rfl (hb hby d54_1)
  refine own_go st1 ?_
  show OG (T1.setTop (mkF m 4 _ [(.ref w)]))
  refine own_blen (z := (16 : Int32)) X1 hx hZ e1 SBA rfl (hb hby d54_4) rfl ?_
  show OG (T1.setTop (mkF m 5 #[vR b, vI (17 : Int32), .unset, .unset, .unset, .unset] [(.int (16 : Int32))]))
  refine own_go (fun _ q => XS.istoreN X1.here hx rfl (hb hby d54_5) rfl (l' := #[vR b, vI (17 : Int32), vI (16 : Int32), .unset, .unset, .unset]) rfl (XS.iloadN X1.here hx rfl (hb hby d54_6) rfl (XS.aloadN X1.here hx rfl (hb hby d54_7) rfl rfl q))) ?_
  show OG (T1.setTop (mkF m 8 #[vR b, vI (17 : Int32), vI (16 : Int32), .unset, .unset, .unset] [(.ref b), (.int (17 : Int32))]))
  obtain ⟨T2, X2, e2, st2⟩ := getF X1 hx hZ hown (host := "") (Or.inl (wd hw 143 rfl)) Via.refl e1 SBC (g := (mkF m 8 #[vR b, vI (17 : Int32), vI (16 : Int32), .unset, .unset, .unset] [(.ref b), (.int (17 : Int32))])) rfl rfl (hb hby d54_8)
  refine own_go st2 ?_
  show OG (T2.setTop (mkF m 11 _ [(.int (0 : Int32)), (.int (17 : Int32))]))
  refine own_go (fun _ q => XS.ishl X2.here hx rfl (hb hby d54_11) rfl (XS.istoreN X2.here hx rfl (hb hby d54_12) rfl (l' := #[vR b, vI (17 : Int32), vI (16 : Int32), vI ((17 : Int32) <<< ((0 : Int32) &&& 31)), .unset, .unset]) rfl q)) ?_
  show OG (T2.setTop (mkF m 13 #[vR b, vI (17 : Int32), vI (16 : Int32), vI ((17 : Int32) <<< ((0 : Int32) &&& 31)), .unset, .unset] []))
  show OG (T2.setTop (mkF m 13 #[vR b, vI (17 : Int32), vI (16 : Int32), vI (17 : Int32), .unset, .unset] []))
  refine own_go (fun _ q => XS.iloadN X2.here hx rfl (hb hby d54_13) rfl (XS.iloadN X2.here hx rfl (hb hby d54_14) rfl (XS.isub X2.here hx rfl (hb hby d54_15) rfl (XS.istore X2.here hx rfl (hb hby d54_16) rfl (l' := #[vR b, vI (17 : Int32), vI (16 : Int32), vI (17 : Int32), vI ((17 : Int32) - (16 : Int32)), .unset]) rfl q)))) ?_
  show OG (T2.setTop (mkF m 18 #[vR b, vI (17 : Int32), vI (16 : Int32), vI (17 : Int32), vI ((17 : Int32) - (16 : Int32)), .unset] []))
  show OG (T2.setTop (mkF m 18 #[vR b, vI (17 : Int32), vI (16 : Int32), vI (17 : Int32), vI (1 : Int32), .unset] []))
  refine own_go (fun _ q => XS.iloadN X2.here hx rfl (hb hby d54_18) rfl (XS.iload X2.here hx rfl (hb hby d54_19) rfl (XS.iloadN X2.here hx rfl (hb hby d54_21) rfl (XS.iconst X2.here hx rfl (hb hby d54_22) (XS.aloadN X2.here hx rfl (hb hby d54_23) rfl rfl q))))) ?_
  show OG (T2.setTop (mkF m 24 _ [(.ref b), (.int (2 : Int32)), (.int (16 : Int32)), (.int (1 : Int32)), (.int (16 : Int32))]))
  obtain ⟨T3, X3, e3, st3⟩ := getF X2 hx hZ hown (host := "") (Or.inl (wd hw 143 rfl)) Via.refl e2 SBC (g := (mkF m 24 #[vR b, vI (17 : Int32), vI (16 : Int32), vI (17 : Int32), vI (1 : Int32), .unset] [(.ref b), (.int (2 : Int32)), (.int (16 : Int32)), (.int (1 : Int32)), (.int (16 : Int32))])) rfl rfl (hb hby d54_24)
  refine own_go st3 ?_
  show OG (T3.setTop (mkF m 27 _ [(.int (0 : Int32)), (.int (2 : Int32)), (.int (16 : Int32)), (.int (1 : Int32)), (.int (16 : Int32))]))
  refine own_go (fun _ q => XS.ishl X3.here hx rfl (hb hby d54_27) rfl (XS.iadd X3.here hx rfl (hb hby d54_28) rfl q)) ?_
  show OG (T3.setTop (mkF m 29 #[vR b, vI (17 : Int32), vI (16 : Int32), vI (17 : Int32), vI (1 : Int32), .unset] [(.int ((16 : Int32) + ((2 : Int32) <<< ((0 : Int32) &&& 31)))), (.int (1 : Int32)), (.int (16 : Int32))]))
  show OG (T3.setTop (mkF m 29 #[vR b, vI (17 : Int32), vI (16 : Int32), vI (17 : Int32), vI (1 : Int32), .unset] [(.int (18 : Int32)), (.int (1 : Int32)), (.int (16 : Int32))]))
  refine own_static X3 hx hZ hown (wd hw 287 rfl) (wd hw 288 rfl) (wd hw 289 rfl) (wd hw 290 rfl) (by decide) e3 (argsL := [(.int (16 : Int32)), (.int (1 : Int32)), (.int (18 : Int32))]) (rest := []) (rm55 l Z a0 hw [] h0 n0 Z0) 0 (by decide) (by decide) (by decide) (by decide) (by rw [hml]; rfl) pd_14 rfl rfl (Nat.le_of_eq rfl) (hb hby d54_29) rfl ?_
  intro v4 T4 L4 X4 hQ4
  obtain ⟨rfl, N4q, e4q⟩ := hQ4
  have N4 := Fr.app N0 N4q
  show OG (T4.setTop (mkF m 32 _ [(.int (34 : Int32))]))
  refine own_go (fun _ q => XS.istore X4.here hx rfl (hb hby d54_32) rfl (l' := #[vR b, vI (17 : Int32), vI (16 : Int32), vI (17 : Int32), vI (1 : Int32), vI (34 : Int32)]) rfl (XS.iload X4.here hx rfl (hb hby d54_34) rfl q)) ?_
  show OG (T4.setTop (mkF m 36 #[vR b, vI (17 : Int32), vI (16 : Int32), vI (17 : Int32), vI (1 : Int32), vI (34 : Int32)] [(.int (34 : Int32))]))
  refine own_go (X4.ldcInt hx hown (mvT hZ (wd hw 295 rfl)) (g := (mkF m 36 #[vR b, vI (17 : Int32), vI (16 : Int32), vI (17 : Int32), vI (1 : Int32), vI (34 : Int32)] [(.int (34 : Int32))])) rfl (hb hby d54_36)) ?_
  show OG (T4.setTop (mkF m 38 #[vR b, vI (17 : Int32), vI (16 : Int32), vI (17 : Int32), vI (1 : Int32), vI (34 : Int32)] [(.int (2147483647 : Int32)), (.int (34 : Int32))]))
  refine own_go (fun _ q => XS.icmpYes X4.here hx rfl (pc0 := 38) (pc' := 51) rfl (hb hby d54_38) rfl (feq (by decide : ¬ ((34 : Int32) = (2147483647 : Int32)))).2 (by decide) (by decide) q) ?_
  show OG (T4.setTop (mkF m 51 #[vR b, vI (17 : Int32), vI (16 : Int32), vI (17 : Int32), vI (1 : Int32), vI (34 : Int32)] []))
  refine own_go (fun _ q => XS.iload X4.here hx rfl (hb hby d54_51) rfl (XS.aloadN X4.here hx rfl (hb hby d54_53) rfl rfl q)) ?_
  show OG (T4.setTop (mkF m 54 _ [(.ref b), (.int (34 : Int32))]))
  obtain ⟨T5, X5, e5, st5⟩ := getF X4 hx hZ hown (host := "") (Or.inl (wd hw 143 rfl)) Via.refl e4q SBC (g := (mkF m 54 #[vR b, vI (17 : Int32), vI (16 : Int32), vI (17 : Int32), vI (1 : Int32), vI (34 : Int32)] [(.ref b), (.int (34 : Int32))])) rfl rfl (hb hby d54_54)
  refine own_go st5 ?_
  show OG (T5.setTop (mkF m 57 _ [(.int (0 : Int32)), (.int (34 : Int32))]))
  refine own_go (fun _ q => XS.ishr X5.here hx rfl (hb hby d54_57) rfl q) ?_
  show OG (T5.setTop (mkF m 58 #[vR b, vI (17 : Int32), vI (16 : Int32), vI (17 : Int32), vI (1 : Int32), vI (34 : Int32)] [(.int ((34 : Int32) >>> ((0 : Int32) &&& 31)))]))
  show OG (T5.setTop (mkF m 58 #[vR b, vI (17 : Int32), vI (16 : Int32), vI (17 : Int32), vI (1 : Int32), vI (34 : Int32)] [(.int (34 : Int32))]))
  exact own_retI X5 hx hlk hret (hb hby d54_58) (by decide) (by decide) ⟨rfl, N4, e5⟩
abbrev C57 := jdk_65_method_121_code
theorem d57_0 : decode C57 0 = .ok (.iload_n 1, 1) := by decide +kernel
theorem d57_1 : decode C57 1 = .ok (.aload_n 0, 1) := by decide +kernel
theorem d57_2 : decode C57 2 = .ok (.arraylength, 1) := by decide +kernel
theorem d57_3 : decode C57 3 = .ok (.if_icmp .ne 11, 3) := by decide +kernel
theorem d57_14 : decode C57 14 = .ok (.iload_n 1, 1) := by decide +kernel
theorem d57_15 : decode C57 15 = .ok (.newarray .byte, 2) := by decide +kernel
theorem d57_17 : decode C57 17 = .ok (.astore_n 2, 1) := by decide +kernel
theorem d57_18 : decode C57 18 = .ok (.aload_n 0, 1) := by decide +kernel
theorem d57_19 : decode C57 19 = .ok (.iconst 0, 1) := by decide +kernel
theorem d57_20 : decode C57 20 = .ok (.aload_n 2, 1) := by decide +kernel
theorem d57_21 : decode C57 21 = .ok (.iconst 0, 1) := by decide +kernel
theorem d57_22 : decode C57 22 = .ok (.aload_n 0, 1) := by decide +kernel
theorem d57_23 : decode C57 23 = .ok (.arraylength, 1) := by decide +kernel
theorem d57_24 : decode C57 24 = .ok (.iload_n 1, 1) := by decide +kernel
theorem d57_25 : decode C57 25 = .ok (.invokestatic 304, 3) := by decide +kernel
theorem d57_28 : decode C57 28 = .ok (.invokestatic 150, 3) := by decide +kernel
theorem d57_31 : decode C57 31 = .ok (.aload_n 2, 1) := by decide +kernel
theorem d57_32 : decode C57 32 = .ok (.areturn, 1) := by decide +kernel
def Q57 (Z : State) (w : Addr) (g : Nat → Option Nat) (h0 : Heap) (n0 : Nat) (v : Option Value) (h : Heap) (L : List Loc) : Prop := ∃ r : Addr, v = some (.ref r) ∧ Fr n0 L ∧ Keep h0 h [] ∧ n0 ≤ r ∧ h0.size ≤ r ∧ own_By Z h r .byte 34 (fun j => if 0 ≤ j ∧ j < 0 + 16 then g (0 + (j - 0)) else none) ∧ Exa Z h r "[B"
theorem ef_57 (m : MethodId) (x0 : Addr) (x1 : Int32) : entryFrame m #[(.ref x0), (.int x1)] 3 = mkF m 0 #[vR x0, vI x1, .unset] [] := by first | (simp [entryFrame, mkF, argsToLocals, Value.category]; done) | rfl
set_option maxRecDepth 65536 in
set_option maxHeartbeats 40000000 in
theorem rm57 (l : Launch) (Z : State) (a0 : Array Value) (hw : ∀ d ∈ tables_1, d.before a0 Z = true) (ws : List Jvm.Cond) (w : Addr) (g : Nat → Option Nat) (h0 : Heap) (n0 : Nat) (Z0 : n0 ≤ h0.size) (Aw : own_By Z h0 w .byte 16 g) :
    own_Met l Z (⟨"java/util/Arrays", "copyOf", "([BI)[B"⟩ : MethodName) jdk_65_method_121_code 3 (some (.array .byte)) ({ frames := 1, cells := 1, slots := 34, locals := 30 } : Room) ws #[(.ref w), (.int (34 : Int32))] h0 (Q57 Z w g h0 n0) := by
  refine own_enter (plainFor_of_name (by first | (simp [plainName, overriddenIn]; done) | decide +kernel)) ?_
  intro p e s m below meth c s₁ hx hby hml hown hnm hlk hret hZ X0 e0
  have N0 := Fr.nil n0
  refine own_go (fun _ q => castTop (ef_57 m w (34 : Int32)) q) ?_
  show OG (s₁.setTop (mkF m 0 #[vR w, vI (34 : Int32), .unset] []))
  refine own_go (fun _ q => XS.iloadN X0.here hx rfl (hb hby d57_0) rfl (XS.aloadN X0.here hx rfl (hb hby d57_1) rfl rfl q)) ?_
  show OG (s₁.setTop (mkF m 2 _ [(.ref w), (.int (34 : Int32))]))
  refine own_blen (z := (16 : Int32)) X0 hx hZ e0 Aw rfl (hb hby d57_2) rfl ?_
  show OG (s₁.setTop (mkF m 3 #[vR w, vI (34 : Int32), .unset] [(.int (16 : Int32)), (.int (34 : Int32))]))
  refine own_go (fun _ q => XS.icmpYes X0.here hx rfl (pc0 := 3) (pc' := 14) rfl (hb hby d57_3) rfl (feq (by decide : ¬ ((34 : Int32) = (16 : Int32)))).2 (by decide) (by decide) q) ?_
  show OG (s₁.setTop (mkF m 14 #[vR w, vI (34 : Int32), .unset] []))
  refine own_go (fun _ q => XS.iloadN X0.here hx rfl (hb hby d57_14) rfl q) ?_
  show OG (s₁.setTop (mkF m 15 _ [(.int (34 : Int32))]))
  obtain ⟨T1, h1, k1, X1, e1, E1, Aw1, Ex1, st1⟩ := newPE X0 hx hZ (wd hw 27 rfl) e0 (g := (mkF m 15 #[vR w, vI (34 : Int32), .unset] [(.int (34 : Int32))])) rfl (hb hby d57_15) rfl (by decide) (cap := 34) (by decide) (by decide) (by decide) (by decide) (ad := "[B") (by decide)
  obtain ⟨b1, g1⟩ : ∃ z, z = h0.size := ⟨_, rfl⟩
  rw [← g1] at Aw1 Ex1 st1
  have A1 := own_By.new (nn := 34) Aw1 (by decide) rfl rfl
  have nq2 : w ≠ b1 := Nat.ne_of_lt (Nat.lt_of_lt_of_eq (Aw).lt g1.symm)
  have y1 : h0.size ≤ b1 := Nat.le_trans (Nat.le_refl _) (Nat.le_of_eq g1.symm)
  have G1 : n0 ≤ b1 := Nat.le_trans Z0 (Nat.le_of_eq g1.symm)
  have Z1 : n0 ≤ h1.size := Nat.le_trans Z0 E1.1
  refine own_go st1 ?_
  show OG (T1.setTop (mkF m 17 _ [(.ref b1)]))
  refine own_go (fun _ q => XS.astoreN X1.here hx rfl (hb hby d57_17) rfl rfl (l' := #[vR w, vI (34 : Int32), vR b1]) rfl (XS.aloadN X1.here hx rfl (hb hby d57_18) rfl rfl (XS.iconst X1.here hx rfl (hb hby d57_19) (XS.aloadN X1.here hx rfl (hb hby d57_20) rfl rfl (XS.iconst X1.here hx rfl (hb hby d57_21) (XS.aloadN X1.here hx rfl (hb hby d57_22) rfl rfl q)))))) ?_
  show OG (T1.setTop (mkF m 23 #[vR w, vI (34 : Int32), vR b1] [(.ref w), (.int (0 : Int32)), (.ref b1), (.int (0 : Int32)), (.ref w)]))
  have f3 := (Aw.ext E1)
  refine own_blen (z := (16 : Int32)) X1 hx hZ e1 f3 rfl (hb hby d57_23) rfl ?_
  show OG (T1.setTop (mkF m 24 #[vR w, vI (34 : Int32), vR b1] [(.int (16 : Int32)), (.int (0 : Int32)), (.ref b1), (.int (0 : Int32)), (.ref w)]))
  refine own_go (fun _ q => XS.iloadN X1.here hx rfl (hb hby d57_24) rfl q) ?_
  show OG (T1.setTop (mkF m 25 _ [(.int (34 : Int32)), (.int (16 : Int32)), (.int (0 : Int32)), (.ref b1), (.int (0 : Int32)), (.ref w)]))
  refine own_static X1 hx hZ hown (wd hw 259 rfl) (wd hw 260 rfl) (wd hw 261 rfl) (wd hw 262 rfl) (by decide) e1 (argsL := [(.int (16 : Int32)), (.int (34 : Int32))]) (rest := [(.int (0 : Int32)), (.ref b1), (.int (0 : Int32)), (.ref w)]) (rm50 l Z a0 hw [] (16 : Int32) (34 : Int32) h1 n0 Z1 (by decide)) 4 (by decide) (by decide) (by decide) (by decide) (by rw [hml]; rfl) pd_13 rfl rfl (Nat.le_of_eq rfl) (hb hby d57_25) rfl ?_
  intro v4 T4 L4 X4 hQ4
  obtain ⟨rfl, N4q, e4q⟩ := hQ4
  have N4 := Fr.app N0 N4q
  show OG (T4.setTop (mkF m 28 _ [(.int (16 : Int32)), (.int (0 : Int32)), (.ref b1), (.int (0 : Int32)), (.ref w)]))
  refine own_cp (s0 := 0) (d0 := 0) (k0 := 16) X4 hx hZ hown (wd hw 263 rfl) (wd hw 222 rfl) (wd hw 220 rfl) (wd hw 221 rfl) e4q f3 A1 rfl rfl rfl (by decide) (by decide) N4 G1 (by rw [hml]; rfl) (by decide) 0 (Nat.le_of_eq rfl) (by decide) (hb hby d57_28) rfl ?_
  intro T5 h5 L5 X5 e5 N5 K5 A5
  have Z5 : n0 ≤ h5.size := Nat.le_trans Z1 K5.1
  show OG (T5.setTop (mkF m 31 _ []))
  refine own_go (fun _ q => XS.aloadN X5.here hx rfl (hb hby d57_31) rfl rfl q) ?_
  show OG (T5.setTop (mkF m 32 #[vR w, vI (34 : Int32), vR b1] [(.ref b1)]))
  have f6 := (Ex1.keep K5)
  have K : Keep h0 h5 [] := (((Keep.refl h0 []).ext E1).trans K5 (allS (Or.inr y1) all0))
  subst e5
  exact own_retR X5 hx hlk hret rfl rfl rfl (hb hby d57_32) (by decide) (by decide) ⟨b1, rfl, N5, K, G1, y1, A5, f6⟩
abbrev C29 := jdk_68_method_9_code
theorem d29_0 : decode C29 0 = .ok (.aload_n 0, 1) := by decide +kernel
theorem d29_1 : decode C29 1 = .ok (.getfield 15, 3) := by decide +kernel
theorem d29_4 : decode C29 4 = .ok (.arraylength, 1) := by decide +kernel
theorem d29_5 : decode C29 5 = .ok (.aload_n 0, 1) := by decide +kernel
theorem d29_6 : decode C29 6 = .ok (.getfield 22, 3) := by decide +kernel
theorem d29_9 : decode C29 9 = .ok (.ishr, 1) := by decide +kernel
theorem d29_10 : decode C29 10 = .ok (.istore_n 2, 1) := by decide +kernel
theorem d29_11 : decode C29 11 = .ok (.iload_n 1, 1) := by decide +kernel
theorem d29_12 : decode C29 12 = .ok (.iload_n 2, 1) := by decide +kernel
theorem d29_13 : decode C29 13 = .ok (.isub, 1) := by decide +kernel
theorem d29_14 : decode C29 14 = .ok (.ifCond .le 24, 3) := by decide +kernel
theorem d29_17 : decode C29 17 = .ok (.aload_n 0, 1) := by decide +kernel
theorem d29_18 : decode C29 18 = .ok (.aload_n 0, 1) := by decide +kernel
theorem d29_19 : decode C29 19 = .ok (.getfield 15, 3) := by decide +kernel
theorem d29_22 : decode C29 22 = .ok (.aload_n 0, 1) := by decide +kernel
theorem d29_23 : decode C29 23 = .ok (.iload_n 1, 1) := by decide +kernel
theorem d29_24 : decode C29 24 = .ok (.invokevirtual 104, 3) := by decide +kernel
theorem d29_27 : decode C29 27 = .ok (.aload_n 0, 1) := by decide +kernel
theorem d29_28 : decode C29 28 = .ok (.getfield 22, 3) := by decide +kernel
theorem d29_31 : decode C29 31 = .ok (.ishl, 1) := by decide +kernel
theorem d29_32 : decode C29 32 = .ok (.invokestatic 108, 3) := by decide +kernel
theorem d29_35 : decode C29 35 = .ok (.putfield 15, 3) := by decide +kernel
theorem d29_38 : decode C29 38 = .ok (.return_, 1) := by decide +kernel
def Q29 (Z : State) (b : Addr) (w : Addr) (N : Nat) (cn : Int32) (g : Nat → Option Nat) (mz : Int32) (zN : Int32) (h0 : Heap) (n0 : Nat) (v : Option Value) (h : Heap) (L : List Loc) : Prop := v = none ∧ Fr n0 L ∧ h = h0
theorem ef_29 (m : MethodId) (x0 : Addr) (x1 : Int32) : entryFrame m #[(.ref x0), (.int x1)] 3 = mkF m 0 #[vR x0, vI x1, .unset] [] := by first | (simp [entryFrame, mkF, argsToLocals, Value.category]; done) | rfl
set_option maxRecDepth 65536 in
set_option maxHeartbeats 40000000 in
theorem rm29 (l : Launch) (Z : State) (a0 : Array Value) (hw : ∀ d ∈ tables_1, d.before a0 Z = true) (ws : List Jvm.Cond) (b : Addr) (w : Addr) (N : Nat) (cn : Int32) (g : Nat → Option Nat) (mz : Int32) (zN : Int32) (h0 : Heap) (n0 : Nat) (Z0 : n0 ≤ h0.size) (SBf : own_SB Z h0 b w N cn g) (hz : zN.toInt = (N : Int)) (hm0 : 0 ≤ mz.toInt) (hm : mz.toInt ≤ (N : Int)) :
    own_Met l Z (⟨"java/lang/AbstractStringBuilder", "ensureCapacityInternal", "(I)V"⟩ : MethodName) jdk_68_method_9_code 3 none ({ frames := 0, cells := 0, slots := 0, locals := 0 } : Room) ws #[(.ref b), (.int mz)] h0 (Q29 Z b w N cn g mz zN h0 n0) := by
  refine own_enter (plainFor_of_name (by first | (simp [plainName, overriddenIn]; done) | decide +kernel)) ?_
  intro p e s m below meth c s₁ hx hby hml hown hnm hlk hret hZ X0 e0
  have N0 := Fr.nil n0
  refine own_go (fun _ q => castTop (ef_29 m b mz) q) ?_
  show OG (s₁.setTop (mkF m 0 #[vR b, vI mz, .unset] []))
  obtain ⟨SBE, SBV, SBC, SBN, SBA, SBX⟩ := SBf
  refine own_go (fun _ q => XS.aloadN X0.here hx rfl (hb hby d29_0) rfl rfl q) ?_
  show OG (s₁.setTop (mkF m 1 _ [(.ref b)]))
  obtain ⟨T1, X1, e1, st1⟩ := getF X0 hx hZ hown (host := "") (Or.inl (wd hw 141 rfl)) Via.refl e0 SBV (g := (mkF m 1 #[vR b, vI mz, .unset] [(.ref b)])) rfl rfl (hb hby d29_1)
  refine own_go st1 ?_
  show OG (T1.setTop (mkF m 4 _ [(.ref w)]))
  refine own_blen (z := zN) X1 hx hZ e1 SBA hz (hb hby d29_4) rfl ?_
  show OG (T1.setTop (mkF m 5 #[vR b, vI mz, .unset] [(.int zN)]))
  refine own_go (fun _ q => XS.aloadN X1.here hx rfl (hb hby d29_5) rfl rfl q) ?_
  show OG (T1.setTop (mkF m 6 _ [(.ref b), (.int zN)]))
  obtain ⟨T2, X2, e2, st2⟩ := getF X1 hx hZ hown (host := "") (Or.inl (wd hw 143 rfl)) Via.refl e1 SBC (g := (mkF m 6 #[vR b, vI mz, .unset] [(.ref b), (.int zN)])) rfl rfl (hb hby d29_6)
  refine own_go st2 ?_
  show OG (T2.setTop (mkF m 9 _ [(.int (0 : Int32)), (.int zN)]))
  refine own_go (fun _ q => XS.ishr X2.here hx rfl (hb hby d29_9) rfl q) ?_
  show OG (T2.setTop (mkF m 10 #[vR b, vI mz, .unset] [(.int (zN >>> ((0 : Int32) &&& 31)))]))
  rw [own_shr0]
  show OG (T2.setTop (mkF m 10 #[vR b, vI mz, .unset] [(.int zN)]))
  refine own_go (fun _ q => XS.istoreN X2.here hx rfl (hb hby d29_10) rfl (l' := #[vR b, vI mz, vI zN]) rfl (XS.iloadN X2.here hx rfl (hb hby d29_11) rfl (XS.iloadN X2.here hx rfl (hb hby d29_12) rfl (XS.isub X2.here hx rfl (hb hby d29_13) rfl q)))) ?_
  show OG (T2.setTop (mkF m 14 #[vR b, vI mz, vI zN] [(.int (mz - zN))]))
  refine own_go (fun _ q => XS.ifYes X2.here hx rfl (pc0 := 14) (pc' := 38) rfl (hb hby d29_14) rfl ((if0 _ _).trans (flt (own_suble hm0 hm hz)).2.2.2) (by decide) (by decide) q) ?_
  show OG (T2.setTop (mkF m 38 #[vR b, vI mz, vI zN] []))
  exact own_retV X2 hx hlk hret (hb hby d29_38) (by decide) (by decide) ⟨rfl, N0, e2⟩
def Q29b (Z : State) (b : Addr) (w : Addr) (cn : Int32) (g : Nat → Option Nat) (h0 : Heap) (n0 : Nat) (v : Option Value) (h : Heap) (L : List Loc) : Prop := v = none ∧ Fr n0 L ∧ Keep h0 h [b] ∧ ∃ r : Addr, n0 ≤ r ∧ h0.size ≤ r ∧ own_SB Z h b r 34 cn (fun j => if j < 16 then g j else none)
theorem ef_29b (m : MethodId) (x0 : Addr) (x1 : Int32) : entryFrame m #[(.ref x0), (.int x1)] 3 = mkF m 0 #[vR x0, vI x1, .unset] [] := by first | (simp [entryFrame, mkF, argsToLocals, Value.category]; done) | rfl
set_option maxRecDepth 65536 in
set_option maxHeartbeats 40000000 in
theorem rm29b (l : Launch) (Z : State) (a0 : Array Value) (hw : ∀ d ∈ tables_1, d.before a0 Z = true) (ws : List Jvm.Cond) (b : Addr) (w : Addr) (cn : Int32) (g : Nat → Option Nat) (h0 : Heap) (n0 : Nat) (Z0 : n0 ≤ h0.size) (SBf : own_SB Z h0 b w 16 cn g) (gb : n0 ≤ b) (nbw : b ≠ w) :
    own_Met l Z (⟨"java/lang/AbstractStringBuilder", "ensureCapacityInternal", "(I)V"⟩ : MethodName) jdk_68_method_9_code 3 none ({ frames := 3, cells := 1, slots := 34, locals := 52 } : Room) ws #[(.ref b), (.int (17 : Int32))] h0 (Q29b Z b w cn g h0 n0) := by
  refine own_enter (plainFor_of_name (by first | (simp [plainName, overriddenIn]; done) | decide +kernel)) ?_
  intro p e s m below meth c s₁ hx hby hml hown hnm hlk hret hZ X0 e0
  have N0 := Fr.nil n0
  refine own_go (fun _ q => castTop (ef_29b m b (17 : Int32)) q) ?_
  show OG (s₁.setTop (mkF m 0 #[vR b, vI (17 : Int32), .unset] []))
  obtain ⟨SBE, SBV, SBC, SBN, SBA, SBX⟩ := SBf
  refine own_go (fun _ q => XS.aloadN X0.here hx rfl (hb hby d29_0) rfl rfl q) ?_
  show OG (s₁.setTop (mkF m 1 _ [(.ref b)]))
  obtain ⟨T1, X1, e1, st1⟩ := getF X0 hx hZ hown (host := "") (Or.inl (wd hw 141 rfl)) Via.refl e0 SBV (g := (mkF m 1 #[vR b, vI (17 : Int32), .unset] [(.ref b)])) rfl rfl (hb hby d29_1)
  refine own_go st1 ?_
  show OG (T1.setTop (mkF m 4 _ [(.ref w)]))
  refine own_blen (z := (16 : Int32)) X1 hx hZ e1 SBA rfl (hb hby d29_4) rfl ?_
  show OG (T1.setTop (mkF m 5 #[vR b, vI (17 : Int32), .unset] [(.int (16 : Int32))]))
  refine own_go (fun _ q => XS.aloadN X1.here hx rfl (hb hby d29_5) rfl rfl q) ?_
  show OG (T1.setTop (mkF m 6 _ [(.ref b), (.int (16 : Int32))]))
  obtain ⟨T2, X2, e2, st2⟩ := getF X1 hx hZ hown (host := "") (Or.inl (wd hw 143 rfl)) Via.refl e1 SBC (g := (mkF m 6 #[vR b, vI (17 : Int32), .unset] [(.ref b), (.int (16 : Int32))])) rfl rfl (hb hby d29_6)
  refine own_go st2 ?_
  show OG (T2.setTop (mkF m 9 _ [(.int (0 : Int32)), (.int (16 : Int32))]))
  refine own_go (fun _ q => XS.ishr X2.here hx rfl (hb hby d29_9) rfl (XS.istoreN X2.here hx rfl (hb hby d29_10) rfl (l' := #[vR b, vI (17 : Int32), vI ((16 : Int32) >>> ((0 : Int32) &&& 31))]) rfl q)) ?_
  show OG (T2.setTop (mkF m 11 #[vR b, vI (17 : Int32), vI ((16 : Int32) >>> ((0 : Int32) &&& 31))] []))
  show OG (T2.setTop (mkF m 11 #[vR b, vI (17 : Int32), vI (16 : Int32)] []))
  refine own_go (fun _ q => XS.iloadN X2.here hx rfl (hb hby d29_11) rfl (XS.iloadN X2.here hx rfl (hb hby d29_12) rfl (XS.isub X2.here hx rfl (hb hby d29_13) rfl q))) ?_
  show OG (T2.setTop (mkF m 14 _ [(.int ((17 : Int32) - (16 : Int32)))]))
  show OG (T2.setTop (mkF m 14 #[vR b, vI (17 : Int32), vI (16 : Int32)] [(.int (1 : Int32))]))
  refine own_go (fun _ q => XS.ifNo X2.here hx rfl (hb hby d29_14) rfl ((if0 _ _).trans (tlt (by decide : (0 : Int32) < (1 : Int32))).2.2.2) q) ?_
  show OG (T2.setTop (mkF m 17 #[vR b, vI (17 : Int32), vI (16 : Int32)] []))
  refine own_go (fun _ q => XS.aloadN X2.here hx rfl (hb hby d29_17) rfl rfl (XS.aloadN X2.here hx rfl (hb hby d29_18) rfl rfl q)) ?_
  show OG (T2.setTop (mkF m 19 _ [(.ref b), (.ref b)]))
  obtain ⟨T3, X3, e3, st3⟩ := getF X2 hx hZ hown (host := "") (Or.inl (wd hw 141 rfl)) Via.refl e2 SBV (g := (mkF m 19 #[vR b, vI (17 : Int32), vI (16 : Int32)] [(.ref b), (.ref b)])) rfl rfl (hb hby d29_19)
  refine own_go st3 ?_
  show OG (T3.setTop (mkF m 22 _ [(.ref w), (.ref b)]))
  refine own_go (fun _ q => XS.aloadN X3.here hx rfl (hb hby d29_22) rfl rfl (XS.iloadN X3.here hx rfl (hb hby d29_23) rfl q)) ?_
  show OG (T3.setTop (mkF m 24 #[vR b, vI (17 : Int32), vI (16 : Int32)] [(.int (17 : Int32)), (.ref b), (.ref w), (.ref b)]))
  refine own_privSel X3 hx hZ hown (wd hw 282 rfl) (wd hw 283 rfl) (wd hw 284 rfl) (wd hw 285 rfl) (wd hw 137 rfl) (wd hw 286 rfl) (by decide) e3 (a := b) SBE (argsL := [(.int (17 : Int32))]) (rest := [(.ref w), (.ref b)]) (rm54 l Z a0 hw [] b w cn g h0 n0 Z0 ⟨SBE, SBV, SBC, SBN, SBA, SBX⟩) 2 (by decide) (by decide) (by decide) (by decide) (by rw [hml]; rfl) pd_15 rfl rfl (Nat.le_of_eq rfl) (hb hby d29_24) rfl ?_
  intro v4 T4 L4 X4 hQ4
  obtain ⟨rfl, N4q, e4q⟩ := hQ4
  have N4 := Fr.app N0 N4q
  show OG (T4.setTop (mkF m 27 _ [(.int (34 : Int32)), (.ref w), (.ref b)]))
  refine own_go (fun _ q => XS.aloadN X4.here hx rfl (hb hby d29_27) rfl rfl q) ?_
  show OG (T4.setTop (mkF m 28 _ [(.ref b), (.int (34 : Int32)), (.ref w), (.ref b)]))
  obtain ⟨T5, X5, e5, st5⟩ := getF X4 hx hZ hown (host := "") (Or.inl (wd hw 143 rfl)) Via.refl e4q SBC (g := (mkF m 28 #[vR b, vI (17 : Int32), vI (16 : Int32)] [(.ref b), (.int (34 : Int32)), (.ref w), (.ref b)])) rfl rfl (hb hby d29_28)
  refine own_go st5 ?_
  show OG (T5.setTop (mkF m 31 _ [(.int (0 : Int32)), (.int (34 : Int32)), (.ref w), (.ref b)]))
  refine own_go (fun _ q => XS.ishl X5.here hx rfl (hb hby d29_31) rfl q) ?_
  show OG (T5.setTop (mkF m 32 #[vR b, vI (17 : Int32), vI (16 : Int32)] [(.int ((34 : Int32) <<< ((0 : Int32) &&& 31))), (.ref w), (.ref b)]))
  show OG (T5.setTop (mkF m 32 #[vR b, vI (17 : Int32), vI (16 : Int32)] [(.int (34 : Int32)), (.ref w), (.ref b)]))
  refine own_static X5 hx hZ hown (wd hw 296 rfl) (wd hw 297 rfl) (wd hw 251 rfl) (wd hw 298 rfl) (by decide) e5 (argsL := [(.ref w), (.int (34 : Int32))]) (rest := [(.ref b)]) (rm57 l Z a0 hw [] w g h0 n0 Z0 SBA) 1 (by decide) (by decide) (by decide) (by decide) (by rw [hml]; rfl) pd_16 rfl rfl (Nat.le_of_eq rfl) (hb hby d29_32) rfl ?_
  intro v6 T6 L6 X6 hQ6
  obtain ⟨r, rfl, N6q, K6, Gr, yr, Ar, Er⟩ := hQ6
  have N6 := Fr.app N4 N6q
  show OG (T6.setTop (mkF m 35 _ [(.ref r), (.ref b)]))
  have Z6 : n0 ≤ T6.heap.size := Nat.le_trans Z0 K6.1
  have nbr : b ≠ r := fun q => absurd (q ▸ SBE.lt) (Nat.not_lt.mpr yr)
  have f8 := (SBV.keep K6 nin0)
  have f9 := (SBE.keep K6)
  obtain ⟨T7, h7, X7, e7, W7, st7⟩ := putF X6 hx hZ hown (host := "") (Or.inl (wd hw 141 rfl)) Via.refl rfl f8 f9 (Or.inl (wd hw 142 rfl)) (wd hw 128 rfl) (ty := (.array .byte)) (by decide) rfl rfl (g := (mkF m 35 #[vR b, vI (17 : Int32), vI (16 : Int32)] [(.ref r), (.ref b)])) rfl rfl (hb hby d29_35)
  have N7 := Fr.snoc X7 N6 gb
  have Fw7 := f8.same W7
  have Z7 : n0 ≤ h7.size := by rw [W7.size]; exact Z6
  refine own_go st7 ?_
  show OG (T7.setTop (mkF m 38 _ []))
  have f10 := (Ar.other W7 (Ne.symm nbr))
  have Aq := f10.weak (g' := fun j => if j < 16 then g j else none) own_g16
  have f11 := (f9.wr W7)
  have f12 := ((SBC.keep K6 nin0).other W7 (Or.inr (slot_ne (Or.inl (wd hw 144 rfl)) (Or.inl (wd hw 142 rfl)) (by decide) (t := .byte) (t' := (.array .byte)) (by decide) (by decide))))
  have f13 := ((SBN.keep K6 nin0).other W7 (Or.inr (slot_ne (Or.inl (wd hw 163 rfl)) (Or.inl (wd hw 142 rfl)) (by decide) (t := .int) (t' := (.array .byte)) (by decide) (by decide))))
  have f14 := (Er.wr W7)
  have K : Keep h0 h7 [b] := (((Keep.refl h0 [b]).trans K6 all0).wr W7 (Or.inl (List.mem_cons_self ..)))
  subst e7
  exact own_retV X7 hx hlk hret (hb hby d29_38) (by decide) (by decide) ⟨rfl, N7, K, r, Gr, yr, ⟨f11, Fw7, f12, f13, Aq, f14⟩⟩
abbrev C28 := jdk_68_method_31_code
theorem d28_0 : decode C28 0 = .ok (.aload_n 0, 1) := by decide +kernel
theorem d28_1 : decode C28 1 = .ok (.aload_n 0, 1) := by decide +kernel
theorem d28_2 : decode C28 2 = .ok (.getfield 79, 3) := by decide +kernel
theorem d28_5 : decode C28 5 = .ok (.iconst 1, 1) := by decide +kernel
theorem d28_6 : decode C28 6 = .ok (.iadd, 1) := by decide +kernel
theorem d28_7 : decode C28 7 = .ok (.invokevirtual 100, 3) := by decide +kernel
theorem d28_10 : decode C28 10 = .ok (.aload_n 0, 1) := by decide +kernel
theorem d28_11 : decode C28 11 = .ok (.invokevirtual 83, 3) := by decide +kernel
theorem d28_14 : decode C28 14 = .ok (.ifCond .eq 31, 3) := by decide +kernel
theorem d28_17 : decode C28 17 = .ok (.iload_n 1, 1) := by decide +kernel
theorem d28_18 : decode C28 18 = .ok (.invokestatic 191, 3) := by decide +kernel
theorem d28_21 : decode C28 21 = .ok (.ifCond .eq 24, 3) := by decide +kernel
theorem d28_24 : decode C28 24 = .ok (.aload_n 0, 1) := by decide +kernel
theorem d28_25 : decode C28 25 = .ok (.getfield 15, 3) := by decide +kernel
theorem d28_28 : decode C28 28 = .ok (.aload_n 0, 1) := by decide +kernel
theorem d28_29 : decode C28 29 = .ok (.dup, 1) := by decide +kernel
theorem d28_30 : decode C28 30 = .ok (.getfield 79, 3) := by decide +kernel
theorem d28_33 : decode C28 33 = .ok (.dup_x1, 1) := by decide +kernel
theorem d28_34 : decode C28 34 = .ok (.iconst 1, 1) := by decide +kernel
theorem d28_35 : decode C28 35 = .ok (.iadd, 1) := by decide +kernel
theorem d28_36 : decode C28 36 = .ok (.putfield 79, 3) := by decide +kernel
theorem d28_39 : decode C28 39 = .ok (.iload_n 1, 1) := by decide +kernel
theorem d28_40 : decode C28 40 = .ok (.i2b, 1) := by decide +kernel
theorem d28_41 : decode C28 41 = .ok (.bastore, 1) := by decide +kernel
theorem d28_42 : decode C28 42 = .ok (.goto 33, 3) := by decide +kernel
theorem d28_75 : decode C28 75 = .ok (.aload_n 0, 1) := by decide +kernel
theorem d28_76 : decode C28 76 = .ok (.areturn, 1) := by decide +kernel
def Q28 (Z : State) (b : Addr) (w : Addr) (N : Nat) (zN : Int32) (k : Nat) (g : Nat → Option Nat) (ch : Nat) (zc : Int32) (h0 : Heap) (n0 : Nat) (v : Option Value) (h : Heap) (L : List Loc) : Prop := v = some (.ref b) ∧ Fr n0 L ∧ Keep h0 h [b, w] ∧ own_SB Z h b w N (Int32.ofNat (k + 1)) (fun j => if j = k then some ch else g j)
theorem ef_28 (m : MethodId) (x0 : Addr) (x1 : Int32) : entryFrame m #[(.ref x0), (.int x1)] 2 = mkF m 0 #[vR x0, vI x1] [] := by first | (simp [entryFrame, mkF, argsToLocals, Value.category]; done) | rfl
set_option maxRecDepth 65536 in
set_option maxHeartbeats 40000000 in
theorem rm28 (l : Launch) (Z : State) (a0 : Array Value) (hw : ∀ d ∈ tables_1, d.before a0 Z = true) (ws : List Jvm.Cond) (b : Addr) (w : Addr) (N : Nat) (zN : Int32) (k : Nat) (g : Nat → Option Nat) (ch : Nat) (zc : Int32) (h0 : Heap) (n0 : Nat) (Z0 : n0 ≤ h0.size) (SC : Sta Z Z.heap "java/lang/String" "COMPACT_STRINGS" "Z" (.int zc)) (hz0 : ¬ zc = 0) (Od : Old Z n0 h0) (SBf : own_SB Z h0 b w N (Int32.ofNat k) g) (hz : zN.toInt = (N : Int)) (hk : k + 1 ≤ N) (hN : N < 100) (hc7 : ch < 128) (gb : n0 ≤ b) (gw : n0 ≤ w) (nbw : b ≠ w) :
    own_Met l Z (⟨"java/lang/AbstractStringBuilder", "append", "(C)Ljava/lang/AbstractStringBuilder;"⟩ : MethodName) jdk_68_method_31_code 2 (some (.object "java/lang/AbstractStringBuilder")) ({ frames := 1, cells := 0, slots := 0, locals := 16 } : Room) ws #[(.ref b), (.int (Int32.ofNat ch))] h0 (Q28 Z b w N zN k g ch zc h0 n0) := by
  refine own_enter (plainFor_of_name (by first | (simp [plainName, overriddenIn]; done) | decide +kernel)) ?_
  intro p e s m below meth c s₁ hx hby hml hown hnm hlk hret hZ X0 e0
  have N0 := Fr.nil n0
  refine own_go (fun _ q => castTop (ef_28 m b (Int32.ofNat ch)) q) ?_
  show OG (s₁.setTop (mkF m 0 #[vR b, vI (Int32.ofNat ch)] []))
  have hch := own_ofNat hc7
  have hki := own_ofNatI (k := k) (by omega)
  obtain ⟨SBE, SBV, SBC, SBN, SBA, SBX⟩ := SBf
  refine own_go (fun _ q => XS.aloadN X0.here hx rfl (hb hby d28_0) rfl rfl (XS.aloadN X0.here hx rfl (hb hby d28_1) rfl rfl q)) ?_
  show OG (s₁.setTop (mkF m 2 _ [(.ref b), (.ref b)]))
  obtain ⟨T1, X1, e1, st1⟩ := getF X0 hx hZ hown (host := "") (Or.inl (wd hw 162 rfl)) Via.refl e0 SBN (g := (mkF m 2 #[vR b, vI (Int32.ofNat ch)] [(.ref b), (.ref b)])) rfl rfl (hb hby d28_2)
  refine own_go st1 ?_
  show OG (T1.setTop (mkF m 5 _ [(.int (Int32.ofNat k)), (.ref b)]))
  refine own_go (fun _ q => XS.iconst X1.here hx rfl (hb hby d28_5) (XS.iadd X1.here hx rfl (hb hby d28_6) rfl q)) ?_
  show OG (T1.setTop (mkF m 7 #[vR b, vI (Int32.ofNat ch)] [(.int ((Int32.ofNat k) + (1 : Int32))), (.ref b)]))
  rw [own_ofNat1]
  show OG (T1.setTop (mkF m 7 #[vR b, vI (Int32.ofNat ch)] [(.int (Int32.ofNat (k + 1))), (.ref b)]))
  refine own_privSel X1 hx hZ hown (wd hw 164 rfl) (wd hw 165 rfl) (wd hw 166 rfl) (wd hw 167 rfl) (wd hw 137 rfl) (wd hw 168 rfl) (by decide) e1 (a := b) SBE (argsL := [(.int (Int32.ofNat (k + 1)))]) (rest := []) (rm29 l Z a0 hw [] b w N (Int32.ofNat k) g (Int32.ofNat (k + 1)) zN h0 n0 Z0 ⟨SBE, SBV, SBC, SBN, SBA, SBX⟩ hz (by rw [own_ofNatI (by omega)]; omega) (by rw [own_ofNatI (by omega)]; omega)) 0 (by decide) (by decide) (by decide) (by decide) (by rw [hml]; rfl) pd_12 rfl rfl (Nat.le_of_eq rfl) (hb hby d28_7) rfl ?_
  intro v2 T2 L2 X2 hQ2
  obtain ⟨rfl, N2q, e2q⟩ := hQ2
  have N2 := Fr.app N0 N2q
  show OG (T2.setTop (mkF m 10 _ []))
  refine own_go (fun _ q => XS.aloadN X2.here hx rfl (hb hby d28_10) rfl rfl q) ?_
  show OG (T2.setTop (mkF m 11 _ [(.ref b)]))
  refine own_virtual X2 hx hZ hown (wd hw 169 rfl) (wd hw 170 rfl) (wd hw 172 rfl) (wd hw 171 rfl) (wd hw 137 rfl) (wd hw 173 rfl) (by decide) e2q (a := b) SBE (argsL := []) (rest := []) (rm30 l Z a0 hw [] b zc h0 n0 Z0 SC hz0 Od SBC) 0 (by decide) (by decide) (by decide) (by decide) (by rw [hml]; rfl) pd_3 rfl rfl (Nat.le_of_eq rfl) (hb hby d28_11) rfl ?_
  intro v3 T3 L3 X3 hQ3
  obtain ⟨rfl, N3q, e3q⟩ := hQ3
  have N3 := Fr.app N2 N3q
  show OG (T3.setTop (mkF m 14 _ [(.int (1 : Int32))]))
  refine own_go (fun _ q => XS.ifNo X3.here hx rfl (hb hby d28_14) rfl ((if0 _ _).trans (feq (by decide : ¬ ((1 : Int32) = (0 : Int32)))).1) q) ?_
  show OG (T3.setTop (mkF m 17 #[vR b, vI (Int32.ofNat ch)] []))
  refine own_go (fun _ q => XS.iloadN X3.here hx rfl (hb hby d28_17) rfl q) ?_
  show OG (T3.setTop (mkF m 18 _ [(.int (Int32.ofNat ch))]))
  refine own_static X3 hx hZ hown (wd hw 174 rfl) (wd hw 175 rfl) (wd hw 103 rfl) (wd hw 176 rfl) (by decide) e3q (argsL := [(.int (Int32.ofNat ch))]) (rest := []) (rm31 l Z a0 hw [] (Int32.ofNat ch) h0 n0 Z0 (own_nlt (x := 255) (y := Int32.ofNat ch) (by rw [hch]; have e255 : (255 : Int32).toInt = 255 := rfl; omega))) 0 (by decide) (by decide) (by decide) (by decide) (by rw [hml]; rfl) pd_7 rfl rfl (Nat.le_of_eq rfl) (hb hby d28_18) rfl ?_
  intro v4 T4 L4 X4 hQ4
  obtain ⟨rfl, N4q, e4q⟩ := hQ4
  have N4 := Fr.app N3 N4q
  show OG (T4.setTop (mkF m 21 _ [(.int (1 : Int32))]))
  refine own_go (fun _ q => XS.ifNo X4.here hx rfl (hb hby d28_21) rfl ((if0 _ _).trans (feq (by decide : ¬ ((1 : Int32) = (0 : Int32)))).1) q) ?_
  show OG (T4.setTop (mkF m 24 #[vR b, vI (Int32.ofNat ch)] []))
  refine own_go (fun _ q => XS.aloadN X4.here hx rfl (hb hby d28_24) rfl rfl q) ?_
  show OG (T4.setTop (mkF m 25 _ [(.ref b)]))
  obtain ⟨T5, X5, e5, st5⟩ := getF X4 hx hZ hown (host := "") (Or.inl (wd hw 141 rfl)) Via.refl e4q SBV (g := (mkF m 25 #[vR b, vI (Int32.ofNat ch)] [(.ref b)])) rfl rfl (hb hby d28_25)
  refine own_go st5 ?_
  show OG (T5.setTop (mkF m 28 _ [(.ref w)]))
  refine own_go (fun _ q => XS.aloadN X5.here hx rfl (hb hby d28_28) rfl rfl (XS.dup X5.here hx rfl (hb hby d28_29) rfl rfl q)) ?_
  show OG (T5.setTop (mkF m 30 #[vR b, vI (Int32.ofNat ch)] [(.ref b), (.ref b), (.ref w)]))
  obtain ⟨T6, X6, e6, st6⟩ := getF X5 hx hZ hown (host := "") (Or.inl (wd hw 162 rfl)) Via.refl e5 SBN (g := (mkF m 30 #[vR b, vI (Int32.ofNat ch)] [(.ref b), (.ref b), (.ref w)])) rfl rfl (hb hby d28_30)
  refine own_go st6 ?_
  show OG (T6.setTop (mkF m 33 _ [(.int (Int32.ofNat k)), (.ref b), (.ref w)]))
  refine own_go (fun _ q => XS.dupX1 X6.here hx rfl (hb hby d28_33) rfl rfl rfl (XS.iconst X6.here hx rfl (hb hby d28_34) (XS.iadd X6.here hx rfl (hb hby d28_35) rfl q))) ?_
  show OG (T6.setTop (mkF m 36 _ [(.int ((Int32.ofNat k) + (1 : Int32))), (.ref b), (.int (Int32.ofNat k)), (.ref w)]))
  rw [own_ofNat1]
  show OG (T6.setTop (mkF m 36 #[vR b, vI (Int32.ofNat ch)] [(.int (Int32.ofNat (k + 1))), (.ref b), (.int (Int32.ofNat k)), (.ref w)]))
  obtain ⟨T7, h7, X7, e7, W7, st7⟩ := putF X6 hx hZ hown (host := "") (Or.inl (wd hw 162 rfl)) Via.refl e6 SBN SBE (Or.inl (wd hw 163 rfl)) (wd hw 128 rfl) (ty := .int) (by decide) rfl rfl (g := (mkF m 36 #[vR b, vI (Int32.ofNat ch)] [(.int (Int32.ofNat (k + 1))), (.ref b), (.int (Int32.ofNat k)), (.ref w)])) rfl rfl (hb hby d28_36)
  have N7 := Fr.snoc X7 N4 gb
  have Fw7 := SBN.same W7
  have Z7 : n0 ≤ h7.size := by rw [W7.size]; exact Z0
  refine own_go st7 ?_
  show OG (T7.setTop (mkF m 39 _ [(.int (Int32.ofNat k)), (.ref w)]))
  refine own_go (fun _ q => XS.iloadN X7.here hx rfl (hb hby d28_39) rfl (XS.i2b X7.here hx rfl (hb hby d28_40) rfl q)) ?_
  show OG (T7.setTop (mkF m 41 _ [(.int ((Int32.ofNat ch).toInt8.toInt32)), (.int (Int32.ofNat k)), (.ref w)]))
  have f9 := (SBA.other W7 (Ne.symm nbw))
  refine own_bstore (i := k) (v := ch) X7 hx hZ e7 f9 hc7 (own_i2b hc7) hki (by omega) (hb hby d28_41) rfl ?_
  intro T8 h8 X8 e8 W8 A8
  have N8 := Fr.snoc X8 N7 gw
  have Z8 : n0 ≤ h8.size := by rw [W8.size]; exact Z7
  show OG (T8.setTop (mkF m 42 _ []))
  refine own_go (fun _ q => XS.goto X8.here hx rfl (pc0 := 42) (pc' := 75) rfl (hb hby d28_42) (by decide) (by decide) (XS.aloadN X8.here hx rfl (hb hby d28_75) rfl rfl q)) ?_
  show OG (T8.setTop (mkF m 76 #[vR b, vI (Int32.ofNat ch)] [(.ref b)]))
  have f10 := ((SBE.wr W7).wr W8)
  have f11 := ((SBV.other W7 (Or.inr (slot_ne (Or.inl (wd hw 142 rfl)) (Or.inl (wd hw 163 rfl)) (by decide) (t := (.array .byte)) (t' := .int) (by decide) (by decide)))).other W8 (Or.inl nbw))
  have f12 := ((SBC.other W7 (Or.inr (slot_ne (Or.inl (wd hw 144 rfl)) (Or.inl (wd hw 163 rfl)) (by decide) (t := .byte) (t' := .int) (by decide) (by decide)))).other W8 (Or.inl nbw))
  have f13 := (Fw7.other W8 (Or.inl nbw))
  have f14 := ((SBX.wr W7).wr W8)
  have K : Keep h0 h8 [b, w] := (((Keep.refl h0 [b, w]).wr W7 (Or.inl (List.mem_cons_self ..))).wr W8 (Or.inl (List.mem_cons_of_mem _ (List.mem_cons_self ..))))
  subst e8
  exact own_retR X8 hx hlk hret rfl rfl rfl (hb hby d28_76) (by decide) (by decide) ⟨rfl, N8, K, ⟨f10, f11, f12, f13, A8, f14⟩⟩
def Q28b (Z : State) (b : Addr) (w : Addr) (g : Nat → Option Nat) (ch : Nat) (zc : Int32) (h0 : Heap) (n0 : Nat) (v : Option Value) (h : Heap) (L : List Loc) : Prop := v = some (.ref b) ∧ Fr n0 L ∧ Keep h0 h [b] ∧ ∃ r : Addr, n0 ≤ r ∧ h0.size ≤ r ∧ own_SB Z h b r 34 (17 : Int32) (fun j => if j = 16 then some ch else if j < 16 then g j else none)
theorem ef_28b (m : MethodId) (x0 : Addr) (x1 : Int32) : entryFrame m #[(.ref x0), (.int x1)] 2 = mkF m 0 #[vR x0, vI x1] [] := by first | (simp [entryFrame, mkF, argsToLocals, Value.category]; done) | rfl
set_option maxRecDepth 65536 in
set_option maxHeartbeats 40000000 in
theorem rm28b (l : Launch) (Z : State) (a0 : Array Value) (hw : ∀ d ∈ tables_1, d.before a0 Z = true) (ws : List Jvm.Cond) (b : Addr) (w : Addr) (g : Nat → Option Nat) (ch : Nat) (zc : Int32) (h0 : Heap) (n0 : Nat) (Z0 : n0 ≤ h0.size) (SC : Sta Z Z.heap "java/lang/String" "COMPACT_STRINGS" "Z" (.int zc)) (hz0 : ¬ zc = 0) (Od : Old Z n0 h0) (SBf : own_SB Z h0 b w 16 (16 : Int32) g) (hc7 : ch < 128) (gb : n0 ≤ b) (nbw : b ≠ w) :
    own_Met l Z (⟨"java/lang/AbstractStringBuilder", "append", "(C)Ljava/lang/AbstractStringBuilder;"⟩ : MethodName) jdk_68_method_31_code 2 (some (.object "java/lang/AbstractStringBuilder")) ({ frames := 4, cells := 1, slots := 34, locals := 66 } : Room) ws #[(.ref b), (.int (Int32.ofNat ch))] h0 (Q28b Z b w g ch zc h0 n0) := by
  refine own_enter (plainFor_of_name (by first | (simp [plainName, overriddenIn]; done) | decide +kernel)) ?_
  intro p e s m below meth c s₁ hx hby hml hown hnm hlk hret hZ X0 e0
  have N0 := Fr.nil n0
  refine own_go (fun _ q => castTop (ef_28b m b (Int32.ofNat ch)) q) ?_
  show OG (s₁.setTop (mkF m 0 #[vR b, vI (Int32.ofNat ch)] []))
  have hch := own_ofNat hc7
  obtain ⟨SBE, SBV, SBC, SBN, SBA, SBX⟩ := SBf
  refine own_go (fun _ q => XS.aloadN X0.here hx rfl (hb hby d28_0) rfl rfl (XS.aloadN X0.here hx rfl (hb hby d28_1) rfl rfl q)) ?_
  show OG (s₁.setTop (mkF m 2 _ [(.ref b), (.ref b)]))
  obtain ⟨T1, X1, e1, st1⟩ := getF X0 hx hZ hown (host := "") (Or.inl (wd hw 162 rfl)) Via.refl e0 SBN (g := (mkF m 2 #[vR b, vI (Int32.ofNat ch)] [(.ref b), (.ref b)])) rfl rfl (hb hby d28_2)
  refine own_go st1 ?_
  show OG (T1.setTop (mkF m 5 _ [(.int (16 : Int32)), (.ref b)]))
  refine own_go (fun _ q => XS.iconst X1.here hx rfl (hb hby d28_5) (XS.iadd X1.here hx rfl (hb hby d28_6) rfl q)) ?_
  show OG (T1.setTop (mkF m 7 #[vR b, vI (Int32.ofNat ch)] [(.int ((16 : Int32) + (1 : Int32))), (.ref b)]))
  show OG (T1.setTop (mkF m 7 #[vR b, vI (Int32.ofNat ch)] [(.int (17 : Int32)), (.ref b)]))
  refine own_privSel X1 hx hZ hown (wd hw 164 rfl) (wd hw 165 rfl) (wd hw 166 rfl) (wd hw 167 rfl) (wd hw 137 rfl) (wd hw 168 rfl) (by decide) e1 (a := b) SBE (argsL := [(.int (17 : Int32))]) (rest := []) (rm29b l Z a0 hw [] b w (16 : Int32) g h0 n0 Z0 ⟨SBE, SBV, SBC, SBN, SBA, SBX⟩ gb nbw) 0 (by decide) (by decide) (by decide) (by decide) (by rw [hml]; rfl) pd_12 rfl rfl (Nat.le_of_eq rfl) (hb hby d28_7) rfl ?_
  intro v2 T2 L2 X2 hQ2
  obtain ⟨rfl, N2q, K2, r, Gr, yr, SB2⟩ := hQ2
  have N2 := Fr.app N0 N2q
  show OG (T2.setTop (mkF m 10 _ []))
  have nbr : b ≠ r := fun q => absurd (q ▸ SBE.lt) (Nat.not_lt.mpr yr)
  have Z2 : n0 ≤ T2.heap.size := Nat.le_trans Z0 K2.1
  obtain ⟨S2E, S2V, S2C, S2N, S2A, S2X⟩ := SB2
  refine own_go (fun _ q => XS.aloadN X2.here hx rfl (hb hby d28_10) rfl rfl q) ?_
  show OG (T2.setTop (mkF m 11 _ [(.ref b)]))
  have f3 := (Od.keep K2 (allS gb all0))
  refine own_virtual X2 hx hZ hown (wd hw 169 rfl) (wd hw 170 rfl) (wd hw 172 rfl) (wd hw 171 rfl) (wd hw 137 rfl) (wd hw 173 rfl) (by decide) rfl (a := b) S2E (argsL := []) (rest := []) (rm30 l Z a0 hw [] b zc T2.heap n0 Z2 SC hz0 f3 S2C) 0 (by decide) (by decide) (by decide) (by decide) (by rw [hml]; rfl) pd_3 rfl rfl (Nat.le_of_eq rfl) (hb hby d28_11) rfl ?_
  intro v4 T4 L4 X4 hQ4
  obtain ⟨rfl, N4q, e4q⟩ := hQ4
  have N4 := Fr.app N2 N4q
  show OG (T4.setTop (mkF m 14 _ [(.int (1 : Int32))]))
  refine own_go (fun _ q => XS.ifNo X4.here hx rfl (hb hby d28_14) rfl ((if0 _ _).trans (feq (by decide : ¬ ((1 : Int32) = (0 : Int32)))).1) q) ?_
  show OG (T4.setTop (mkF m 17 #[vR b, vI (Int32.ofNat ch)] []))
  refine own_go (fun _ q => XS.iloadN X4.here hx rfl (hb hby d28_17) rfl q) ?_
  show OG (T4.setTop (mkF m 18 _ [(.int (Int32.ofNat ch))]))
  refine own_static X4 hx hZ hown (wd hw 174 rfl) (wd hw 175 rfl) (wd hw 103 rfl) (wd hw 176 rfl) (by decide) e4q (argsL := [(.int (Int32.ofNat ch))]) (rest := []) (rm31 l Z a0 hw [] (Int32.ofNat ch) T2.heap n0 Z2 (own_nlt (x := 255) (y := Int32.ofNat ch) (by rw [hch]; have e255 : (255 : Int32).toInt = 255 := rfl; omega))) 0 (by decide) (by decide) (by decide) (by decide) (by rw [hml]; rfl) pd_7 rfl rfl (Nat.le_of_eq rfl) (hb hby d28_18) rfl ?_
  intro v5 T5 L5 X5 hQ5
  obtain ⟨rfl, N5q, e5q⟩ := hQ5
  have N5 := Fr.app N4 N5q
  show OG (T5.setTop (mkF m 21 _ [(.int (1 : Int32))]))
  refine own_go (fun _ q => XS.ifNo X5.here hx rfl (hb hby d28_21) rfl ((if0 _ _).trans (feq (by decide : ¬ ((1 : Int32) = (0 : Int32)))).1) q) ?_
  show OG (T5.setTop (mkF m 24 #[vR b, vI (Int32.ofNat ch)] []))
  refine own_go (fun _ q => XS.aloadN X5.here hx rfl (hb hby d28_24) rfl rfl q) ?_
  show OG (T5.setTop (mkF m 25 _ [(.ref b)]))
  obtain ⟨T6, X6, e6, st6⟩ := getF X5 hx hZ hown (host := "") (Or.inl (wd hw 141 rfl)) Via.refl e5q S2V (g := (mkF m 25 #[vR b, vI (Int32.ofNat ch)] [(.ref b)])) rfl rfl (hb hby d28_25)
  refine own_go st6 ?_
  show OG (T6.setTop (mkF m 28 _ [(.ref r)]))
  refine own_go (fun _ q => XS.aloadN X6.here hx rfl (hb hby d28_28) rfl rfl (XS.dup X6.here hx rfl (hb hby d28_29) rfl rfl q)) ?_
  show OG (T6.setTop (mkF m 30 #[vR b, vI (Int32.ofNat ch)] [(.ref b), (.ref b), (.ref r)]))
  obtain ⟨T7, X7, e7, st7⟩ := getF X6 hx hZ hown (host := "") (Or.inl (wd hw 162 rfl)) Via.refl e6 S2N (g := (mkF m 30 #[vR b, vI (Int32.ofNat ch)] [(.ref b), (.ref b), (.ref r)])) rfl rfl (hb hby d28_30)
  refine own_go st7 ?_
  show OG (T7.setTop (mkF m 33 _ [(.int (16 : Int32)), (.ref b), (.ref r)]))
  refine own_go (fun _ q => XS.dupX1 X7.here hx rfl (hb hby d28_33) rfl rfl rfl (XS.iconst X7.here hx rfl (hb hby d28_34) (XS.iadd X7.here hx rfl (hb hby d28_35) rfl q))) ?_
  show OG (T7.setTop (mkF m 36 _ [(.int ((16 : Int32) + (1 : Int32))), (.ref b), (.int (16 : Int32)), (.ref r)]))
  show OG (T7.setTop (mkF m 36 #[vR b, vI (Int32.ofNat ch)] [(.int (17 : Int32)), (.ref b), (.int (16 : Int32)), (.ref r)]))
  obtain ⟨T8, h8, X8, e8, W8, st8⟩ := putF X7 hx hZ hown (host := "") (Or.inl (wd hw 162 rfl)) Via.refl e7 S2N S2E (Or.inl (wd hw 163 rfl)) (wd hw 128 rfl) (ty := .int) (by decide) rfl rfl (g := (mkF m 36 #[vR b, vI (Int32.ofNat ch)] [(.int (17 : Int32)), (.ref b), (.int (16 : Int32)), (.ref r)])) rfl rfl (hb hby d28_36)
  have N8 := Fr.snoc X8 N5 gb
  have Fw8 := S2N.same W8
  have Z8 : n0 ≤ h8.size := by rw [W8.size]; exact Z2
  refine own_go st8 ?_
  show OG (T8.setTop (mkF m 39 _ [(.int (16 : Int32)), (.ref r)]))
  refine own_go (fun _ q => XS.iloadN X8.here hx rfl (hb hby d28_39) rfl (XS.i2b X8.here hx rfl (hb hby d28_40) rfl q)) ?_
  show OG (T8.setTop (mkF m 41 _ [(.int ((Int32.ofNat ch).toInt8.toInt32)), (.int (16 : Int32)), (.ref r)]))
  have f10 := (S2A.other W8 (Ne.symm nbr))
  refine own_bstore (i := 16) (v := ch) X8 hx hZ e8 f10 hc7 (own_i2b hc7) rfl (by decide) (hb hby d28_41) rfl ?_
  intro T9 h9 X9 e9 W9 A9
  have N9 := Fr.snoc X9 N8 Gr
  have Z9 : n0 ≤ h9.size := by rw [W9.size]; exact Z8
  show OG (T9.setTop (mkF m 42 _ []))
  refine own_go (fun _ q => XS.goto X9.here hx rfl (pc0 := 42) (pc' := 75) rfl (hb hby d28_42) (by decide) (by decide) (XS.aloadN X9.here hx rfl (hb hby d28_75) rfl rfl q)) ?_
  show OG (T9.setTop (mkF m 76 #[vR b, vI (Int32.ofNat ch)] [(.ref b)]))
  have f11 := ((S2E.wr W8).wr W9)
  have f12 := ((S2V.other W8 (Or.inr (slot_ne (Or.inl (wd hw 142 rfl)) (Or.inl (wd hw 163 rfl)) (by decide) (t := (.array .byte)) (t' := .int) (by decide) (by decide)))).other W9 (Or.inl nbr))
  have f13 := ((S2C.other W8 (Or.inr (slot_ne (Or.inl (wd hw 144 rfl)) (Or.inl (wd hw 163 rfl)) (by decide) (t := .byte) (t' := .int) (by decide) (by decide)))).other W9 (Or.inl nbr))
  have f14 := (Fw8.other W9 (Or.inl nbr))
  have f15 := ((S2X.wr W8).wr W9)
  have K : Keep h0 h9 [b] := ((((Keep.refl h0 [b]).trans K2 (allS (Or.inl (List.mem_cons_self ..)) all0)).wr W8 (Or.inl (List.mem_cons_self ..))).wr W9 (Or.inr yr))
  subst e9
  exact own_retR X9 hx hlk hret rfl rfl rfl (hb hby d28_76) (by decide) (by decide) ⟨rfl, N9, K, r, Gr, yr, ⟨f11, f12, f13, f14, A9, f15⟩⟩
abbrev C27 := jdk_67_method_14_code
theorem d27_0 : decode C27 0 = .ok (.aload_n 0, 1) := by decide +kernel
theorem d27_1 : decode C27 1 = .ok (.iload_n 1, 1) := by decide +kernel
theorem d27_2 : decode C27 2 = .ok (.invokespecial 50, 3) := by decide +kernel
theorem d27_5 : decode C27 5 = .ok (.pop, 1) := by decide +kernel
theorem d27_6 : decode C27 6 = .ok (.aload_n 0, 1) := by decide +kernel
theorem d27_7 : decode C27 7 = .ok (.areturn, 1) := by decide +kernel
def Q27 (Z : State) (b : Addr) (w : Addr) (N : Nat) (zN : Int32) (k : Nat) (g : Nat → Option Nat) (ch : Nat) (zc : Int32) (h0 : Heap) (n0 : Nat) (v : Option Value) (h : Heap) (L : List Loc) : Prop := v = some (.ref b) ∧ Fr n0 L ∧ Keep h0 h [b, w] ∧ own_SB Z h b w N (Int32.ofNat (k + 1)) (fun j => if j = k then some ch else g j)
theorem ef_27 (m : MethodId) (x0 : Addr) (x1 : Int32) : entryFrame m #[(.ref x0), (.int x1)] 2 = mkF m 0 #[vR x0, vI x1] [] := by first | (simp [entryFrame, mkF, argsToLocals, Value.category]; done) | rfl
set_option maxRecDepth 65536 in
set_option maxHeartbeats 40000000 in
theorem rm27 (l : Launch) (Z : State) (a0 : Array Value) (hw : ∀ d ∈ tables_1, d.before a0 Z = true) (ws : List Jvm.Cond) (b : Addr) (w : Addr) (N : Nat) (zN : Int32) (k : Nat) (g : Nat → Option Nat) (ch : Nat) (zc : Int32) (h0 : Heap) (n0 : Nat) (Z0 : n0 ≤ h0.size) (SC : Sta Z Z.heap "java/lang/String" "COMPACT_STRINGS" "Z" (.int zc)) (hz0 : ¬ zc = 0) (Od : Old Z n0 h0) (SBf : own_SB Z h0 b w N (Int32.ofNat k) g) (hz : zN.toInt = (N : Int)) (hk : k + 1 ≤ N) (hN : N < 100) (hc7 : ch < 128) (gb : n0 ≤ b) (gw : n0 ≤ w) (nbw : b ≠ w) :
    own_Met l Z (⟨"java/lang/StringBuilder", "append", "(C)Ljava/lang/StringBuilder;"⟩ : MethodName) jdk_67_method_14_code 2 (some (.object "java/lang/StringBuilder")) ({ frames := 2, cells := 0, slots := 0, locals := 30 } : Room) ws #[(.ref b), (.int (Int32.ofNat ch))] h0 (Q27 Z b w N zN k g ch zc h0 n0) := by
  refine own_enter (plainFor_of_name (by first | (simp [plainName, overriddenIn]; done) | decide +kernel)) ?_
  intro p e s m below meth c s₁ hx hby hml hown hnm hlk hret hZ X0 e0
  have N0 := Fr.nil n0
  refine own_go (fun _ q => castTop (ef_27 m b (Int32.ofNat ch)) q) ?_
  show OG (s₁.setTop (mkF m 0 #[vR b, vI (Int32.ofNat ch)] []))
  refine own_go (fun _ q => XS.aloadN X0.here hx rfl (hb hby d27_0) rfl rfl (XS.iloadN X0.here hx rfl (hb hby d27_1) rfl q)) ?_
  show OG (s₁.setTop (mkF m 2 _ [(.int (Int32.ofNat ch)), (.ref b)]))
  refine own_super X0 hx hZ (by decide) hown (wd hw 157 rfl) (own_same (wd hw 158 rfl) (wd hw 172 rfl) (wd hw 171 rfl) rfl (by decide)) (wd hw 158 rfl) (wd hw 159 rfl) (wd hw 137 rfl) (wd hw 161 rfl) e0 (a := b) SBf.1 (argsL := [(.int (Int32.ofNat ch))]) (rest := []) (rm28 l Z a0 hw [] b w N zN k g ch zc h0 n0 Z0 SC hz0 Od SBf hz hk hN hc7 gb gw nbw) 0 (by decide) (by decide) (by decide) (by decide) (by rw [hml]; rfl) pd_17 rfl rfl (Nat.le_of_eq rfl) (hb hby d27_2) rfl ?_
  intro v1 T1 L1 X1 hQ1
  obtain ⟨rfl, N1q, K1, G3⟩ := hQ1
  have N1 := Fr.app N0 N1q
  show OG (T1.setTop (mkF m 5 _ [(.ref b)]))
  refine own_go (fun _ q => XS.pop X1.here hx rfl (hb hby d27_5) rfl rfl (XS.aloadN X1.here hx rfl (hb hby d27_6) rfl rfl q)) ?_
  show OG (T1.setTop (mkF m 7 #[vR b, vI (Int32.ofNat ch)] [(.ref b)]))
  exact own_retR X1 hx hlk hret rfl rfl rfl (hb hby d27_7) (by decide) (by decide) ⟨rfl, N1, K1, G3⟩
def Q27b (Z : State) (b : Addr) (w : Addr) (g : Nat → Option Nat) (ch : Nat) (zc : Int32) (h0 : Heap) (n0 : Nat) (v : Option Value) (h : Heap) (L : List Loc) : Prop := v = some (.ref b) ∧ Fr n0 L ∧ Keep h0 h [b] ∧ ∃ r : Addr, n0 ≤ r ∧ h0.size ≤ r ∧ own_SB Z h b r 34 (17 : Int32) (fun j => if j = 16 then some ch else if j < 16 then g j else none)
theorem ef_27b (m : MethodId) (x0 : Addr) (x1 : Int32) : entryFrame m #[(.ref x0), (.int x1)] 2 = mkF m 0 #[vR x0, vI x1] [] := by first | (simp [entryFrame, mkF, argsToLocals, Value.category]; done) | rfl
set_option maxRecDepth 65536 in
set_option maxHeartbeats 40000000 in
theorem rm27b (l : Launch) (Z : State) (a0 : Array Value) (hw : ∀ d ∈ tables_1, d.before a0 Z = true) (ws : List Jvm.Cond) (b : Addr) (w : Addr) (g : Nat → Option Nat) (ch : Nat) (zc : Int32) (h0 : Heap) (n0 : Nat) (Z0 : n0 ≤ h0.size) (SC : Sta Z Z.heap "java/lang/String" "COMPACT_STRINGS" "Z" (.int zc)) (hz0 : ¬ zc = 0) (Od : Old Z n0 h0) (SBf : own_SB Z h0 b w 16 (16 : Int32) g) (hc7 : ch < 128) (gb : n0 ≤ b) (nbw : b ≠ w) :
    own_Met l Z (⟨"java/lang/StringBuilder", "append", "(C)Ljava/lang/StringBuilder;"⟩ : MethodName) jdk_67_method_14_code 2 (some (.object "java/lang/StringBuilder")) ({ frames := 5, cells := 1, slots := 34, locals := 80 } : Room) ws #[(.ref b), (.int (Int32.ofNat ch))] h0 (Q27b Z b w g ch zc h0 n0) := by
  refine own_enter (plainFor_of_name (by first | (simp [plainName, overriddenIn]; done) | decide +kernel)) ?_
  intro p e s m below meth c s₁ hx hby hml hown hnm hlk hret hZ X0 e0
  have N0 := Fr.nil n0
  refine own_go (fun _ q => castTop (ef_27b m b (Int32.ofNat ch)) q) ?_
  show OG (s₁.setTop (mkF m 0 #[vR b, vI (Int32.ofNat ch)] []))
  refine own_go (fun _ q => XS.aloadN X0.here hx rfl (hb hby d27_0) rfl rfl (XS.iloadN X0.here hx rfl (hb hby d27_1) rfl q)) ?_
  show OG (s₁.setTop (mkF m 2 _ [(.int (Int32.ofNat ch)), (.ref b)]))
  refine own_super X0 hx hZ (by decide) hown (wd hw 157 rfl) (own_same (wd hw 158 rfl) (wd hw 172 rfl) (wd hw 171 rfl) rfl (by decide)) (wd hw 158 rfl) (wd hw 159 rfl) (wd hw 137 rfl) (wd hw 161 rfl) e0 (a := b) SBf.1 (argsL := [(.int (Int32.ofNat ch))]) (rest := []) (rm28b l Z a0 hw [] b w g ch zc h0 n0 Z0 SC hz0 Od SBf hc7 gb nbw) 0 (by decide) (by decide) (by decide) (by decide) (by rw [hml]; rfl) pd_17 rfl rfl (Nat.le_of_eq rfl) (hb hby d27_2) rfl ?_
  intro v1 T1 L1 X1 hQ1
  obtain ⟨rfl, N1q, K1, r, G1, G2, G3⟩ := hQ1
  have N1 := Fr.app N0 N1q
  show OG (T1.setTop (mkF m 5 _ [(.ref b)]))
  refine own_go (fun _ q => XS.pop X1.here hx rfl (hb hby d27_5) rfl rfl (XS.aloadN X1.here hx rfl (hb hby d27_6) rfl rfl q)) ?_
  show OG (T1.setTop (mkF m 7 #[vR b, vI (Int32.ofNat ch)] [(.ref b)]))
  exact own_retR X1 hx hlk hret rfl rfl rfl (hb hby d27_7) (by decide) (by decide) ⟨rfl, N1, K1, r, G1, G2, G3⟩
abbrev C40 := jdk_42_method_147_code
theorem d40_0 : decode C40 0 = .ok (.aload_n 0, 1) := by decide +kernel
theorem d40_1 : decode C40 1 = .ok (.invokevirtual 335, 3) := by decide +kernel
theorem d40_4 : decode C40 4 = .ok (.iload_n 3, 1) := by decide +kernel
theorem d40_5 : decode C40 5 = .ok (.if_icmp .ne 23, 3) := by decide +kernel
theorem d40_8 : decode C40 8 = .ok (.aload_n 0, 1) := by decide +kernel
theorem d40_9 : decode C40 9 = .ok (.getfield 9, 3) := by decide +kernel
theorem d40_12 : decode C40 12 = .ok (.iconst 0, 1) := by decide +kernel
theorem d40_13 : decode C40 13 = .ok (.aload_n 1, 1) := by decide +kernel
theorem d40_14 : decode C40 14 = .ok (.iload_n 2, 1) := by decide +kernel
theorem d40_15 : decode C40 15 = .ok (.iload_n 3, 1) := by decide +kernel
theorem d40_16 : decode C40 16 = .ok (.ishl, 1) := by decide +kernel
theorem d40_17 : decode C40 17 = .ok (.aload_n 0, 1) := by decide +kernel
theorem d40_18 : decode C40 18 = .ok (.getfield 9, 3) := by decide +kernel
theorem d40_21 : decode C40 21 = .ok (.arraylength, 1) := by decide +kernel
theorem d40_22 : decode C40 22 = .ok (.invokestatic 212, 3) := by decide +kernel
theorem d40_25 : decode C40 25 = .ok (.goto 18, 3) := by decide +kernel
theorem d40_43 : decode C40 43 = .ok (.return_, 1) := by decide +kernel
def Q40 (Z : State) (a : Addr) (v_ : Addr) (n : Nat) (gs : Nat → Option Nat) (w : Addr) (N : Nat) (k : Nat) (g : Nat → Option Nat) (zc : Int32) (h0 : Heap) (n0 : Nat) (v : Option Value) (h : Heap) (L : List Loc) : Prop := v = none ∧ Fr n0 L ∧ Keep h0 h [w] ∧ own_By Z h w .byte N (fun j => if k ≤ j ∧ j < k + n then gs (0 + (j - k)) else g j)
theorem ef_40 (m : MethodId) (x0 : Addr) (x1 : Addr) (x2 : Int32) (x3 : Int32) : entryFrame m #[(.ref x0), (.ref x1), (.int x2), (.int x3)] 4 = mkF m 0 #[vR x0, vR x1, vI x2, vI x3] [] := by first | (simp [entryFrame, mkF, argsToLocals, Value.category]; done) | rfl
set_option maxRecDepth 65536 in
set_option maxHeartbeats 40000000 in
theorem rm40 (l : Launch) (Z : State) (a0 : Array Value) (hw : ∀ d ∈ tables_1, d.before a0 Z = true) (ws : List Jvm.Cond) (a : Addr) (v_ : Addr) (n : Nat) (gs : Nat → Option Nat) (w : Addr) (N : Nat) (k : Nat) (g : Nat → Option Nat) (zc : Int32) (h0 : Heap) (n0 : Nat) (Z0 : n0 ≤ h0.size) (SC : Sta Z Z.heap "java/lang/String" "COMPACT_STRINGS" "Z" (.int zc)) (hz0 : ¬ zc = 0) (Od : Old Z n0 h0) (Ea : Exa Z h0 a "java/lang/String") (Fc : Fld Z h0 a "java/lang/String" "coder" "B" (.int 0)) (Fv : Fld Z h0 a "java/lang/String" "value" "[B" (.ref v_)) (Av : own_By Z h0 v_ .byte n gs) (Aw : own_By Z h0 w .byte N g) (hkn : k + n ≤ N) (hN : N < 100) (gw : n0 ≤ w) :
    own_Met l Z (⟨"java/lang/String", "getBytes", "([BIB)V"⟩ : MethodName) jdk_42_method_147_code 4 none ({ frames := 1, cells := 0, slots := 0, locals := 30 } : Room) ws #[(.ref a), (.ref w), (.int (Int32.ofNat k)), (.int (0 : Int32))] h0 (Q40 Z a v_ n gs w N k g zc h0 n0) := by
  refine own_enter (plainFor_of_name (by first | (simp [plainName, overriddenIn]; done) | decide +kernel)) ?_
  intro p e s m below meth c s₁ hx hby hml hown hnm hlk hret hZ X0 e0
  have N0 := Fr.nil n0
  refine own_go (fun _ q => castTop (ef_40 m a w (Int32.ofNat k) (0 : Int32)) q) ?_
  show OG (s₁.setTop (mkF m 0 #[vR a, vR w, vI (Int32.ofNat k), vI (0 : Int32)] []))
  have hki := own_ofNatI (k := k) (by omega)
  have hni := own_ofNatI (k := n) (by omega)
  refine own_go (fun _ q => XS.aloadN X0.here hx rfl (hb hby d40_0) rfl rfl q) ?_
  show OG (s₁.setTop (mkF m 1 _ [(.ref a)]))
  refine own_virtual X0 hx hZ hown (wd hw 86 rfl) (wd hw 87 rfl) (wd hw 89 rfl) (wd hw 88 rfl) (wd hw 10 rfl) (wd hw 90 rfl) (by decide) e0 (a := a) Ea (argsL := []) (rest := []) (rm16 l Z a0 hw [] a zc h0 n0 Z0 SC hz0 Od Fc) 0 (by decide) (by decide) (by decide) (by decide) (by rw [hml]; rfl) pd_0 rfl rfl (Nat.le_of_eq rfl) (hb hby d40_1) rfl ?_
  intro v1 T1 L1 X1 hQ1
  obtain ⟨rfl, N1q, e1q⟩ := hQ1
  have N1 := Fr.app N0 N1q
  show OG (T1.setTop (mkF m 4 _ [(.int (0 : Int32))]))
  refine own_go (fun _ q => XS.iloadN X1.here hx rfl (hb hby d40_4) rfl q) ?_
  show OG (T1.setTop (mkF m 5 #[vR a, vR w, vI (Int32.ofNat k), vI (0 : Int32)] [(.int (0 : Int32)), (.int (0 : Int32))]))
  refine own_go (fun _ q => XS.icmpNo X1.here hx rfl (hb hby d40_5) rfl (teq (by decide : (0 : Int32) = (0 : Int32))).2 q) ?_
  show OG (T1.setTop (mkF m 8 #[vR a, vR w, vI (Int32.ofNat k), vI (0 : Int32)] []))
  refine own_go (fun _ q => XS.aloadN X1.here hx rfl (hb hby d40_8) rfl rfl q) ?_
  show OG (T1.setTop (mkF m 9 _ [(.ref a)]))
  obtain ⟨T2, X2, e2, st2⟩ := getF X1 hx hZ hown (host := "") (Or.inl (wd hw 36 rfl)) Via.refl e1q Fv (g := (mkF m 9 #[vR a, vR w, vI (Int32.ofNat k), vI (0 : Int32)] [(.ref a)])) rfl rfl (hb hby d40_9)
  refine own_go st2 ?_
  show OG (T2.setTop (mkF m 12 _ [(.ref v_)]))
  refine own_go (fun _ q => XS.iconst X2.here hx rfl (hb hby d40_12) (XS.aloadN X2.here hx rfl (hb hby d40_13) rfl rfl (XS.iloadN X2.here hx rfl (hb hby d40_14) rfl (XS.iloadN X2.here hx rfl (hb hby d40_15) rfl (XS.ishl X2.here hx rfl (hb hby d40_16) rfl q))))) ?_
  show OG (T2.setTop (mkF m 17 #[vR a, vR w, vI (Int32.ofNat k), vI (0 : Int32)] [(.int ((Int32.ofNat k) <<< ((0 : Int32) &&& 31))), (.ref w), (.int (0 : Int32)), (.ref v_)]))
  rw [own_shl0]
  show OG (T2.setTop (mkF m 17 #[vR a, vR w, vI (Int32.ofNat k), vI (0 : Int32)] [(.int (Int32.ofNat k)), (.ref w), (.int (0 : Int32)), (.ref v_)]))
  refine own_go (fun _ q => XS.aloadN X2.here hx rfl (hb hby d40_17) rfl rfl q) ?_
  show OG (T2.setTop (mkF m 18 _ [(.ref a), (.int (Int32.ofNat k)), (.ref w), (.int (0 : Int32)), (.ref v_)]))
  obtain ⟨T3, X3, e3, st3⟩ := getF X2 hx hZ hown (host := "") (Or.inl (wd hw 36 rfl)) Via.refl e2 Fv (g := (mkF m 18 #[vR a, vR w, vI (Int32.ofNat k), vI (0 : Int32)] [(.ref a), (.int (Int32.ofNat k)), (.ref w), (.int (0 : Int32)), (.ref v_)])) rfl rfl (hb hby d40_18)
  refine own_go st3 ?_
  show OG (T3.setTop (mkF m 21 _ [(.ref v_), (.int (Int32.ofNat k)), (.ref w), (.int (0 : Int32)), (.ref v_)]))
  refine own_blen (z := (Int32.ofNat n)) X3 hx hZ e3 Av hni (hb hby d40_21) rfl ?_
  show OG (T3.setTop (mkF m 22 #[vR a, vR w, vI (Int32.ofNat k), vI (0 : Int32)] [(.int (Int32.ofNat n)), (.int (Int32.ofNat k)), (.ref w), (.int (0 : Int32)), (.ref v_)]))
  refine own_cp (s0 := 0) (d0 := k) (k0 := n) X3 hx hZ hown (wd hw 219 rfl) (wd hw 222 rfl) (wd hw 220 rfl) (wd hw 221 rfl) e3 Av Aw rfl hki hni (by omega) hkn N1 gw (by rw [hml]; rfl) (by decide) 0 (Nat.le_of_eq rfl) (by decide) (hb hby d40_22) rfl ?_
  intro T4 h4 L4 X4 e4 N4 K4 A4
  have Z4 : n0 ≤ h4.size := Nat.le_trans Z0 K4.1
  show OG (T4.setTop (mkF m 25 _ []))
  refine own_go (fun _ q => XS.goto X4.here hx rfl (pc0 := 25) (pc' := 43) rfl (hb hby d40_25) (by decide) (by decide) q) ?_
  show OG (T4.setTop (mkF m 43 _ []))
  have K : Keep h0 h4 [w] := ((Keep.refl h0 [w]).trans K4 (allS (Or.inl (List.mem_cons_self ..)) all0))
  subst e4
  exact own_retV X4 hx hlk hret (hb hby d40_43) (by decide) (by decide) ⟨rfl, N4, K, A4⟩
abbrev C39 := jdk_68_method_71_code
theorem d39_0 : decode C39 0 = .ok (.getstatic 18, 3) := by decide +kernel
theorem d39_3 : decode C39 3 = .ok (.ifCond .eq 18, 3) := by decide +kernel
theorem d39_6 : decode C39 6 = .ok (.aload_n 0, 1) := by decide +kernel
theorem d39_7 : decode C39 7 = .ok (.getfield 22, 3) := by decide +kernel
theorem d39_10 : decode C39 10 = .ok (.aload_n 1, 1) := by decide +kernel
theorem d39_11 : decode C39 11 = .ok (.invokevirtual 40, 3) := by decide +kernel
theorem d39_14 : decode C39 14 = .ok (.if_icmp .eq 7, 3) := by decide +kernel
theorem d39_21 : decode C39 21 = .ok (.return_, 1) := by decide +kernel
def Q39 (Z : State) (a : Addr) (v_ : Addr) (n : Nat) (gs : Nat → Option Nat) (b : Addr) (zc : Int32) (h0 : Heap) (n0 : Nat) (v : Option Value) (h : Heap) (L : List Loc) : Prop := v = none ∧ Fr n0 L ∧ h = h0
theorem ef_39 (m : MethodId) (x0 : Addr) (x1 : Addr) : entryFrame m #[(.ref x0), (.ref x1)] 2 = mkF m 0 #[vR x0, vR x1] [] := by first | (simp [entryFrame, mkF, argsToLocals, Value.category]; done) | rfl
set_option maxRecDepth 65536 in
set_option maxHeartbeats 40000000 in
theorem rm39 (l : Launch) (Z : State) (a0 : Array Value) (hw : ∀ d ∈ tables_1, d.before a0 Z = true) (ws : List Jvm.Cond) (a : Addr) (v_ : Addr) (n : Nat) (gs : Nat → Option Nat) (b : Addr) (zc : Int32) (h0 : Heap) (n0 : Nat) (Z0 : n0 ≤ h0.size) (SC : Sta Z Z.heap "java/lang/String" "COMPACT_STRINGS" "Z" (.int zc)) (hz0 : ¬ zc = 0) (Od : Old Z n0 h0) (Ea : Exa Z h0 a "java/lang/String") (Fc : Fld Z h0 a "java/lang/String" "coder" "B" (.int 0)) (Fv : Fld Z h0 a "java/lang/String" "value" "[B" (.ref v_)) (Av : own_By Z h0 v_ .byte n gs) (Fb : Fld Z h0 b "java/lang/AbstractStringBuilder" "coder" "B" (.int 0)) :
    own_Met l Z (⟨"java/lang/AbstractStringBuilder", "inflateIfNeededFor", "(Ljava/lang/String;)V"⟩ : MethodName) jdk_68_method_71_code 2 none ({ frames := 1, cells := 0, slots := 0, locals := 13 } : Room) ws #[(.ref b), (.ref a)] h0 (Q39 Z a v_ n gs b zc h0 n0) := by
  refine own_enter (plainFor_of_name (by first | (simp [plainName, overriddenIn]; done) | decide +kernel)) ?_
  intro p e s m below meth c s₁ hx hby hml hown hnm hlk hret hZ X0 e0
  have N0 := Fr.nil n0
  refine own_go (fun _ q => castTop (ef_39 m b a) q) ?_
  show OG (s₁.setTop (mkF m 0 #[vR b, vR a] []))
  obtain ⟨T1, X1, e1, st1⟩ := getS2 X0 hx hZ hown (host := "") (Or.inl (wd hw 140 rfl)) Via.refl e0 (SC.ext Od.2) (g := (mkF m 0 #[vR b, vR a] [])) rfl (hb hby d39_0)
  refine own_go st1 ?_
  show OG (T1.setTop (mkF m 3 _ [(.int zc)]))
  refine own_go (fun _ q => XS.ifNo X1.here hx rfl (hb hby d39_3) rfl ((if0 _ _).trans (feq hz0).1) q) ?_
  show OG (T1.setTop (mkF m 6 #[vR b, vR a] []))
  refine own_go (fun _ q => XS.aloadN X1.here hx rfl (hb hby d39_6) rfl rfl q) ?_
  show OG (T1.setTop (mkF m 7 _ [(.ref b)]))
  obtain ⟨T2, X2, e2, st2⟩ := getF X1 hx hZ hown (host := "") (Or.inl (wd hw 143 rfl)) Via.refl e1 Fb (g := (mkF m 7 #[vR b, vR a] [(.ref b)])) rfl rfl (hb hby d39_7)
  refine own_go st2 ?_
  show OG (T2.setTop (mkF m 10 _ [(.int (0 : Int32))]))
  refine own_go (fun _ q => XS.aloadN X2.here hx rfl (hb hby d39_10) rfl rfl q) ?_
  show OG (T2.setTop (mkF m 11 #[vR b, vR a] [(.ref a), (.int (0 : Int32))]))
  refine own_virtual X2 hx hZ hown (wd hw 213 rfl) (wd hw 87 rfl) (wd hw 89 rfl) (wd hw 88 rfl) (wd hw 10 rfl) (wd hw 90 rfl) (by decide) e2 (a := a) Ea (argsL := []) (rest := [(.int (0 : Int32))]) (rm16 l Z a0 hw [] a zc h0 n0 Z0 SC hz0 Od Fc) 1 (by decide) (by decide) (by decide) (by decide) (by rw [hml]; rfl) pd_0 rfl rfl (Nat.le_of_eq rfl) (hb hby d39_11) rfl ?_
  intro v3 T3 L3 X3 hQ3
  obtain ⟨rfl, N3q, e3q⟩ := hQ3
  have N3 := Fr.app N0 N3q
  show OG (T3.setTop (mkF m 14 _ [(.int (0 : Int32)), (.int (0 : Int32))]))
  refine own_go (fun _ q => XS.icmpYes X3.here hx rfl (pc0 := 14) (pc' := 21) rfl (hb hby d39_14) rfl (teq (by decide : (0 : Int32) = (0 : Int32))).1 (by decide) (by decide) q) ?_
  show OG (T3.setTop (mkF m 21 #[vR b, vR a] []))
  exact own_retV X3 hx hlk hret (hb hby d39_21) (by decide) (by decide) ⟨rfl, N3, e3q⟩
abbrev C38 := jdk_68_method_73_code
theorem d38_0 : decode C38 0 = .ok (.aload_n 0, 1) := by decide +kernel
theorem d38_1 : decode C38 1 = .ok (.aload_n 2, 1) := by decide +kernel
theorem d38_2 : decode C38 2 = .ok (.invokevirtual 397, 3) := by decide +kernel
theorem d38_5 : decode C38 5 = .ok (.aload_n 2, 1) := by decide +kernel
theorem d38_6 : decode C38 6 = .ok (.aload_n 0, 1) := by decide +kernel
theorem d38_7 : decode C38 7 = .ok (.getfield 15, 3) := by decide +kernel
theorem d38_10 : decode C38 10 = .ok (.iload_n 1, 1) := by decide +kernel
theorem d38_11 : decode C38 11 = .ok (.aload_n 0, 1) := by decide +kernel
theorem d38_12 : decode C38 12 = .ok (.getfield 22, 3) := by decide +kernel
theorem d38_15 : decode C38 15 = .ok (.invokevirtual 399, 3) := by decide +kernel
theorem d38_18 : decode C38 18 = .ok (.return_, 1) := by decide +kernel
def Q38 (Z : State) (a : Addr) (v_ : Addr) (n : Nat) (gs : Nat → Option Nat) (b : Addr) (w : Addr) (N : Nat) (cn : Int32) (g : Nat → Option Nat) (k : Nat) (zc : Int32) (h0 : Heap) (n0 : Nat) (v : Option Value) (h : Heap) (L : List Loc) : Prop := v = none ∧ Fr n0 L ∧ Keep h0 h [w] ∧ own_By Z h w .byte N (fun j => if k ≤ j ∧ j < k + n then gs (0 + (j - k)) else g j)
theorem ef_38 (m : MethodId) (x0 : Addr) (x1 : Int32) (x2 : Addr) : entryFrame m #[(.ref x0), (.int x1), (.ref x2)] 3 = mkF m 0 #[vR x0, vI x1, vR x2] [] := by first | (simp [entryFrame, mkF, argsToLocals, Value.category]; done) | rfl
set_option maxRecDepth 65536 in
set_option maxHeartbeats 40000000 in
theorem rm38 (l : Launch) (Z : State) (a0 : Array Value) (hw : ∀ d ∈ tables_1, d.before a0 Z = true) (ws : List Jvm.Cond) (a : Addr) (v_ : Addr) (n : Nat) (gs : Nat → Option Nat) (b : Addr) (w : Addr) (N : Nat) (cn : Int32) (g : Nat → Option Nat) (k : Nat) (zc : Int32) (h0 : Heap) (n0 : Nat) (Z0 : n0 ≤ h0.size) (SC : Sta Z Z.heap "java/lang/String" "COMPACT_STRINGS" "Z" (.int zc)) (hz0 : ¬ zc = 0) (Od : Old Z n0 h0) (Ea : Exa Z h0 a "java/lang/String") (Fc : Fld Z h0 a "java/lang/String" "coder" "B" (.int 0)) (Fv : Fld Z h0 a "java/lang/String" "value" "[B" (.ref v_)) (Av : own_By Z h0 v_ .byte n gs) (SBf : own_SB Z h0 b w N cn g) (hkn : k + n ≤ N) (hN : N < 100) (gw : n0 ≤ w) :
    own_Met l Z (⟨"java/lang/AbstractStringBuilder", "putStringAt", "(ILjava/lang/String;)V"⟩ : MethodName) jdk_68_method_73_code 3 none ({ frames := 2, cells := 0, slots := 0, locals := 46 } : Room) ws #[(.ref b), (.int (Int32.ofNat k)), (.ref a)] h0 (Q38 Z a v_ n gs b w N cn g k zc h0 n0) := by
  refine own_enter (plainFor_of_name (by first | (simp [plainName, overriddenIn]; done) | decide +kernel)) ?_
  intro p e s m below meth c s₁ hx hby hml hown hnm hlk hret hZ X0 e0
  have N0 := Fr.nil n0
  refine own_go (fun _ q => castTop (ef_38 m b (Int32.ofNat k) a) q) ?_
  show OG (s₁.setTop (mkF m 0 #[vR b, vI (Int32.ofNat k), vR a] []))
  obtain ⟨SBE, SBV, SBC, SBN, SBA, SBX⟩ := SBf
  refine own_go (fun _ q => XS.aloadN X0.here hx rfl (hb hby d38_0) rfl rfl (XS.aloadN X0.here hx rfl (hb hby d38_1) rfl rfl q)) ?_
  show OG (s₁.setTop (mkF m 2 _ [(.ref a), (.ref b)]))
  refine own_privSel X0 hx hZ hown (wd hw 208 rfl) (wd hw 209 rfl) (wd hw 210 rfl) (wd hw 211 rfl) (wd hw 137 rfl) (wd hw 212 rfl) (by decide) e0 (a := b) SBE (argsL := [(.ref a)]) (rest := []) (rm39 l Z a0 hw [] a v_ n gs b zc h0 n0 Z0 SC hz0 Od Ea Fc Fv Av SBC) 0 (by decide) (by decide) (by decide) (by decide) (by rw [hml]; rfl) pd_18 rfl rfl (Nat.le_of_eq rfl) (hb hby d38_2) rfl ?_
  intro v1 T1 L1 X1 hQ1
  obtain ⟨rfl, N1q, e1q⟩ := hQ1
  have N1 := Fr.app N0 N1q
  show OG (T1.setTop (mkF m 5 _ []))
  refine own_go (fun _ q => XS.aloadN X1.here hx rfl (hb hby d38_5) rfl rfl (XS.aloadN X1.here hx rfl (hb hby d38_6) rfl rfl q)) ?_
  show OG (T1.setTop (mkF m 7 #[vR b, vI (Int32.ofNat k), vR a] [(.ref b), (.ref a)]))
  obtain ⟨T2, X2, e2, st2⟩ := getF X1 hx hZ hown (host := "") (Or.inl (wd hw 141 rfl)) Via.refl e1q SBV (g := (mkF m 7 #[vR b, vI (Int32.ofNat k), vR a] [(.ref b), (.ref a)])) rfl rfl (hb hby d38_7)
  refine own_go st2 ?_
  show OG (T2.setTop (mkF m 10 _ [(.ref w), (.ref a)]))
  refine own_go (fun _ q => XS.iloadN X2.here hx rfl (hb hby d38_10) rfl (XS.aloadN X2.here hx rfl (hb hby d38_11) rfl rfl q)) ?_
  show OG (T2.setTop (mkF m 12 _ [(.ref b), (.int (Int32.ofNat k)), (.ref w), (.ref a)]))
  obtain ⟨T3, X3, e3, st3⟩ := getF X2 hx hZ hown (host := "") (Or.inl (wd hw 143 rfl)) Via.refl e2 SBC (g := (mkF m 12 #[vR b, vI (Int32.ofNat k), vR a] [(.ref b), (.int (Int32.ofNat k)), (.ref w), (.ref a)])) rfl rfl (hb hby d38_12)
  refine own_go st3 ?_
  show OG (T3.setTop (mkF m 15 _ [(.int (0 : Int32)), (.int (Int32.ofNat k)), (.ref w), (.ref a)]))
  refine own_virtual X3 hx hZ hown (wd hw 214 rfl) (wd hw 215 rfl) (wd hw 217 rfl) (wd hw 216 rfl) (wd hw 10 rfl) (wd hw 218 rfl) (by decide) e3 (a := a) Ea (argsL := [(.ref w), (.int (Int32.ofNat k)), (.int (0 : Int32))]) (rest := []) (rm40 l Z a0 hw [] a v_ n gs w N k g zc h0 n0 Z0 SC hz0 Od Ea Fc Fv Av SBA hkn hN gw) 0 (by decide) (by decide) (by decide) (by decide) (by rw [hml]; rfl) pd_19 rfl rfl (Nat.le_of_eq rfl) (hb hby d38_15) rfl ?_
  intro v4 T4 L4 X4 hQ4
  obtain ⟨rfl, N4q, K4, A4⟩ := hQ4
  have N4 := Fr.app N1 N4q
  show OG (T4.setTop (mkF m 18 _ []))
  exact own_retV X4 hx hlk hret (hb hby d38_18) (by decide) (by decide) ⟨rfl, N4, K4, A4⟩
abbrev C37 := jdk_68_method_22_code
theorem d37_0 : decode C37 0 = .ok (.aload_n 1, 1) := by decide +kernel
theorem d37_1 : decode C37 1 = .ok (.ifnonnull 8, 3) := by decide +kernel
theorem d37_9 : decode C37 9 = .ok (.aload_n 1, 1) := by decide +kernel
theorem d37_10 : decode C37 10 = .ok (.invokevirtual 32, 3) := by decide +kernel
theorem d37_13 : decode C37 13 = .ok (.istore_n 2, 1) := by decide +kernel
theorem d37_14 : decode C37 14 = .ok (.aload_n 0, 1) := by decide +kernel
theorem d37_15 : decode C37 15 = .ok (.aload_n 0, 1) := by decide +kernel
theorem d37_16 : decode C37 16 = .ok (.getfield 79, 3) := by decide +kernel
theorem d37_19 : decode C37 19 = .ok (.iload_n 2, 1) := by decide +kernel
theorem d37_20 : decode C37 20 = .ok (.iadd, 1) := by decide +kernel
theorem d37_21 : decode C37 21 = .ok (.invokevirtual 100, 3) := by decide +kernel
theorem d37_24 : decode C37 24 = .ok (.aload_n 0, 1) := by decide +kernel
theorem d37_25 : decode C37 25 = .ok (.aload_n 0, 1) := by decide +kernel
theorem d37_26 : decode C37 26 = .ok (.getfield 79, 3) := by decide +kernel
theorem d37_29 : decode C37 29 = .ok (.aload_n 1, 1) := by decide +kernel
theorem d37_30 : decode C37 30 = .ok (.invokevirtual 208, 3) := by decide +kernel
theorem d37_33 : decode C37 33 = .ok (.aload_n 0, 1) := by decide +kernel
theorem d37_34 : decode C37 34 = .ok (.dup, 1) := by decide +kernel
theorem d37_35 : decode C37 35 = .ok (.getfield 79, 3) := by decide +kernel
theorem d37_38 : decode C37 38 = .ok (.iload_n 2, 1) := by decide +kernel
theorem d37_39 : decode C37 39 = .ok (.iadd, 1) := by decide +kernel
theorem d37_40 : decode C37 40 = .ok (.putfield 79, 3) := by decide +kernel
theorem d37_43 : decode C37 43 = .ok (.aload_n 0, 1) := by decide +kernel
theorem d37_44 : decode C37 44 = .ok (.areturn, 1) := by decide +kernel
def Q37 (Z : State) (a : Addr) (v_ : Addr) (n : Nat) (gs : Nat → Option Nat) (b : Addr) (w : Addr) (N : Nat) (zN : Int32) (k : Nat) (g : Nat → Option Nat) (zc : Int32) (h0 : Heap) (n0 : Nat) (v : Option Value) (h : Heap) (L : List Loc) : Prop := v = some (.ref b) ∧ Fr n0 L ∧ Keep h0 h [b, w] ∧ own_SB Z h b w N (Int32.ofNat (k + n)) (fun j => if k ≤ j ∧ j < k + n then gs (0 + (j - k)) else g j)
theorem ef_37 (m : MethodId) (x0 : Addr) (x1 : Addr) : entryFrame m #[(.ref x0), (.ref x1)] 3 = mkF m 0 #[vR x0, vR x1, .unset] [] := by first | (simp [entryFrame, mkF, argsToLocals, Value.category]; done) | rfl
set_option maxRecDepth 65536 in
set_option maxHeartbeats 40000000 in
theorem rm37 (l : Launch) (Z : State) (a0 : Array Value) (hw : ∀ d ∈ tables_1, d.before a0 Z = true) (ws : List Jvm.Cond) (a : Addr) (v_ : Addr) (n : Nat) (gs : Nat → Option Nat) (b : Addr) (w : Addr) (N : Nat) (zN : Int32) (k : Nat) (g : Nat → Option Nat) (zc : Int32) (h0 : Heap) (n0 : Nat) (Z0 : n0 ≤ h0.size) (SC : Sta Z Z.heap "java/lang/String" "COMPACT_STRINGS" "Z" (.int zc)) (hz0 : ¬ zc = 0) (Od : Old Z n0 h0) (Ea : Exa Z h0 a "java/lang/String") (Fc : Fld Z h0 a "java/lang/String" "coder" "B" (.int 0)) (Fv : Fld Z h0 a "java/lang/String" "value" "[B" (.ref v_)) (Av : own_By Z h0 v_ .byte n gs) (SBf : own_SB Z h0 b w N (Int32.ofNat k) g) (hz : zN.toInt = (N : Int)) (hkn : k + n ≤ N) (hN : N < 100) (gb : n0 ≤ b) (gw : n0 ≤ w) (nbw : b ≠ w) (nab : a ≠ b) (naw : a ≠ w) (nvw : v_ ≠ w) (nvb : v_ ≠ b) :
    own_Met l Z (⟨"java/lang/AbstractStringBuilder", "append", "(Ljava/lang/String;)Ljava/lang/AbstractStringBuilder;"⟩ : MethodName) jdk_68_method_22_code 3 (some (.object "java/lang/AbstractStringBuilder")) ({ frames := 3, cells := 0, slots := 0, locals := 62 } : Room) ws #[(.ref b), (.ref a)] h0 (Q37 Z a v_ n gs b w N zN k g zc h0 n0) := by
  refine own_enter (plainFor_of_name (by first | (simp [plainName, overriddenIn]; done) | decide +kernel)) ?_
  intro p e s m below meth c s₁ hx hby hml hown hnm hlk hret hZ X0 e0
  have N0 := Fr.nil n0
  refine own_go (fun _ q => castTop (ef_37 m b a) q) ?_
  show OG (s₁.setTop (mkF m 0 #[vR b, vR a, .unset] []))
  have hki := own_ofNatI (k := k) (by omega)
  have hni := own_ofNatI (k := n) (by omega)
  have hkni := own_ofNatI (k := k + n) (by omega)
  obtain ⟨SBE, SBV, SBC, SBN, SBA, SBX⟩ := SBf
  refine own_go (fun _ q => XS.aloadN X0.here hx rfl (hb hby d37_0) rfl rfl (XT.ifnonnullYes X0.here hx rfl (pc0 := 1) (pc' := 9) rfl (hb hby d37_1) rfl (by decide) (by decide) (XS.aloadN X0.here hx rfl (hb hby d37_9) rfl rfl q))) ?_
  show OG (s₁.setTop (mkF m 10 _ [(.ref a)]))
  refine own_virtual X0 hx hZ hown (wd hw 202 rfl) (wd hw 82 rfl) (wd hw 84 rfl) (wd hw 83 rfl) (wd hw 10 rfl) (wd hw 85 rfl) (by decide) e0 (a := a) Ea (argsL := []) (rest := []) (rm15 l Z a0 hw [] a v_ n gs (Int32.ofNat n) zc h0 n0 Z0 SC hz0 Od Ea Fc Fv Av hni) 0 (by decide) (by decide) (by decide) (by decide) (by rw [hml]; rfl) pd_5 rfl rfl (Nat.le_of_eq rfl) (hb hby d37_10) rfl ?_
  intro v1 T1 L1 X1 hQ1
  obtain ⟨rfl, N1q, e1q⟩ := hQ1
  have N1 := Fr.app N0 N1q
  show OG (T1.setTop (mkF m 13 _ [(.int (Int32.ofNat n))]))
  refine own_go (fun _ q => XS.istoreN X1.here hx rfl (hb hby d37_13) rfl (l' := #[vR b, vR a, vI (Int32.ofNat n)]) rfl (XS.aloadN X1.here hx rfl (hb hby d37_14) rfl rfl (XS.aloadN X1.here hx rfl (hb hby d37_15) rfl rfl q))) ?_
  show OG (T1.setTop (mkF m 16 #[vR b, vR a, vI (Int32.ofNat n)] [(.ref b), (.ref b)]))
  obtain ⟨T2, X2, e2, st2⟩ := getF X1 hx hZ hown (host := "") (Or.inl (wd hw 162 rfl)) Via.refl e1q SBN (g := (mkF m 16 #[vR b, vR a, vI (Int32.ofNat n)] [(.ref b), (.ref b)])) rfl rfl (hb hby d37_16)
  refine own_go st2 ?_
  show OG (T2.setTop (mkF m 19 _ [(.int (Int32.ofNat k)), (.ref b)]))
  refine own_go (fun _ q => XS.iloadN X2.here hx rfl (hb hby d37_19) rfl (XS.iadd X2.here hx rfl (hb hby d37_20) rfl q)) ?_
  show OG (T2.setTop (mkF m 21 _ [(.int ((Int32.ofNat k) + (Int32.ofNat n))), (.ref b)]))
  rw [own_ofNatAdd]
  show OG (T2.setTop (mkF m 21 #[vR b, vR a, vI (Int32.ofNat n)] [(.int (Int32.ofNat (k + n))), (.ref b)]))
  refine own_privSel X2 hx hZ hown (wd hw 164 rfl) (wd hw 165 rfl) (wd hw 166 rfl) (wd hw 167 rfl) (wd hw 137 rfl) (wd hw 168 rfl) (by decide) e2 (a := b) SBE (argsL := [(.int (Int32.ofNat (k + n)))]) (rest := []) (rm29 l Z a0 hw [] b w N (Int32.ofNat k) g (Int32.ofNat (k + n)) zN h0 n0 Z0 ⟨SBE, SBV, SBC, SBN, SBA, SBX⟩ hz (by omega) (by omega)) 0 (by decide) (by decide) (by decide) (by decide) (by rw [hml]; rfl) pd_12 rfl rfl (Nat.le_of_eq rfl) (hb hby d37_21) rfl ?_
  intro v3 T3 L3 X3 hQ3
  obtain ⟨rfl, N3q, e3q⟩ := hQ3
  have N3 := Fr.app N1 N3q
  show OG (T3.setTop (mkF m 24 _ []))
  refine own_go (fun _ q => XS.aloadN X3.here hx rfl (hb hby d37_24) rfl rfl (XS.aloadN X3.here hx rfl (hb hby d37_25) rfl rfl q)) ?_
  show OG (T3.setTop (mkF m 26 _ [(.ref b), (.ref b)]))
  obtain ⟨T4, X4, e4, st4⟩ := getF X3 hx hZ hown (host := "") (Or.inl (wd hw 162 rfl)) Via.refl e3q SBN (g := (mkF m 26 #[vR b, vR a, vI (Int32.ofNat n)] [(.ref b), (.ref b)])) rfl rfl (hb hby d37_26)
  refine own_go st4 ?_
  show OG (T4.setTop (mkF m 29 _ [(.int (Int32.ofNat k)), (.ref b)]))
  refine own_go (fun _ q => XS.aloadN X4.here hx rfl (hb hby d37_29) rfl rfl q) ?_
  show OG (T4.setTop (mkF m 30 #[vR b, vR a, vI (Int32.ofNat n)] [(.ref a), (.int (Int32.ofNat k)), (.ref b)]))
  refine own_privSel X4 hx hZ hown (wd hw 203 rfl) (wd hw 204 rfl) (wd hw 205 rfl) (wd hw 206 rfl) (wd hw 137 rfl) (wd hw 207 rfl) (by decide) e4 (a := b) SBE (argsL := [(.int (Int32.ofNat k)), (.ref a)]) (rest := []) (rm38 l Z a0 hw [] a v_ n gs b w N (Int32.ofNat k) g k zc h0 n0 Z0 SC hz0 Od Ea Fc Fv Av ⟨SBE, SBV, SBC, SBN, SBA, SBX⟩ hkn hN gw) 0 (by decide) (by decide) (by decide) (by decide) (by rw [hml]; rfl) pd_20 rfl rfl (Nat.le_of_eq rfl) (hb hby d37_30) rfl ?_
  intro v5 T5 L5 X5 hQ5
  obtain ⟨rfl, N5q, K5, A5⟩ := hQ5
  have N5 := Fr.app N3 N5q
  show OG (T5.setTop (mkF m 33 _ []))
  have Z5 : n0 ≤ T5.heap.size := Nat.le_trans Z0 K5.1
  refine own_go (fun _ q => XS.aloadN X5.here hx rfl (hb hby d37_33) rfl rfl (XS.dup X5.here hx rfl (hb hby d37_34) rfl rfl q)) ?_
  show OG (T5.setTop (mkF m 35 _ [(.ref b), (.ref b)]))
  have f7 := (SBN.keep K5 (ninS nbw nin0))
  obtain ⟨T6, X6, e6, st6⟩ := getF X5 hx hZ hown (host := "") (Or.inl (wd hw 162 rfl)) Via.refl rfl f7 (g := (mkF m 35 #[vR b, vR a, vI (Int32.ofNat n)] [(.ref b), (.ref b)])) rfl rfl (hb hby d37_35)
  refine own_go st6 ?_
  show OG (T6.setTop (mkF m 38 _ [(.int (Int32.ofNat k)), (.ref b)]))
  refine own_go (fun _ q => XS.iloadN X6.here hx rfl (hb hby d37_38) rfl (XS.iadd X6.here hx rfl (hb hby d37_39) rfl q)) ?_
  show OG (T6.setTop (mkF m 40 #[vR b, vR a, vI (Int32.ofNat n)] [(.int ((Int32.ofNat k) + (Int32.ofNat n))), (.ref b)]))
  rw [own_ofNatAdd]
  show OG (T6.setTop (mkF m 40 #[vR b, vR a, vI (Int32.ofNat n)] [(.int (Int32.ofNat (k + n))), (.ref b)]))
  have f9 := (SBE.keep K5)
  obtain ⟨T8, h8, X8, e8, W8, st8⟩ := putF X6 hx hZ hown (host := "") (Or.inl (wd hw 162 rfl)) Via.refl e6 f7 f9 (Or.inl (wd hw 163 rfl)) (wd hw 128 rfl) (ty := .int) (by decide) rfl rfl (g := (mkF m 40 #[vR b, vR a, vI (Int32.ofNat n)] [(.int (Int32.ofNat (k + n))), (.ref b)])) rfl rfl (hb hby d37_40)
  have N8 := Fr.snoc X8 N5 gb
  have Fw8 := f7.same W8
  have Z8 : n0 ≤ h8.size := by rw [W8.size]; exact Z5
  refine own_go st8 ?_
  show OG (T8.setTop (mkF m 43 _ []))
  refine own_go (fun _ q => XS.aloadN X8.here hx rfl (hb hby d37_43) rfl rfl q) ?_
  show OG (T8.setTop (mkF m 44 _ [(.ref b)]))
  have f10 := (f9.wr W8)
  have f11 := ((SBV.keep K5 (ninS nbw nin0)).other W8 (Or.inr (slot_ne (Or.inl (wd hw 142 rfl)) (Or.inl (wd hw 163 rfl)) (by decide) (t := (.array .byte)) (t' := .int) (by decide) (by decide))))
  have f12 := ((SBC.keep K5 (ninS nbw nin0)).other W8 (Or.inr (slot_ne (Or.inl (wd hw 144 rfl)) (Or.inl (wd hw 163 rfl)) (by decide) (t := .byte) (t' := .int) (by decide) (by decide))))
  have f13 := (A5.other W8 (Ne.symm nbw))
  have f14 := ((SBX.keep K5).wr W8)
  have K : Keep h0 h8 [b, w] := (((Keep.refl h0 [b, w]).trans K5 (allS (Or.inl (List.mem_cons_of_mem _ (List.mem_cons_self ..))) all0)).wr W8 (Or.inl (List.mem_cons_self ..)))
  subst e8
  exact own_retR X8 hx hlk hret rfl rfl rfl (hb hby d37_44) (by decide) (by decide) ⟨rfl, N8, K, ⟨f10, f11, f12, Fw8, f13, f14⟩⟩
abbrev C36 := jdk_67_method_7_code
theorem d36_0 : decode C36 0 = .ok (.aload_n 0, 1) := by decide +kernel
theorem d36_1 : decode C36 1 = .ok (.aload_n 1, 1) := by decide +kernel
theorem d36_2 : decode C36 2 = .ok (.invokespecial 29, 3) := by decide +kernel
theorem d36_5 : decode C36 5 = .ok (.pop, 1) := by decide +kernel
theorem d36_6 : decode C36 6 = .ok (.aload_n 0, 1) := by decide +kernel
theorem d36_7 : decode C36 7 = .ok (.areturn, 1) := by decide +kernel
def Q36 (Z : State) (a : Addr) (v_ : Addr) (n : Nat) (gs : Nat → Option Nat) (b : Addr) (w : Addr) (N : Nat) (zN : Int32) (k : Nat) (g : Nat → Option Nat) (zc : Int32) (h0 : Heap) (n0 : Nat) (v : Option Value) (h : Heap) (L : List Loc) : Prop := v = some (.ref b) ∧ Fr n0 L ∧ Keep h0 h [b, w] ∧ own_SB Z h b w N (Int32.ofNat (k + n)) (fun j => if k ≤ j ∧ j < k + n then gs (0 + (j - k)) else g j)
theorem ef_36 (m : MethodId) (x0 : Addr) (x1 : Addr) : entryFrame m #[(.ref x0), (.ref x1)] 2 = mkF m 0 #[vR x0, vR x1] [] := by first | (simp [entryFrame, mkF, argsToLocals, Value.category]; done) | rfl
set_option maxRecDepth 65536 in
set_option maxHeartbeats 40000000 in
theorem rm36 (l : Launch) (Z : State) (a0 : Array Value) (hw : ∀ d ∈ tables_1, d.before a0 Z = true) (ws : List Jvm.Cond) (a : Addr) (v_ : Addr) (n : Nat) (gs : Nat → Option Nat) (b : Addr) (w : Addr) (N : Nat) (zN : Int32) (k : Nat) (g : Nat → Option Nat) (zc : Int32) (h0 : Heap) (n0 : Nat) (Z0 : n0 ≤ h0.size) (SC : Sta Z Z.heap "java/lang/String" "COMPACT_STRINGS" "Z" (.int zc)) (hz0 : ¬ zc = 0) (Od : Old Z n0 h0) (Ea : Exa Z h0 a "java/lang/String") (Fc : Fld Z h0 a "java/lang/String" "coder" "B" (.int 0)) (Fv : Fld Z h0 a "java/lang/String" "value" "[B" (.ref v_)) (Av : own_By Z h0 v_ .byte n gs) (SBf : own_SB Z h0 b w N (Int32.ofNat k) g) (hz : zN.toInt = (N : Int)) (hkn : k + n ≤ N) (hN : N < 100) (gb : n0 ≤ b) (gw : n0 ≤ w) (nbw : b ≠ w) (nab : a ≠ b) (naw : a ≠ w) (nvw : v_ ≠ w) (nvb : v_ ≠ b) :
    own_Met l Z (⟨"java/lang/StringBuilder", "append", "(Ljava/lang/String;)Ljava/lang/StringBuilder;"⟩ : MethodName) jdk_67_method_7_code 2 (some (.object "java/lang/StringBuilder")) ({ frames := 4, cells := 0, slots := 0, locals := 76 } : Room) ws #[(.ref b), (.ref a)] h0 (Q36 Z a v_ n gs b w N zN k g zc h0 n0) := by
  refine own_enter (plainFor_of_name (by first | (simp [plainName, overriddenIn]; done) | decide +kernel)) ?_
  intro p e s m below meth c s₁ hx hby hml hown hnm hlk hret hZ X0 e0
  have N0 := Fr.nil n0
  refine own_go (fun _ q => castTop (ef_36 m b a) q) ?_
  show OG (s₁.setTop (mkF m 0 #[vR b, vR a] []))
  refine own_go (fun _ q => XS.aloadN X0.here hx rfl (hb hby d36_0) rfl rfl (XS.aloadN X0.here hx rfl (hb hby d36_1) rfl rfl q)) ?_
  show OG (s₁.setTop (mkF m 2 _ [(.ref a), (.ref b)]))
  refine own_super X0 hx hZ (by decide) hown (wd hw 198 rfl) (own_same (wd hw 199 rfl) (wd hw 172 rfl) (wd hw 171 rfl) rfl (by decide)) (wd hw 199 rfl) (wd hw 159 rfl) (wd hw 137 rfl) (wd hw 201 rfl) e0 (a := b) SBf.1 (argsL := [(.ref a)]) (rest := []) (rm37 l Z a0 hw [] a v_ n gs b w N zN k g zc h0 n0 Z0 SC hz0 Od Ea Fc Fv Av SBf hz hkn hN gb gw nbw nab naw nvw nvb) 0 (by decide) (by decide) (by decide) (by decide) (by rw [hml]; rfl) pd_21 rfl rfl (Nat.le_of_eq rfl) (hb hby d36_2) rfl ?_
  intro v1 T1 L1 X1 hQ1
  obtain ⟨rfl, N1q, K1, G3⟩ := hQ1
  have N1 := Fr.app N0 N1q
  show OG (T1.setTop (mkF m 5 _ [(.ref b)]))
  refine own_go (fun _ q => XS.pop X1.here hx rfl (hb hby d36_5) rfl rfl (XS.aloadN X1.here hx rfl (hb hby d36_6) rfl rfl q)) ?_
  show OG (T1.setTop (mkF m 7 #[vR b, vR a] [(.ref b)]))
  exact own_retR X1 hx hlk hret rfl rfl rfl (hb hby d36_7) (by decide) (by decide) ⟨rfl, N1, K1, G3⟩
abbrev C44 := jdk_68_method_64_code
theorem d44_0 : decode C44 0 = .ok (.aload_n 0, 1) := by decide +kernel
theorem d44_1 : decode C44 1 = .ok (.getfield 15, 3) := by decide +kernel
theorem d44_4 : decode C44 4 = .ok (.areturn, 1) := by decide +kernel
def Q44 (Z : State) (b : Addr) (w : Addr) (h0 : Heap) (n0 : Nat) (v : Option Value) (h : Heap) (L : List Loc) : Prop := v = some (.ref w) ∧ Fr n0 L ∧ h = h0
theorem ef_44 (m : MethodId) (x0 : Addr) : entryFrame m #[(.ref x0)] 1 = mkF m 0 #[vR x0] [] := by first | (simp [entryFrame, mkF, argsToLocals, Value.category]; done) | rfl
set_option maxRecDepth 65536 in
set_option maxHeartbeats 40000000 in
theorem rm44 (l : Launch) (Z : State) (a0 : Array Value) (hw : ∀ d ∈ tables_1, d.before a0 Z = true) (ws : List Jvm.Cond) (b : Addr) (w : Addr) (h0 : Heap) (n0 : Nat) (Z0 : n0 ≤ h0.size) (Fv : Fld Z h0 b "java/lang/AbstractStringBuilder" "value" "[B" (.ref w)) :
    own_Met l Z (⟨"java/lang/AbstractStringBuilder", "getValue", "()[B"⟩ : MethodName) jdk_68_method_64_code 1 (some (.array .byte)) ({ frames := 0, cells := 0, slots := 0, locals := 0 } : Room) ws #[(.ref b)] h0 (Q44 Z b w h0 n0) := by
  refine own_enter (plainFor_of_name (by first | (simp [plainName, overriddenIn]; done) | decide +kernel)) ?_
  intro p e s m below meth c s₁ hx hby hml hown hnm hlk hret hZ X0 e0
  have N0 := Fr.nil n0
  refine own_go (fun _ q => castTop (ef_44 m b) q) ?_
  show OG (s₁.setTop (mkF m 0 #[vR b] []))
  refine own_go (fun _ q => XS.aloadN X0.here hx rfl (hb hby d44_0) rfl rfl q) ?_
  show OG (s₁.setTop (mkF m 1 _ [(.ref b)]))
  obtain ⟨T1, X1, e1, st1⟩ := getF X0 hx hZ hown (host := "") (Or.inl (wd hw 141 rfl)) Via.refl e0 Fv (g := (mkF m 1 #[vR b] [(.ref b)])) rfl rfl (hb hby d44_1)
  refine own_go st1 ?_
  show OG (T1.setTop (mkF m 4 _ [(.ref w)]))
  exact own_retR X1 hx hlk hret rfl rfl rfl (hb hby d44_4) (by decide) (by decide) ⟨rfl, N0, e1⟩
abbrev C46 := jdk_68_method_6_code
theorem d46_0 : decode C46 0 = .ok (.aload_n 0, 1) := by decide +kernel
theorem d46_1 : decode C46 1 = .ok (.getfield 79, 3) := by decide +kernel
theorem d46_4 : decode C46 4 = .ok (.ireturn, 1) := by decide +kernel
def Q46 (Z : State) (b : Addr) (cn : Int32) (h0 : Heap) (n0 : Nat) (v : Option Value) (h : Heap) (L : List Loc) : Prop := v = some (.int cn) ∧ Fr n0 L ∧ h = h0
theorem ef_46 (m : MethodId) (x0 : Addr) : entryFrame m #[(.ref x0)] 1 = mkF m 0 #[vR x0] [] := by first | (simp [entryFrame, mkF, argsToLocals, Value.category]; done) | rfl
set_option maxRecDepth 65536 in
set_option maxHeartbeats 40000000 in
theorem rm46 (l : Launch) (Z : State) (a0 : Array Value) (hw : ∀ d ∈ tables_1, d.before a0 Z = true) (ws : List Jvm.Cond) (b : Addr) (cn : Int32) (h0 : Heap) (n0 : Nat) (Z0 : n0 ≤ h0.size) (Fn : Fld Z h0 b "java/lang/AbstractStringBuilder" "count" "I" (.int cn)) :
    own_Met l Z (⟨"java/lang/AbstractStringBuilder", "length", "()I"⟩ : MethodName) jdk_68_method_6_code 1 (some .int) ({ frames := 0, cells := 0, slots := 0, locals := 0 } : Room) ws #[(.ref b)] h0 (Q46 Z b cn h0 n0) := by
  refine own_enter (plainFor_of_name (by first | (simp [plainName, overriddenIn]; done) | decide +kernel)) ?_
  intro p e s m below meth c s₁ hx hby hml hown hnm hlk hret hZ X0 e0
  have N0 := Fr.nil n0
  refine own_go (fun _ q => castTop (ef_46 m b) q) ?_
  show OG (s₁.setTop (mkF m 0 #[vR b] []))
  refine own_go (fun _ q => XS.aloadN X0.here hx rfl (hb hby d46_0) rfl rfl q) ?_
  show OG (s₁.setTop (mkF m 1 _ [(.ref b)]))
  obtain ⟨T1, X1, e1, st1⟩ := getF X0 hx hZ hown (host := "") (Or.inl (wd hw 162 rfl)) Via.refl e0 Fn (g := (mkF m 1 #[vR b] [(.ref b)])) rfl rfl (hb hby d46_1)
  refine own_go st1 ?_
  show OG (T1.setTop (mkF m 4 _ [(.int cn)]))
  exact own_retI X1 hx hlk hret (hb hby d46_4) (by decide) (by decide) ⟨rfl, N0, e1⟩
abbrev C45 := jdk_67_method_93_code
theorem d45_0 : decode C45 0 = .ok (.aload_n 0, 1) := by decide +kernel
theorem d45_1 : decode C45 1 = .ok (.invokespecial 343, 3) := by decide +kernel
theorem d45_4 : decode C45 4 = .ok (.ireturn, 1) := by decide +kernel
def Q45 (Z : State) (b : Addr) (cn : Int32) (h0 : Heap) (n0 : Nat) (v : Option Value) (h : Heap) (L : List Loc) : Prop := v = some (.int cn) ∧ Fr n0 L ∧ h = h0
theorem ef_45 (m : MethodId) (x0 : Addr) : entryFrame m #[(.ref x0)] 1 = mkF m 0 #[vR x0] [] := by first | (simp [entryFrame, mkF, argsToLocals, Value.category]; done) | rfl
set_option maxRecDepth 65536 in
set_option maxHeartbeats 40000000 in
theorem rm45 (l : Launch) (Z : State) (a0 : Array Value) (hw : ∀ d ∈ tables_1, d.before a0 Z = true) (ws : List Jvm.Cond) (b : Addr) (cn : Int32) (h0 : Heap) (n0 : Nat) (Z0 : n0 ≤ h0.size) (Eb : Exa Z h0 b "java/lang/StringBuilder") (Fn : Fld Z h0 b "java/lang/AbstractStringBuilder" "count" "I" (.int cn)) :
    own_Met l Z (⟨"java/lang/StringBuilder", "length", "()I"⟩ : MethodName) jdk_67_method_93_code 1 (some .int) ({ frames := 1, cells := 0, slots := 0, locals := 12 } : Room) ws #[(.ref b)] h0 (Q45 Z b cn h0 n0) := by
  refine own_enter (plainFor_of_name (by first | (simp [plainName, overriddenIn]; done) | decide +kernel)) ?_
  intro p e s m below meth c s₁ hx hby hml hown hnm hlk hret hZ X0 e0
  have N0 := Fr.nil n0
  refine own_go (fun _ q => castTop (ef_45 m b) q) ?_
  show OG (s₁.setTop (mkF m 0 #[vR b] []))
  refine own_go (fun _ q => XS.aloadN X0.here hx rfl (hb hby d45_0) rfl rfl q) ?_
  show OG (s₁.setTop (mkF m 1 _ [(.ref b)]))
  refine own_super X0 hx hZ (by decide) hown (wd hw 246 rfl) (own_same (wd hw 242 rfl) (wd hw 172 rfl) (wd hw 171 rfl) rfl (by decide)) (wd hw 242 rfl) (wd hw 159 rfl) (wd hw 137 rfl) (wd hw 247 rfl) e0 (a := b) Eb (argsL := []) (rest := []) (rm46 l Z a0 hw [] b cn h0 n0 Z0 Fn) 0 (by decide) (by decide) (by decide) (by decide) (by rw [hml]; rfl) pd_5 rfl rfl (Nat.le_of_eq rfl) (hb hby d45_1) rfl ?_
  intro v1 T1 L1 X1 hQ1
  obtain ⟨rfl, N1q, e1q⟩ := hQ1
  have N1 := Fr.app N0 N1q
  show OG (T1.setTop (mkF m 4 _ [(.int cn)]))
  exact own_retI X1 hx hlk hret (hb hby d45_4) (by decide) (by decide) ⟨rfl, N1, e1q⟩
abbrev C49 := jdk_65_method_131_code
theorem d49_0 : decode C49 0 = .ok (.iload_n 1, 1) := by decide +kernel
theorem d49_1 : decode C49 1 = .ok (.iload_n 0, 1) := by decide +kernel
theorem d49_2 : decode C49 2 = .ok (.if_icmp .ge 35, 3) := by decide +kernel
theorem d49_37 : decode C49 37 = .ok (.return_, 1) := by decide +kernel
def Q49 (Z : State) (x : Int32) (y : Int32) (h0 : Heap) (n0 : Nat) (v : Option Value) (h : Heap) (L : List Loc) : Prop := v = none ∧ Fr n0 L ∧ h = h0
theorem ef_49 (m : MethodId) (x0 : Int32) (x1 : Int32) : entryFrame m #[(.int x0), (.int x1)] 2 = mkF m 0 #[vI x0, vI x1] [] := by first | (simp [entryFrame, mkF, argsToLocals, Value.category]; done) | rfl
set_option maxRecDepth 65536 in
set_option maxHeartbeats 40000000 in
theorem rm49 (l : Launch) (Z : State) (a0 : Array Value) (hw : ∀ d ∈ tables_1, d.before a0 Z = true) (ws : List Jvm.Cond) (x : Int32) (y : Int32) (h0 : Heap) (n0 : Nat) (Z0 : n0 ≤ h0.size) (hxy : ¬ y < x) :
    own_Met l Z (⟨"java/util/Arrays", "checkLength", "(II)V"⟩ : MethodName) jdk_65_method_131_code 2 none ({ frames := 0, cells := 0, slots := 0, locals := 0 } : Room) ws #[(.int x), (.int y)] h0 (Q49 Z x y h0 n0) := by
  refine own_enter (plainFor_of_name (by first | (simp [plainName, overriddenIn]; done) | decide +kernel)) ?_
  intro p e s m below meth c s₁ hx hby hml hown hnm hlk hret hZ X0 e0
  have N0 := Fr.nil n0
  refine own_go (fun _ q => castTop (ef_49 m x y) q) ?_
  show OG (s₁.setTop (mkF m 0 #[vI x, vI y] []))
  refine own_go (fun _ q => XS.iloadN X0.here hx rfl (hb hby d49_0) rfl (XS.iloadN X0.here hx rfl (hb hby d49_1) rfl q)) ?_
  show OG (s₁.setTop (mkF m 2 _ [(.int x), (.int y)]))
  refine own_go (fun _ q => XS.icmpYes X0.here hx rfl (pc0 := 2) (pc' := 37) rfl (hb hby d49_2) rfl (flt hxy).2.1 (by decide) (by decide) q) ?_
  show OG (s₁.setTop (mkF m 37 #[vI x, vI y] []))
  exact own_retV X0 hx hlk hret (hb hby d49_37) (by decide) (by decide) ⟨rfl, N0, e0⟩
def Q50b (Z : State) (x : Int32) (y : Int32) (h0 : Heap) (n0 : Nat) (v : Option Value) (h : Heap) (L : List Loc) : Prop := v = some (.int y) ∧ Fr n0 L ∧ h = h0
theorem ef_50b (m : MethodId) (x0 : Int32) (x1 : Int32) : entryFrame m #[(.int x0), (.int x1)] 2 = mkF m 0 #[vI x0, vI x1] [] := by first | (simp [entryFrame, mkF, argsToLocals, Value.category]; done) | rfl
set_option maxRecDepth 65536 in
set_option maxHeartbeats 40000000 in
theorem rm50b (l : Launch) (Z : State) (a0 : Array Value) (hw : ∀ d ∈ tables_1, d.before a0 Z = true) (ws : List Jvm.Cond) (x : Int32) (y : Int32) (h0 : Heap) (n0 : Nat) (Z0 : n0 ≤ h0.size) (hxy : y < x) :
    own_Met l Z (⟨"java/lang/Math", "min", "(II)I"⟩ : MethodName) jdk_29_method_69_code 2 (some .int) ({ frames := 0, cells := 0, slots := 0, locals := 0 } : Room) ws #[(.int x), (.int y)] h0 (Q50b Z x y h0 n0) := by
  refine own_enter (Jvm.Free.JP.mathPlain rfl (by decide +kernel)) ?_
  intro p e s m below meth c s₁ hx hby hml hown hnm hlk hret hZ X0 e0
  have N0 := Fr.nil n0
  refine own_go (fun _ q => castTop (ef_50b m x y) q) ?_
  show OG (s₁.setTop (mkF m 0 #[vI x, vI y] []))
  refine own_go (fun _ q => XS.iloadN X0.here hx rfl (hb hby d50_0) rfl (XS.iloadN X0.here hx rfl (hb hby d50_1) rfl q)) ?_
  show OG (s₁.setTop (mkF m 2 _ [(.int y), (.int x)]))
  refine own_go (fun _ q => XS.icmpYes X0.here hx rfl (pc0 := 2) (pc' := 9) rfl (hb hby d50_2) rfl (tlt hxy).2.2.1 (by decide) (by decide) q) ?_
  show OG (s₁.setTop (mkF m 9 #[vI x, vI y] []))
  refine own_go (fun _ q => XS.iloadN X0.here hx rfl (hb hby d50_9) rfl q) ?_
  show OG (s₁.setTop (mkF m 10 _ [(.int y)]))
  exact own_retI X0 hx hlk hret (hb hby d50_10) (by decide) (by decide) ⟨rfl, N0, e0⟩
abbrev C48 := jdk_65_method_133_code
theorem d48_0 : decode C48 0 = .ok (.iload_n 1, 1) := by decide +kernel
theorem d48_1 : decode C48 1 = .ok (.iload_n 2, 1) := by decide +kernel
theorem d48_2 : decode C48 2 = .ok (.invokestatic 343, 3) := by decide +kernel
theorem d48_5 : decode C48 5 = .ok (.iload_n 2, 1) := by decide +kernel
theorem d48_6 : decode C48 6 = .ok (.iload_n 1, 1) := by decide +kernel
theorem d48_7 : decode C48 7 = .ok (.isub, 1) := by decide +kernel
theorem d48_8 : decode C48 8 = .ok (.istore_n 3, 1) := by decide +kernel
theorem d48_9 : decode C48 9 = .ok (.iload_n 3, 1) := by decide +kernel
theorem d48_10 : decode C48 10 = .ok (.newarray .byte, 2) := by decide +kernel
theorem d48_12 : decode C48 12 = .ok (.astore 4, 2) := by decide +kernel
theorem d48_14 : decode C48 14 = .ok (.aload_n 0, 1) := by decide +kernel
theorem d48_15 : decode C48 15 = .ok (.iload_n 1, 1) := by decide +kernel
theorem d48_16 : decode C48 16 = .ok (.aload 4, 2) := by decide +kernel
theorem d48_18 : decode C48 18 = .ok (.iconst 0, 1) := by decide +kernel
theorem d48_19 : decode C48 19 = .ok (.aload_n 0, 1) := by decide +kernel
theorem d48_20 : decode C48 20 = .ok (.arraylength, 1) := by decide +kernel
theorem d48_21 : decode C48 21 = .ok (.iload_n 1, 1) := by decide +kernel
theorem d48_22 : decode C48 22 = .ok (.isub, 1) := by decide +kernel
theorem d48_23 : decode C48 23 = .ok (.iload_n 3, 1) := by decide +kernel
theorem d48_24 : decode C48 24 = .ok (.invokestatic 304, 3) := by decide +kernel
theorem d48_27 : decode C48 27 = .ok (.invokestatic 150, 3) := by decide +kernel
theorem d48_30 : decode C48 30 = .ok (.aload 4, 2) := by decide +kernel
theorem d48_32 : decode C48 32 = .ok (.areturn, 1) := by decide +kernel
def Q48 (Z : State) (w : Addr) (N : Nat) (zN : Int32) (k : Nat) (g : Nat → Option Nat) (h0 : Heap) (n0 : Nat) (v : Option Value) (h : Heap) (L : List Loc) : Prop := ∃ r : Addr, v = some (.ref r) ∧ Fr n0 L ∧ Keep h0 h [] ∧ n0 ≤ r ∧ h0.size ≤ r ∧ own_By Z h r .byte k (fun j => if j < k then g j else none)
theorem ef_48 (m : MethodId) (x0 : Addr) (x1 : Int32) (x2 : Int32) : entryFrame m #[(.ref x0), (.int x1), (.int x2)] 5 = mkF m 0 #[vR x0, vI x1, vI x2, .unset, .unset] [] := by first | (simp [entryFrame, mkF, argsToLocals, Value.category]; done) | rfl
set_option maxRecDepth 65536 in
set_option maxHeartbeats 40000000 in
theorem rm48 (l : Launch) (Z : State) (a0 : Array Value) (hw : ∀ d ∈ tables_1, d.before a0 Z = true) (ws : List Jvm.Cond) (w : Addr) (N : Nat) (zN : Int32) (k : Nat) (g : Nat → Option Nat) (h0 : Heap) (n0 : Nat) (Z0 : n0 ≤ h0.size) (Aw : own_By Z h0 w .byte N g) (hz : zN.toInt = (N : Int)) (hk17 : k ≤ 17) (hkN : k < N) :
    own_Met l Z (⟨"java/util/Arrays", "copyOfRangeByte", "([BII)[B"⟩ : MethodName) jdk_65_method_133_code 5 (some (.array .byte)) ({ frames := 1, cells := 1, slots := 17, locals := 32 } : Room) ws #[(.ref w), (.int (0 : Int32)), (.int (Int32.ofNat k))] h0 (Q48 Z w N zN k g h0 n0) := by
  refine own_enter (plainFor_of_name (by first | (simp [plainName, overriddenIn]; done) | decide +kernel)) ?_
  intro p e s m below meth c s₁ hx hby hml hown hnm hlk hret hZ X0 e0
  have N0 := Fr.nil n0
  refine own_go (fun _ q => castTop (ef_48 m w (0 : Int32) (Int32.ofNat k)) q) ?_
  show OG (s₁.setTop (mkF m 0 #[vR w, vI (0 : Int32), vI (Int32.ofNat k), .unset, .unset] []))
  have hki := own_ofNatI (k := k) (by omega)
  have ez0 : (0 : Int32).toInt = 0 := rfl
  refine own_go (fun _ q => XS.iloadN X0.here hx rfl (hb hby d48_0) rfl (XS.iloadN X0.here hx rfl (hb hby d48_1) rfl q)) ?_
  show OG (s₁.setTop (mkF m 2 _ [(.int (Int32.ofNat k)), (.int (0 : Int32))]))
  refine own_static X0 hx hZ hown (wd hw 256 rfl) (wd hw 257 rfl) (wd hw 251 rfl) (wd hw 258 rfl) (by decide) e0 (argsL := [(.int (0 : Int32)), (.int (Int32.ofNat k))]) (rest := []) (rm49 l Z a0 hw [] (0 : Int32) (Int32.ofNat k) h0 n0 Z0 (own_nlt (x := (Int32.ofNat k)) (y := 0) (by omega))) 0 (by decide) (by decide) (by decide) (by decide) (by rw [hml]; rfl) pd_2 rfl rfl (Nat.le_of_eq rfl) (hb hby d48_2) rfl ?_
  intro v1 T1 L1 X1 hQ1
  obtain ⟨rfl, N1q, e1q⟩ := hQ1
  have N1 := Fr.app N0 N1q
  show OG (T1.setTop (mkF m 5 _ []))
  refine own_go (fun _ q => XS.iloadN X1.here hx rfl (hb hby d48_5) rfl (XS.iloadN X1.here hx rfl (hb hby d48_6) rfl (XS.isub X1.here hx rfl (hb hby d48_7) rfl q))) ?_
  show OG (T1.setTop (mkF m 8 #[vR w, vI (0 : Int32), vI (Int32.ofNat k), .unset, .unset] [(.int ((Int32.ofNat k) - (0 : Int32)))]))
  rw [own_subz]
  show OG (T1.setTop (mkF m 8 #[vR w, vI (0 : Int32), vI (Int32.ofNat k), .unset, .unset] [(.int (Int32.ofNat k))]))
  refine own_go (fun _ q => XS.istoreN X1.here hx rfl (hb hby d48_8) rfl (l' := #[vR w, vI (0 : Int32), vI (Int32.ofNat k), vI (Int32.ofNat k), .unset]) rfl (XS.iloadN X1.here hx rfl (hb hby d48_9) rfl q)) ?_
  show OG (T1.setTop (mkF m 10 #[vR w, vI (0 : Int32), vI (Int32.ofNat k), vI (Int32.ofNat k), .unset] [(.int (Int32.ofNat k))]))
  obtain ⟨T2, h2, k2, X2, e2, E2, Aw2, Ex2, st2⟩ := newPE X1 hx hZ (wd hw 27 rfl) e1q (g := (mkF m 10 #[vR w, vI (0 : Int32), vI (Int32.ofNat k), vI (Int32.ofNat k), .unset] [(.int (Int32.ofNat k))])) rfl (hb hby d48_10) rfl (own_nlt (x := (Int32.ofNat k)) (y := 0) (by omega)) (cap := 17) (by rw [Int32.toNatClampNeg, hki]; omega) (by decide) (by decide) (by decide) (ad := "[B") (by decide)
  obtain ⟨b2, g2⟩ : ∃ z, z = h0.size := ⟨_, rfl⟩
  rw [← g2] at Aw2 Ex2 st2
  have A2 := own_By.new (nn := k) Aw2 (own_nlt (x := (Int32.ofNat k)) (y := 0) (by omega)) (by rw [Int32.toNatClampNeg, hki]; rfl) rfl
  have nq3 : w ≠ b2 := Nat.ne_of_lt (Nat.lt_of_lt_of_eq (Aw).lt g2.symm)
  have y2 : h0.size ≤ b2 := Nat.le_trans (Nat.le_refl _) (Nat.le_of_eq g2.symm)
  have G2 : n0 ≤ b2 := Nat.le_trans Z0 (Nat.le_of_eq g2.symm)
  have Z2 : n0 ≤ h2.size := Nat.le_trans Z0 E2.1
  refine own_go st2 ?_
  show OG (T2.setTop (mkF m 12 _ [(.ref b2)]))
  refine own_go (fun _ q => XS.astore X2.here hx rfl (hb hby d48_12) rfl rfl (l' := #[vR w, vI (0 : Int32), vI (Int32.ofNat k), vI (Int32.ofNat k), vR b2]) rfl (XS.aloadN X2.here hx rfl (hb hby d48_14) rfl rfl (XS.iloadN X2.here hx rfl (hb hby d48_15) rfl (XS.aload X2.here hx rfl (hb hby d48_16) rfl rfl (XS.iconst X2.here hx rfl (hb hby d48_18) (XS.aloadN X2.here hx rfl (hb hby d48_19) rfl rfl q)))))) ?_
  show OG (T2.setTop (mkF m 20 #[vR w, vI (0 : Int32), vI (Int32.ofNat k), vI (Int32.ofNat k), vR b2] [(.ref w), (.int (0 : Int32)), (.ref b2), (.int (0 : Int32)), (.ref w)]))
  have f4 := (Aw.ext E2)
  refine own_blen (z := zN) X2 hx hZ e2 f4 hz (hb hby d48_20) rfl ?_
  show OG (T2.setTop (mkF m 21 #[vR w, vI (0 : Int32), vI (Int32.ofNat k), vI (Int32.ofNat k), vR b2] [(.int zN), (.int (0 : Int32)), (.ref b2), (.int (0 : Int32)), (.ref w)]))
  refine own_go (fun _ q => XS.iloadN X2.here hx rfl (hb hby d48_21) rfl (XS.isub X2.here hx rfl (hb hby d48_22) rfl q)) ?_
  show OG (T2.setTop (mkF m 23 _ [(.int (zN - (0 : Int32))), (.int (0 : Int32)), (.ref b2), (.int (0 : Int32)), (.ref w)]))
  rw [own_subz]
  show OG (T2.setTop (mkF m 23 #[vR w, vI (0 : Int32), vI (Int32.ofNat k), vI (Int32.ofNat k), vR b2] [(.int zN), (.int (0 : Int32)), (.ref b2), (.int (0 : Int32)), (.ref w)]))
  refine own_go (fun _ q => XS.iloadN X2.here hx rfl (hb hby d48_23) rfl q) ?_
  show OG (T2.setTop (mkF m 24 _ [(.int (Int32.ofNat k)), (.int zN), (.int (0 : Int32)), (.ref b2), (.int (0 : Int32)), (.ref w)]))
  refine own_static X2 hx hZ hown (wd hw 259 rfl) (wd hw 260 rfl) (wd hw 261 rfl) (wd hw 262 rfl) (by decide) e2 (argsL := [(.int zN), (.int (Int32.ofNat k))]) (rest := [(.int (0 : Int32)), (.ref b2), (.int (0 : Int32)), (.ref w)]) (rm50b l Z a0 hw [] zN (Int32.ofNat k) h2 n0 Z2 (own_lt (x := (Int32.ofNat k)) (y := zN) (by omega))) 4 (by decide) (by decide) (by decide) (by decide) (by rw [hml]; rfl) pd_13 rfl rfl (Nat.le_of_eq rfl) (hb hby d48_24) rfl ?_
  intro v5 T5 L5 X5 hQ5
  obtain ⟨rfl, N5q, e5q⟩ := hQ5
  have N5 := Fr.app N1 N5q
  show OG (T5.setTop (mkF m 27 _ [(.int (Int32.ofNat k)), (.int (0 : Int32)), (.ref b2), (.int (0 : Int32)), (.ref w)]))
  refine own_cp (s0 := 0) (d0 := 0) (k0 := k) X5 hx hZ hown (wd hw 263 rfl) (wd hw 222 rfl) (wd hw 220 rfl) (wd hw 221 rfl) e5q f4 A2 rfl rfl hki (by omega) (by omega) N5 G2 (by rw [hml]; rfl) (by decide) 0 (Nat.le_of_eq rfl) (by decide) (hb hby d48_27) rfl ?_
  intro T6 h6 L6 X6 e6 N6 K6 A6
  have Z6 : n0 ≤ h6.size := Nat.le_trans Z2 K6.1
  show OG (T6.setTop (mkF m 30 _ []))
  refine own_go (fun _ q => XS.aload X6.here hx rfl (hb hby d48_30) rfl rfl q) ?_
  show OG (T6.setTop (mkF m 32 #[vR w, vI (0 : Int32), vI (Int32.ofNat k), vI (Int32.ofNat k), vR b2] [(.ref b2)]))
  have Aq := A6.weak (g' := (fun j => if j < k then g j else none)) own_gk
  have K : Keep h0 h6 [] := (((Keep.refl h0 []).ext E2).trans K6 (allS (Or.inr y2) all0))
  subst e6
  exact own_retR X6 hx hlk hret rfl rfl rfl (hb hby d48_32) (by decide) (by decide) ⟨b2, rfl, N6, K, G2, y2, Aq⟩
abbrev C47 := jdk_65_method_132_code
theorem d47_0 : decode C47 0 = .ok (.iload_n 1, 1) := by decide +kernel
theorem d47_1 : decode C47 1 = .ok (.ifCond .ne 9, 3) := by decide +kernel
theorem d47_4 : decode C47 4 = .ok (.iload_n 2, 1) := by decide +kernel
theorem d47_5 : decode C47 5 = .ok (.aload_n 0, 1) := by decide +kernel
theorem d47_6 : decode C47 6 = .ok (.arraylength, 1) := by decide +kernel
theorem d47_7 : decode C47 7 = .ok (.if_icmp .eq 10, 3) := by decide +kernel
theorem d47_10 : decode C47 10 = .ok (.aload_n 0, 1) := by decide +kernel
theorem d47_11 : decode C47 11 = .ok (.iload_n 1, 1) := by decide +kernel
theorem d47_12 : decode C47 12 = .ok (.iload_n 2, 1) := by decide +kernel
theorem d47_13 : decode C47 13 = .ok (.invokestatic 339, 3) := by decide +kernel
theorem d47_16 : decode C47 16 = .ok (.areturn, 1) := by decide +kernel
theorem d47_17 : decode C47 17 = .ok (.aload_n 0, 1) := by decide +kernel
theorem d47_18 : decode C47 18 = .ok (.invokevirtual 310, 3) := by decide +kernel
theorem d47_21 : decode C47 21 = .ok (.checkcast 311, 3) := by decide +kernel
theorem d47_24 : decode C47 24 = .ok (.areturn, 1) := by decide +kernel
def Q47 (Z : State) (w : Addr) (N : Nat) (zN : Int32) (k : Nat) (g : Nat → Option Nat) (h0 : Heap) (n0 : Nat) (v : Option Value) (h : Heap) (L : List Loc) : Prop := ∃ r : Addr, v = some (.ref r) ∧ Fr n0 L ∧ Keep h0 h [] ∧ n0 ≤ r ∧ h0.size ≤ r ∧ own_By Z h r .byte k (fun j => if j < k then g j else none)
theorem ef_47 (m : MethodId) (x0 : Addr) (x1 : Int32) (x2 : Int32) : entryFrame m #[(.ref x0), (.int x1), (.int x2)] 3 = mkF m 0 #[vR x0, vI x1, vI x2] [] := by first | (simp [entryFrame, mkF, argsToLocals, Value.category]; done) | rfl
set_option maxRecDepth 65536 in
set_option maxHeartbeats 40000000 in
theorem rm47 (l : Launch) (Z : State) (a0 : Array Value) (hw : ∀ d ∈ tables_1, d.before a0 Z = true) (ws : List Jvm.Cond) (w : Addr) (N : Nat) (zN : Int32) (k : Nat) (g : Nat → Option Nat) (h0 : Heap) (n0 : Nat) (Z0 : n0 ≤ h0.size) (Aw : own_By Z h0 w .byte N g) (hz : zN.toInt = (N : Int)) (hk17 : k ≤ 17) (hkN : k ≤ N) (Ew : Exa Z h0 w "[B") :
    own_Met l Z (⟨"java/util/Arrays", "copyOfRange", "([BII)[B"⟩ : MethodName) jdk_65_method_132_code 3 (some (.array .byte)) ({ frames := 2, cells := 1, slots := 17, locals := 48 } : Room) ws #[(.ref w), (.int (0 : Int32)), (.int (Int32.ofNat k))] h0 (Q47 Z w N zN k g h0 n0) := by
  refine own_enter (plainFor_of_name (by first | (simp [plainName, overriddenIn]; done) | decide +kernel)) ?_
  intro p e s m below meth c s₁ hx hby hml hown hnm hlk hret hZ X0 e0
  have N0 := Fr.nil n0
  refine own_go (fun _ q => castTop (ef_47 m w (0 : Int32) (Int32.ofNat k)) q) ?_
  show OG (s₁.setTop (mkF m 0 #[vR w, vI (0 : Int32), vI (Int32.ofNat k)] []))
  have hki := own_ofNatI (k := k) (by omega)
  refine own_go (fun _ q => XS.iloadN X0.here hx rfl (hb hby d47_0) rfl q) ?_
  show OG (s₁.setTop (mkF m 1 _ [(.int (0 : Int32))]))
  refine own_go (fun _ q => XS.ifNo X0.here hx rfl (hb hby d47_1) rfl ((if0 _ _).trans (teq (by decide : (0 : Int32) = (0 : Int32))).2) q) ?_
  show OG (s₁.setTop (mkF m 4 #[vR w, vI (0 : Int32), vI (Int32.ofNat k)] []))
  refine own_go (fun _ q => XS.iloadN X0.here hx rfl (hb hby d47_4) rfl (XS.aloadN X0.here hx rfl (hb hby d47_5) rfl rfl q)) ?_
  show OG (s₁.setTop (mkF m 6 _ [(.ref w), (.int (Int32.ofNat k))]))
  refine own_blen (z := zN) X0 hx hZ e0 Aw hz (hb hby d47_6) rfl ?_
  show OG (s₁.setTop (mkF m 7 #[vR w, vI (0 : Int32), vI (Int32.ofNat k)] [(.int zN), (.int (Int32.ofNat k))]))
  by_cases hkn : (Int32.ofNat k) = zN
  · refine own_go (fun _ q => XS.icmpYes X0.here hx rfl (pc0 := 7) (pc' := 17) rfl (hb hby d47_7) rfl (teq hkn).1 (by decide) (by decide) q) ?_
    show OG (s₁.setTop (mkF m 17 #[vR w, vI (0 : Int32), vI (Int32.ofNat k)] []))
    refine own_go (fun _ q => XS.aloadN X0.here hx rfl (hb hby d47_17) rfl rfl q) ?_
    show OG (s₁.setTop (mkF m 18 _ [(.ref w)]))
    obtain rfl : k = N := by have := congrArg Int32.toInt hkn; omega
    obtain ⟨T1, h1, X1, e1, E1, A1, Ex1, st1⟩ := own_cloneB X0 hx hZ hown (ad := "[B") (wd hw 299 rfl) (wd hw 300 rfl) (wd hw 304 rfl) (wd hw 302 rfl) (wd hw 303 rfl) (wd hw 305 rfl) e0 Aw Ew (f := (mkF m 18 #[vR w, vI (0 : Int32), vI (Int32.ofNat k)] [(.ref w)])) rfl (by rw [hml]; rfl) rfl (hb hby d47_18) (by decide) (W := 0) (by show 2 * 0 + _ ≤ _; exact Nat.le_of_eq rfl) (by decide) (by decide) (by show 0 + k ≤ 17; omega)
    obtain ⟨b1, g1⟩ : ∃ z, z = h0.size := ⟨_, rfl⟩
    rw [← g1] at A1 Ex1 st1
    have y1 : h0.size ≤ b1 := Nat.le_trans (Nat.le_refl _) (Nat.le_of_eq g1.symm)
    have G1 : n0 ≤ b1 := Nat.le_trans Z0 (Nat.le_of_eq g1.symm)
    have Z1 : n0 ≤ h1.size := Nat.le_trans Z0 E1.1
    refine own_go st1 ?_
    show OG (T1.setTop (mkF m 21 #[vR w, vI (0 : Int32), vI (Int32.ofNat k)] [(.ref b1)]))
    obtain ⟨T2, X2, e2, st2⟩ := castY X1 hx hZ hown (wd hw 306 rfl) e1 (Ins.self Ex1) (g := (mkF m 21 #[vR w, vI (0 : Int32), vI (Int32.ofNat k)] [(.ref b1)])) rfl rfl (hb hby d47_21)
    refine own_go st2 ?_
    show OG (T2.setTop (mkF m 24 _ [(.ref b1)]))
    have Aq := A1.weak (g' := (fun j => if j < k then g j else none)) own_gkN
    have K : Keep h0 h1 [] := ((Keep.refl h0 []).ext E1)
    subst e2
    exact own_retR X2 hx hlk hret rfl rfl rfl (hb hby d47_24) (by decide) (by show 0 + k ≤ 17; omega) ⟨b1, rfl, N0, K, G1, y1, Aq⟩
  · refine own_go (fun _ q => XS.icmpNo X0.here hx rfl (hb hby d47_7) rfl (feq hkn).1 q) ?_
    show OG (s₁.setTop (mkF m 10 #[vR w, vI (0 : Int32), vI (Int32.ofNat k)] []))
    refine own_go (fun _ q => XS.aloadN X0.here hx rfl (hb hby d47_10) rfl rfl (XS.iloadN X0.here hx rfl (hb hby d47_11) rfl (XS.iloadN X0.here hx rfl (hb hby d47_12) rfl q))) ?_
    show OG (s₁.setTop (mkF m 13 _ [(.int (Int32.ofNat k)), (.int (0 : Int32)), (.ref w)]))
    refine own_static X0 hx hZ hown (wd hw 253 rfl) (wd hw 254 rfl) (wd hw 251 rfl) (wd hw 255 rfl) (by decide) e0 (argsL := [(.ref w), (.int (0 : Int32)), (.int (Int32.ofNat k))]) (rest := []) (rm48 l Z a0 hw [] w N zN k g h0 n0 Z0 Aw hz hk17 (by have := own_neI hkn; omega)) 0 (by decide) (by decide) (by decide) (by decide) (by rw [hml]; rfl) pd_22 rfl rfl (Nat.le_of_eq rfl) (hb hby d47_13) rfl ?_
    intro v3 T3 L3 X3 hQ3
    obtain ⟨r, rfl, N3q, K3, G1, G2, G3⟩ := hQ3
    have N3 := Fr.app N0 N3q
    show OG (T3.setTop (mkF m 16 _ [(.ref r)]))
    exact own_retR X3 hx hlk hret rfl rfl rfl (hb hby d47_16) (by decide) (by decide) ⟨r, rfl, N3, K3, G1, G2, G3⟩
abbrev C43 := jdk_42_method_150_code
theorem d43_0 : decode C43 0 = .ok (.aload_n 0, 1) := by decide +kernel
theorem d43_1 : decode C43 1 = .ok (.invokespecial 1, 3) := by decide +kernel
theorem d43_4 : decode C43 4 = .ok (.aload_n 1, 1) := by decide +kernel
theorem d43_5 : decode C43 5 = .ok (.invokevirtual 552, 3) := by decide +kernel
theorem d43_8 : decode C43 8 = .ok (.astore_n 3, 1) := by decide +kernel
theorem d43_9 : decode C43 9 = .ok (.aload_n 1, 1) := by decide +kernel
theorem d43_10 : decode C43 10 = .ok (.invokevirtual 549, 3) := by decide +kernel
theorem d43_13 : decode C43 13 = .ok (.istore 4, 2) := by decide +kernel
theorem d43_15 : decode C43 15 = .ok (.aload_n 1, 1) := by decide +kernel
theorem d43_16 : decode C43 16 = .ok (.invokevirtual 1047, 3) := by decide +kernel
theorem d43_19 : decode C43 19 = .ok (.ifCond .eq 22, 3) := by decide +kernel
theorem d43_22 : decode C43 22 = .ok (.aload_n 0, 1) := by decide +kernel
theorem d43_23 : decode C43 23 = .ok (.iconst 0, 1) := by decide +kernel
theorem d43_24 : decode C43 24 = .ok (.putfield 15, 3) := by decide +kernel
theorem d43_27 : decode C43 27 = .ok (.aload_n 0, 1) := by decide +kernel
theorem d43_28 : decode C43 28 = .ok (.aload_n 3, 1) := by decide +kernel
theorem d43_29 : decode C43 29 = .ok (.iconst 0, 1) := by decide +kernel
theorem d43_30 : decode C43 30 = .ok (.iload 4, 2) := by decide +kernel
theorem d43_32 : decode C43 32 = .ok (.invokestatic 54, 3) := by decide +kernel
theorem d43_35 : decode C43 35 = .ok (.putfield 9, 3) := by decide +kernel
theorem d43_38 : decode C43 38 = .ok (.goto 59, 3) := by decide +kernel
theorem d43_97 : decode C43 97 = .ok (.return_, 1) := by decide +kernel
def Q43 (Z : State) (s_ : Addr) (b : Addr) (w : Addr) (N : Nat) (zN : Int32) (k : Nat) (g : Nat → Option Nat) (zc : Int32) (h0 : Heap) (n0 : Nat) (v : Option Value) (h : Heap) (L : List Loc) : Prop := v = none ∧ Fr n0 L ∧ Keep h0 h [s_] ∧ Exa Z h s_ "java/lang/String" ∧ Fld Z h s_ "java/lang/String" "coder" "B" (.int 0) ∧ ∃ r : Addr, n0 ≤ r ∧ h0.size ≤ r ∧ Fld Z h s_ "java/lang/String" "value" "[B" (.ref r) ∧ own_By Z h r .byte k (fun j => if j < k then g j else none)
theorem ef_43 (m : MethodId) (x0 : Addr) (x1 : Addr) : entryFrame m #[(.ref x0), (.ref x1), .null] 5 = mkF m 0 #[vR x0, vR x1, .val .null, .unset, .unset] [] := by first | (simp [entryFrame, mkF, argsToLocals, Value.category]; done) | rfl
set_option maxRecDepth 65536 in
set_option maxHeartbeats 40000000 in
theorem rm43 (l : Launch) (Z : State) (a0 : Array Value) (hw : ∀ d ∈ tables_1, d.before a0 Z = true) (ws : List Jvm.Cond) (s_ : Addr) (b : Addr) (w : Addr) (N : Nat) (zN : Int32) (k : Nat) (g : Nat → Option Nat) (zc : Int32) (h0 : Heap) (n0 : Nat) (Z0 : n0 ≤ h0.size) (SC : Sta Z Z.heap "java/lang/String" "COMPACT_STRINGS" "Z" (.int zc)) (hz0 : ¬ zc = 0) (Od : Old Z n0 h0) (Es : Exa Z h0 s_ "java/lang/String") (Fs1 : Fld Z h0 s_ "java/lang/String" "coder" "B" (.int 0)) (Fs2 : Fld Z h0 s_ "java/lang/String" "value" "[B" .null) (gs_ : n0 ≤ s_) (SBf : own_SB Z h0 b w N (Int32.ofNat k) g) (hz : zN.toInt = (N : Int)) (hk17 : k ≤ 17) (hkN : k ≤ N) (nsb : s_ ≠ b) (nsw : s_ ≠ w) :
    own_Met l Z (⟨"java/lang/String", "<init>", "(Ljava/lang/AbstractStringBuilder;Ljava/lang/Void;)V"⟩ : MethodName) jdk_42_method_150_code 5 none ({ frames := 3, cells := 1, slots := 17, locals := 64 } : Room) ws #[(.ref s_), (.ref b), .null] h0 (Q43 Z s_ b w N zN k g zc h0 n0) := by
  refine own_enter (plainFor_of_name (by first | (simp [plainName, overriddenIn]; done) | decide +kernel)) ?_
  intro p e s m below meth c s₁ hx hby hml hown hnm hlk hret hZ X0 e0
  have N0 := Fr.nil n0
  refine own_go (fun _ q => castTop (ef_43 m s_ b) q) ?_
  show OG (s₁.setTop (mkF m 0 #[vR s_, vR b, .val .null, .unset, .unset] []))
  have hl_s := Es.lt
  obtain ⟨SBE, SBV, SBC, SBN, SBA, SBX⟩ := SBf
  refine own_go (fun _ q => XS.aloadN X0.here hx rfl (hb hby d43_0) rfl rfl q) ?_
  show OG (s₁.setTop (mkF m 1 _ [(.ref s_)]))
  obtain ⟨T1, X1, e1, st1⟩ := initO X0 hx hZ hown (wd hw 19 rfl) (wd hw 20 rfl) (wd hw 21 rfl) e0 (g := (mkF m 1 #[vR s_, vR b, .val .null, .unset, .unset] [(.ref s_)])) rfl (by rw [hml]; rfl) rfl (hb hby d43_1) (by decide) (W := 0) (by show 2 * 0 + _ ≤ _; exact Nat.le_of_eq rfl) (by decide)
  refine own_go st1 ?_
  show OG (T1.setTop (mkF m 4 _ []))
  refine own_go (fun _ q => XS.aloadN X1.here hx rfl (hb hby d43_4) rfl rfl q) ?_
  show OG (T1.setTop (mkF m 5 #[vR s_, vR b, .val .null, .unset, .unset] [(.ref b)]))
  refine own_virtual X1 hx hZ hown (wd hw 235 rfl) (wd hw 236 rfl) (wd hw 238 rfl) (wd hw 237 rfl) (wd hw 137 rfl) (wd hw 239 rfl) (by decide) e1 (a := b) SBE (argsL := []) (rest := []) (rm44 l Z a0 hw [] b w h0 n0 Z0 SBV) 0 (by decide) (by decide) (by decide) (by decide) (by rw [hml]; rfl) pd_23 rfl rfl (Nat.le_of_eq rfl) (hb hby d43_5) rfl ?_
  intro v2 T2 L2 X2 hQ2
  obtain ⟨rfl, N2q, e2q⟩ := hQ2
  have N2 := Fr.app N0 N2q
  show OG (T2.setTop (mkF m 8 _ [(.ref w)]))
  refine own_go (fun _ q => XS.astoreN X2.here hx rfl (hb hby d43_8) rfl rfl (l' := #[vR s_, vR b, .val .null, vR w, .unset]) rfl (XS.aloadN X2.here hx rfl (hb hby d43_9) rfl rfl q)) ?_
  show OG (T2.setTop (mkF m 10 #[vR s_, vR b, .val .null, vR w, .unset] [(.ref b)]))
  refine own_virtual2 X2 hx hZ hown (wd hw 240 rfl) (wd hw 241 rfl) (wd hw 243 rfl) (wd hw 244 rfl) (wd hw 129 rfl) (wd hw 245 rfl) (own_face hZ (wd hw 172 rfl) (wd hw 171 rfl) rfl) (by decide) e2q (a := b) SBE (argsL := []) (rest := []) (rm45 l Z a0 hw [] b (Int32.ofNat k) h0 n0 Z0 SBE SBN) 0 (by decide) (by decide) (by decide) (by decide) (by rw [hml]; rfl) pd_5 rfl rfl (Nat.le_of_eq rfl) (hb hby d43_10) rfl ?_
  intro v3 T3 L3 X3 hQ3
  obtain ⟨rfl, N3q, e3q⟩ := hQ3
  have N3 := Fr.app N2 N3q
  show OG (T3.setTop (mkF m 13 _ [(.int (Int32.ofNat k))]))
  refine own_go (fun _ q => XS.istore X3.here hx rfl (hb hby d43_13) rfl (l' := #[vR s_, vR b, .val .null, vR w, vI (Int32.ofNat k)]) rfl (XS.aloadN X3.here hx rfl (hb hby d43_15) rfl rfl q)) ?_
  show OG (T3.setTop (mkF m 16 #[vR s_, vR b, .val .null, vR w, vI (Int32.ofNat k)] [(.ref b)]))
  refine own_virtual X3 hx hZ hown (wd hw 248 rfl) (wd hw 170 rfl) (wd hw 172 rfl) (wd hw 171 rfl) (wd hw 137 rfl) (wd hw 173 rfl) (by decide) e3q (a := b) SBE (argsL := []) (rest := []) (rm30 l Z a0 hw [] b zc h0 n0 Z0 SC hz0 Od SBC) 0 (by decide) (by decide) (by decide) (by decide) (by rw [hml]; rfl) pd_3 rfl rfl (Nat.le_of_eq rfl) (hb hby d43_16) rfl ?_
  intro v4 T4 L4 X4 hQ4
  obtain ⟨rfl, N4q, e4q⟩ := hQ4
  have N4 := Fr.app N3 N4q
  show OG (T4.setTop (mkF m 19 _ [(.int (1 : Int32))]))
  refine own_go (fun _ q => XS.ifNo X4.here hx rfl (hb hby d43_19) rfl ((if0 _ _).trans (feq (by decide : ¬ ((1 : Int32) = (0 : Int32)))).1) q) ?_
  show OG (T4.setTop (mkF m 22 #[vR s_, vR b, .val .null, vR w, vI (Int32.ofNat k)] []))
  refine own_go (fun _ q => XS.aloadN X4.here hx rfl (hb hby d43_22) rfl rfl (XS.iconst X4.here hx rfl (hb hby d43_23) q)) ?_
  show OG (T4.setTop (mkF m 24 _ [(.int (0 : Int32)), (.ref s_)]))
  obtain ⟨T5, h5, X5, e5, W5, st5⟩ := putFN X4 hx hZ hown (wd hw 34 rfl) Via.refl e4q Fs1 Es (Or.inr ⟨(wd hw 35 rfl), rfl, hnm⟩) (wd hw 9 rfl) (ty := .byte) (v' := (.int (0 : Int32))) (by decide) rfl rfl (g := (mkF m 24 #[vR s_, vR b, .val .null, vR w, vI (Int32.ofNat k)] [(.int (0 : Int32)), (.ref s_)])) rfl rfl (hb hby d43_24)
  have N5 := Fr.snoc X5 N4 gs_
  have Fw5 := Fs1.same W5
  have Z5 : n0 ≤ h5.size := by rw [W5.size]; exact Z0
  refine own_go st5 ?_
  show OG (T5.setTop (mkF m 27 _ []))
  refine own_go (fun _ q => XS.aloadN X5.here hx rfl (hb hby d43_27) rfl rfl (XS.aloadN X5.here hx rfl (hb hby d43_28) rfl rfl (XS.iconst X5.here hx rfl (hb hby d43_29) (XS.iload X5.here hx rfl (hb hby d43_30) rfl q)))) ?_
  show OG (T5.setTop (mkF m 32 #[vR s_, vR b, .val .null, vR w, vI (Int32.ofNat k)] [(.int (Int32.ofNat k)), (.int (0 : Int32)), (.ref w), (.ref s_)]))
  have f6 := (SBA.other W5 (Ne.symm nsw))
  have f7 := (SBX.wr W5)
  refine own_static X5 hx hZ hown (wd hw 249 rfl) (wd hw 250 rfl) (wd hw 251 rfl) (wd hw 252 rfl) (by decide) e5 (argsL := [(.ref w), (.int (0 : Int32)), (.int (Int32.ofNat k))]) (rest := [(.ref s_)]) (rm47 l Z a0 hw [] w N zN k g h5 n0 Z5 f6 hz hk17 hkN f7) 1 (by decide) (by decide) (by decide) (by decide) (by rw [hml]; rfl) pd_22 rfl rfl (Nat.le_of_eq rfl) (hb hby d43_32) rfl ?_
  intro v8 T8 L8 X8 hQ8
  obtain ⟨r, rfl, N8q, K8, Gr, yr0, Ar⟩ := hQ8
  have N8 := Fr.app N5 N8q
  show OG (T8.setTop (mkF m 35 _ [(.ref r), (.ref s_)]))
  have yr : h0.size ≤ r := Nat.le_trans (Nat.le_trans (Nat.le_refl _) (Nat.le_of_eq W5.size.symm)) yr0
  have nsr : s_ ≠ r := fun q => absurd (q ▸ hl_s) (Nat.not_lt.mpr yr)
  have Z8 : n0 ≤ T8.heap.size := Nat.le_trans Z5 K8.1
  have f10 := ((Fs2.other W5 (Or.inr (slot_ne (Or.inr (wd hw 37 rfl)) (Or.inr (wd hw 35 rfl)) (by decide) (t := (.array .byte)) (t' := .byte) (by decide) (by decide)))).keep K8 nin0)
  have f11 := ((Es.wr W5).keep K8)
  obtain ⟨T9, h9, X9, e9, W9, st9⟩ := putF X8 hx hZ hown (host := "") (Or.inl (wd hw 36 rfl)) Via.refl rfl f10 f11 (Or.inr ⟨(wd hw 37 rfl), rfl, hnm⟩) (wd hw 9 rfl) (ty := (.array .byte)) (by decide) rfl rfl (g := (mkF m 35 #[vR s_, vR b, .val .null, vR w, vI (Int32.ofNat k)] [(.ref r), (.ref s_)])) rfl rfl (hb hby d43_35)
  have N9 := Fr.snoc X9 N8 gs_
  have Fw9 := f10.same W9
  have Z9 : n0 ≤ h9.size := by rw [W9.size]; exact Z8
  refine own_go st9 ?_
  show OG (T9.setTop (mkF m 38 _ []))
  refine own_go (fun _ q => XS.goto X9.here hx rfl (pc0 := 38) (pc' := 97) rfl (hb hby d43_38) (by decide) (by decide) q) ?_
  show OG (T9.setTop (mkF m 97 _ []))
  have f12 := (f11.wr W9)
  have f13 := ((Fw5.keep K8 nin0).other W9 (Or.inr (slot_ne (Or.inr (wd hw 35 rfl)) (Or.inr (wd hw 37 rfl)) (by decide) (t := .byte) (t' := (.array .byte)) (by decide) (by decide))))
  have f14 := (Ar.other W9 (Ne.symm nsr))
  have K : Keep h0 h9 [s_] := ((((Keep.refl h0 [s_]).wr W5 (Or.inl (List.mem_cons_self ..))).trans K8 all0).wr W9 (Or.inl (List.mem_cons_self ..)))
  subst e9
  exact own_retV X9 hx hlk hret (hb hby d43_97) (by decide) (by decide) ⟨rfl, N9, K, f12, f13, r, Gr, yr, Fw9, f14⟩
abbrev C42 := jdk_42_method_53_code
theorem d42_0 : decode C42 0 = .ok (.aload_n 0, 1) := by decide +kernel
theorem d42_1 : decode C42 1 = .ok (.aload_n 1, 1) := by decide +kernel
theorem d42_2 : decode C42 2 = .ok (.aconst_null, 1) := by decide +kernel
theorem d42_3 : decode C42 3 = .ok (.invokespecial 489, 3) := by decide +kernel
theorem d42_6 : decode C42 6 = .ok (.return_, 1) := by decide +kernel
def Q42 (Z : State) (s_ : Addr) (b : Addr) (w : Addr) (N : Nat) (zN : Int32) (k : Nat) (g : Nat → Option Nat) (zc : Int32) (h0 : Heap) (n0 : Nat) (v : Option Value) (h : Heap) (L : List Loc) : Prop := v = none ∧ Fr n0 L ∧ Keep h0 h [s_] ∧ Exa Z h s_ "java/lang/String" ∧ Fld Z h s_ "java/lang/String" "coder" "B" (.int 0) ∧ ∃ r : Addr, n0 ≤ r ∧ h0.size ≤ r ∧ Fld Z h s_ "java/lang/String" "value" "[B" (.ref r) ∧ own_By Z h r .byte k (fun j => if j < k then g j else none)
theorem ef_42 (m : MethodId) (x0 : Addr) (x1 : Addr) : entryFrame m #[(.ref x0), (.ref x1)] 2 = mkF m 0 #[vR x0, vR x1] [] := by first | (simp [entryFrame, mkF, argsToLocals, Value.category]; done) | rfl
set_option maxRecDepth 65536 in
set_option maxHeartbeats 40000000 in
theorem rm42 (l : Launch) (Z : State) (a0 : Array Value) (hw : ∀ d ∈ tables_1, d.before a0 Z = true) (ws : List Jvm.Cond) (s_ : Addr) (b : Addr) (w : Addr) (N : Nat) (zN : Int32) (k : Nat) (g : Nat → Option Nat) (zc : Int32) (h0 : Heap) (n0 : Nat) (Z0 : n0 ≤ h0.size) (SC : Sta Z Z.heap "java/lang/String" "COMPACT_STRINGS" "Z" (.int zc)) (hz0 : ¬ zc = 0) (Od : Old Z n0 h0) (Es : Exa Z h0 s_ "java/lang/String") (Fs1 : Fld Z h0 s_ "java/lang/String" "coder" "B" (.int 0)) (Fs2 : Fld Z h0 s_ "java/lang/String" "value" "[B" .null) (gs_ : n0 ≤ s_) (SBf : own_SB Z h0 b w N (Int32.ofNat k) g) (hz : zN.toInt = (N : Int)) (hk17 : k ≤ 17) (hkN : k ≤ N) (nsb : s_ ≠ b) (nsw : s_ ≠ w) :
    own_Met l Z (⟨"java/lang/String", "<init>", "(Ljava/lang/StringBuilder;)V"⟩ : MethodName) jdk_42_method_53_code 2 none ({ frames := 4, cells := 1, slots := 17, locals := 80 } : Room) ws #[(.ref s_), (.ref b)] h0 (Q42 Z s_ b w N zN k g zc h0 n0) := by
  refine own_enter (plainFor_of_name (by first | (simp [plainName, overriddenIn]; done) | decide +kernel)) ?_
  intro p e s m below meth c s₁ hx hby hml hown hnm hlk hret hZ X0 e0
  have N0 := Fr.nil n0
  refine own_go (fun _ q => castTop (ef_42 m s_ b) q) ?_
  show OG (s₁.setTop (mkF m 0 #[vR s_, vR b] []))
  refine own_go (fun _ q => XS.aloadN X0.here hx rfl (hb hby d42_0) rfl rfl (XS.aloadN X0.here hx rfl (hb hby d42_1) rfl rfl (XS.aconstNull X0.here hx rfl (hb hby d42_2) q))) ?_
  show OG (s₁.setTop (mkF m 3 _ [.null, (.ref b), (.ref s_)]))
  refine own_init X0 hx hZ rfl hown (wd hw 232 rfl) (wd hw 233 rfl) (wd hw 10 rfl) (wd hw 234 rfl) (by decide) e0 (a := s_) (argsL := [(.ref b), .null]) (rest := []) (rm43 l Z a0 hw [] s_ b w N zN k g zc h0 n0 Z0 SC hz0 Od Es Fs1 Fs2 gs_ SBf hz hk17 hkN nsb nsw) 0 (by decide) (by decide) (by decide) (by decide) (by rw [hml]; rfl) pd_24 rfl rfl (Nat.le_of_eq rfl) (hb hby d42_3) rfl ?_
  intro v1 T1 L1 X1 hQ1
  obtain ⟨rfl, N1q, K1, G1⟩ := hQ1
  have N1 := Fr.app N0 N1q
  show OG (T1.setTop (mkF m 6 _ []))
  exact own_retV X1 hx hlk hret (hb hby d42_6) (by decide) (by decide) ⟨rfl, N1, K1, G1⟩
abbrev C41 := jdk_67_method_42_code
theorem d41_0 : decode C41 0 = .ok (.new 18, 3) := by decide +kernel
theorem d41_3 : decode C41 3 = .ok (.dup, 1) := by decide +kernel
theorem d41_4 : decode C41 4 = .ok (.aload_n 0, 1) := by decide +kernel
theorem d41_5 : decode C41 5 = .ok (.invokespecial 137, 3) := by decide +kernel
theorem d41_8 : decode C41 8 = .ok (.areturn, 1) := by decide +kernel
def Q41 (Z : State) (b : Addr) (w : Addr) (N : Nat) (zN : Int32) (k : Nat) (g : Nat → Option Nat) (zc : Int32) (h0 : Heap) (n0 : Nat) (v : Option Value) (h : Heap) (L : List Loc) : Prop := ∃ s_ : Addr, v = some (.ref s_) ∧ Fr n0 L ∧ Keep h0 h [] ∧ n0 ≤ s_ ∧ h0.size ≤ s_ ∧ Exa Z h s_ "java/lang/String" ∧ Fld Z h s_ "java/lang/String" "coder" "B" (.int 0) ∧ ∃ r : Addr, n0 ≤ r ∧ h0.size ≤ r ∧ Fld Z h s_ "java/lang/String" "value" "[B" (.ref r) ∧ own_By Z h r .byte k (fun j => if j < k then g j else none)
theorem ef_41 (m : MethodId) (x0 : Addr) : entryFrame m #[(.ref x0)] 1 = mkF m 0 #[vR x0] [] := by first | (simp [entryFrame, mkF, argsToLocals, Value.category]; done) | rfl
set_option maxRecDepth 65536 in
set_option maxHeartbeats 40000000 in
theorem rm41 (l : Launch) (Z : State) (a0 : Array Value) (hw : ∀ d ∈ tables_1, d.before a0 Z = true) (ws : List Jvm.Cond) (b : Addr) (w : Addr) (N : Nat) (zN : Int32) (k : Nat) (g : Nat → Option Nat) (zc : Int32) (h0 : Heap) (n0 : Nat) (Z0 : n0 ≤ h0.size) (SC : Sta Z Z.heap "java/lang/String" "COMPACT_STRINGS" "Z" (.int zc)) (hz0 : ¬ zc = 0) (Od : Old Z n0 h0) (SBf : own_SB Z h0 b w N (Int32.ofNat k) g) (hz : zN.toInt = (N : Int)) (hk17 : k ≤ 17) (hkN : k ≤ N) :
    own_Met l Z (⟨"java/lang/StringBuilder", "toString", "()Ljava/lang/String;"⟩ : MethodName) jdk_67_method_42_code 1 (some (.object "java/lang/String")) ({ frames := 5, cells := 2, slots := 21, locals := 96 } : Room) ws #[(.ref b)] h0 (Q41 Z b w N zN k g zc h0 n0) := by
  refine own_enter (plainFor_of_name (by first | (simp [plainName, overriddenIn]; done) | decide +kernel)) ?_
  intro p e s m below meth c s₁ hx hby hml hown hnm hlk hret hZ X0 e0
  have N0 := Fr.nil n0
  refine own_go (fun _ q => castTop (ef_41 m b) q) ?_
  show OG (s₁.setTop (mkF m 0 #[vR b] []))
  obtain ⟨SBE, SBV, SBC, SBN, SBA, SBX⟩ := SBf
  obtain ⟨T1, h1, X1, e1, E1, A1, D1, -, st1⟩ := newO X0 hx hZ hown (wd hw 228 rfl) (wd hw 9 rfl) (wd hw 10 rfl) e0 (g := (mkF m 0 #[vR b] [])) rfl (hb hby d41_0) (by decide) (by decide)
  obtain ⟨b1, g1⟩ : ∃ z, z = h0.size := ⟨_, rfl⟩
  rw [← g1] at A1 D1 st1
  have nq2 : b ≠ b1 := Nat.ne_of_lt (Nat.lt_of_lt_of_eq (SBE).lt g1.symm)
  have nq3 : w ≠ b1 := Nat.ne_of_lt (Nat.lt_of_lt_of_eq (SBA).lt g1.symm)
  have G1 : n0 ≤ b1 := Nat.le_trans Z0 (Nat.le_of_eq g1.symm)
  have Z1 : n0 ≤ h1.size := Nat.le_trans Z0 E1.1
  have Fn1_coder : Fld Z h1 b1 "java/lang/String" "coder" "B" (.int (0 : Int32)) := D1 (Or.inr (wd hw 35 rfl)) (ty := .byte) (by decide)
  have Fn1_value : Fld Z h1 b1 "java/lang/String" "value" "[B" .null := D1 (Or.inr (wd hw 37 rfl)) (ty := (.array .byte)) (by decide)
  have y1 : h0.size ≤ b1 := Nat.le_trans (Nat.le_refl _) (Nat.le_of_eq g1.symm)
  refine own_go st1 ?_
  show OG (T1.setTop (mkF m 3 _ [(.ref b1)]))
  refine own_go (fun _ q => XS.dup X1.here hx rfl (hb hby d41_3) rfl rfl (XS.aloadN X1.here hx rfl (hb hby d41_4) rfl rfl q)) ?_
  show OG (T1.setTop (mkF m 5 _ [(.ref b), (.ref b1), (.ref b1)]))
  have f4 := (SBE.ext E1)
  have f5 := (SBV.ext E1)
  have f6 := (SBC.ext E1)
  have f7 := (SBN.ext E1)
  have f8 := (SBA.ext E1)
  have f9 := (SBX.ext E1)
  have f10 := (Od.ext E1)
  refine own_init X1 hx hZ rfl hown (wd hw 229 rfl) (wd hw 230 rfl) (wd hw 10 rfl) (wd hw 231 rfl) (by decide) e1 (a := b1) (argsL := [(.ref b)]) (rest := [(.ref b1)]) (rm42 l Z a0 hw [] b1 b w N zN k g zc h1 n0 Z1 SC hz0 f10 A1 Fn1_coder Fn1_value G1 ⟨f4, f5, f6, f7, f8, f9⟩ hz hk17 hkN (Ne.symm nq2) (Ne.symm nq3)) 1 (by decide) (by decide) (by decide) (by decide) (by rw [hml]; rfl) pd_25 rfl rfl (Nat.le_of_eq rfl) (hb hby d41_5) rfl ?_
  intro v11 T11 L11 X11 hQ11
  obtain ⟨rfl, N11q, K11, J1, J2, r, J3, J4, J5, J6⟩ := hQ11
  have N11 := Fr.app N0 N11q
  show OG (T11.setTop (mkF m 8 _ [(.ref b1)]))
  have yr : h0.size ≤ r := Nat.le_trans E1.1 J4
  have K : Keep h0 T11.heap [] := (((Keep.refl h0 []).ext E1).trans K11 (allS (Or.inr y1) all0))
  exact own_retR X11 hx hlk hret rfl rfl rfl (hb hby d41_8) (by decide) (by decide) ⟨b1, rfl, N11, K, G1, y1, J1, J2, r, J3, yr, J5, J6⟩
abbrev C33 := jdk_33_method_13_code
theorem d33_0 : decode C33 0 = .ok (.iconst 1, 1) := by decide +kernel
theorem d33_1 : decode C33 1 = .ok (.istore_n 1, 1) := by decide +kernel
theorem d33_2 : decode C33 2 = .ok (.iload_n 0, 1) := by decide +kernel
theorem d33_3 : decode C33 3 = .ok (.ifCond .lt 8, 3) := by decide +kernel
theorem d33_6 : decode C33 6 = .ok (.iconst 0, 1) := by decide +kernel
theorem d33_7 : decode C33 7 = .ok (.istore_n 1, 1) := by decide +kernel
theorem d33_8 : decode C33 8 = .ok (.iload_n 0, 1) := by decide +kernel
theorem d33_9 : decode C33 9 = .ok (.ineg, 1) := by decide +kernel
theorem d33_10 : decode C33 10 = .ok (.istore_n 0, 1) := by decide +kernel
theorem d33_11 : decode C33 11 = .ok (.bipush (-10), 2) := by decide +kernel
theorem d33_13 : decode C33 13 = .ok (.istore_n 2, 1) := by decide +kernel
theorem d33_14 : decode C33 14 = .ok (.iconst 1, 1) := by decide +kernel
theorem d33_15 : decode C33 15 = .ok (.istore_n 3, 1) := by decide +kernel
theorem d33_16 : decode C33 16 = .ok (.iload_n 3, 1) := by decide +kernel
theorem d33_17 : decode C33 17 = .ok (.bipush 10, 2) := by decide +kernel
theorem d33_19 : decode C33 19 = .ok (.if_icmp .ge 23, 3) := by decide +kernel
theorem d33_22 : decode C33 22 = .ok (.iload_n 0, 1) := by decide +kernel
theorem d33_23 : decode C33 23 = .ok (.iload_n 2, 1) := by decide +kernel
theorem d33_24 : decode C33 24 = .ok (.if_icmp .le 7, 3) := by decide +kernel
theorem d33_27 : decode C33 27 = .ok (.iload_n 3, 1) := by decide +kernel
theorem d33_28 : decode C33 28 = .ok (.iload_n 1, 1) := by decide +kernel
theorem d33_29 : decode C33 29 = .ok (.iadd, 1) := by decide +kernel
theorem d33_30 : decode C33 30 = .ok (.ireturn, 1) := by decide +kernel
theorem d33_31 : decode C33 31 = .ok (.bipush 10, 2) := by decide +kernel
theorem d33_33 : decode C33 33 = .ok (.iload_n 2, 1) := by decide +kernel
theorem d33_34 : decode C33 34 = .ok (.imul, 1) := by decide +kernel
theorem d33_35 : decode C33 35 = .ok (.istore_n 2, 1) := by decide +kernel
theorem d33_36 : decode C33 36 = .ok (.iinc 3 1, 3) := by decide +kernel
theorem d33_39 : decode C33 39 = .ok (.goto (-23), 3) := by decide +kernel
theorem d33_42 : decode C33 42 = .ok (.bipush 10, 2) := by decide +kernel
theorem d33_44 : decode C33 44 = .ok (.iload_n 1, 1) := by decide +kernel
theorem d33_45 : decode C33 45 = .ok (.iadd, 1) := by decide +kernel
theorem d33_46 : decode C33 46 = .ok (.ireturn, 1) := by decide +kernel
def Q33 (Z : State) (x : Int32) (X : Nat) (h0 : Heap) (n0 : Nat) (v : Option Value) (h : Heap) (L : List Loc) : Prop := ∃ nd : Nat, v = some (.int (Int32.ofNat nd)) ∧ Fr n0 L ∧ h = h0 ∧ own_dig nd X
theorem ef_33 (m : MethodId) (x0 : Int32) : entryFrame m #[(.int x0)] 4 = mkF m 0 #[vI x0, .unset, .unset, .unset] [] := by first | (simp [entryFrame, mkF, argsToLocals, Value.category]; done) | rfl
set_option maxRecDepth 65536 in
set_option maxHeartbeats 40000000 in
theorem rm33 (l : Launch) (Z : State) (a0 : Array Value) (hw : ∀ d ∈ tables_1, d.before a0 Z = true) (ws : List Jvm.Cond) (x : Int32) (X : Nat) (h0 : Heap) (n0 : Nat) (Z0 : n0 ≤ h0.size) (hX : x.toInt = (X : Int)) (hX1 : 1 ≤ X) :
    own_Met l Z (⟨"java/lang/Integer", "stringSize", "(I)I"⟩ : MethodName) jdk_33_method_13_code 4 (some .int) ({ frames := 0, cells := 0, slots := 0, locals := 0 } : Room) ws #[(.int x)] h0 (Q33 Z x X h0 n0) := by
  refine own_enter (plainFor_of_name (by first | (simp [plainName, overriddenIn]; done) | decide +kernel)) ?_
  intro p e s m below meth c s₁ hx hby hml hown hnm hlk hret hZ X0 e0
  have N0 := Fr.nil n0
  refine own_go (fun _ q => castTop (ef_33 m x) q) ?_
  show OG (s₁.setTop (mkF m 0 #[vI x, .unset, .unset, .unset] []))
  have hng := own_neg32 (x := x) (by omega)
  have hrx := rng32 x
  refine own_go (fun _ q => XS.iconst X0.here hx rfl (hb hby d33_0) (XS.istoreN X0.here hx rfl (hb hby d33_1) rfl (l' := #[vI x, vI (1 : Int32), .unset, .unset]) rfl (XS.iloadN X0.here hx rfl (hb hby d33_2) rfl q))) ?_
  show OG (s₁.setTop (mkF m 3 #[vI x, vI (1 : Int32), .unset, .unset] [(.int x)]))
  refine own_go (fun _ q => XS.ifNo X0.here hx rfl (hb hby d33_3) rfl ((if0 _ _).trans (flt (own_nlt (x := x) (y := 0) (by have ez : (0 : Int32).toInt = 0 := rfl; omega))).1) q) ?_
  show OG (s₁.setTop (mkF m 6 #[vI x, vI (1 : Int32), .unset, .unset] []))
  refine own_go (fun _ q => XS.iconst X0.here hx rfl (hb hby d33_6) (XS.istoreN X0.here hx rfl (hb hby d33_7) rfl (l' := #[vI x, vI (0 : Int32), .unset, .unset]) rfl (XS.iloadN X0.here hx rfl (hb hby d33_8) rfl (XS.ineg X0.here hx rfl (hb hby d33_9) rfl (XS.istoreN X0.here hx rfl (hb hby d33_10) rfl (l' := #[vI (-x), vI (0 : Int32), .unset, .unset]) rfl (XS.bipush X0.here hx rfl (hb hby d33_11) (XS.istoreN X0.here hx rfl (hb hby d33_13) rfl (l' := #[vI (-x), vI (0 : Int32), vI (-10 : Int32), .unset]) rfl (XS.iconst X0.here hx rfl (hb hby d33_14) q)))))))) ?_
  show OG (s₁.setTop (mkF m 15 #[vI (-x), vI (0 : Int32), vI (-10 : Int32), .unset] [(.int (1 : Int32))]))
  refine own_go (fun _ q => XS.istoreN X0.here hx rfl (hb hby d33_15) rfl (l' := #[vI (-x), vI (0 : Int32), vI (-10 : Int32), vI (1 : Int32)]) rfl q) ?_
  show OG (s₁.setTop (mkF m 16 #[vI (-x), vI (0 : Int32), vI (-10 : Int32), vI (1 : Int32)] []))
  refine own_go (fun _ q => XS.iloadN X0.here hx rfl (hb hby d33_16) rfl (XS.bipush X0.here hx rfl (hb hby d33_17) q)) ?_
  show OG (s₁.setTop (mkF m 19 _ [(.int (10 : Int32)), (.int (1 : Int32))]))
  refine own_go (fun _ q => XS.icmpNo X0.here hx rfl (hb hby d33_19) rfl (tlt (by decide : (1 : Int32) < (10 : Int32))).2.1 q) ?_
  show OG (s₁.setTop (mkF m 22 #[vI (-x), vI (0 : Int32), vI (-10 : Int32), vI (1 : Int32)] []))
  refine own_go (fun _ q => XS.iloadN X0.here hx rfl (hb hby d33_22) rfl (XS.iloadN X0.here hx rfl (hb hby d33_23) rfl q)) ?_
  show OG (s₁.setTop (mkF m 24 _ [(.int (-10 : Int32)), (.int (-x))]))
  by_cases hs1 : (-10 : Int32) < (-x)
  · refine own_go (fun _ q => XS.icmpNo X0.here hx rfl (hb hby d33_24) rfl (tlt hs1).2.2.2 q) ?_
    show OG (s₁.setTop (mkF m 27 #[vI (-x), vI (0 : Int32), vI (-10 : Int32), vI (1 : Int32)] []))
    refine own_go (fun _ q => XS.iloadN X0.here hx rfl (hb hby d33_27) rfl (XS.iloadN X0.here hx rfl (hb hby d33_28) rfl (XS.iadd X0.here hx rfl (hb hby d33_29) rfl q))) ?_
    show OG (s₁.setTop (mkF m 30 _ [(.int ((1 : Int32) + (0 : Int32)))]))
    show OG (s₁.setTop (mkF m 30 #[vI (-x), vI (0 : Int32), vI (-10 : Int32), vI (1 : Int32)] [(.int (1 : Int32))]))
    have e_hs1 : (-10 : Int32).toInt = -10 := rfl
    rw [Int32.lt_iff_toInt_lt, e_hs1, hng] at hs1
    exact own_retI X0 hx hlk hret (hb hby d33_30) (by decide) (by decide) ⟨1, rfl, N0, e0, by decide, by decide, by show 1 ≤ X; omega, by show X < 10; omega⟩
  · refine own_go (fun _ q => XS.icmpYes X0.here hx rfl (pc0 := 24) (pc' := 31) rfl (hb hby d33_24) rfl (flt hs1).2.2.2 (by decide) (by decide) q) ?_
    show OG (s₁.setTop (mkF m 31 #[vI (-x), vI (0 : Int32), vI (-10 : Int32), vI (1 : Int32)] []))
    refine own_go (fun _ q => XS.bipush X0.here hx rfl (hb hby d33_31) (XS.iloadN X0.here hx rfl (hb hby d33_33) rfl (XS.imul X0.here hx rfl (hb hby d33_34) rfl (XS.istoreN X0.here hx rfl (hb hby d33_35) rfl (l' := #[vI (-x), vI (0 : Int32), vI ((10 : Int32) * (-10 : Int32)), vI (1 : Int32)]) rfl q)))) ?_
    show OG (s₁.setTop (mkF m 36 #[vI (-x), vI (0 : Int32), vI ((10 : Int32) * (-10 : Int32)), vI (1 : Int32)] []))
    show OG (s₁.setTop (mkF m 36 #[vI (-x), vI (0 : Int32), vI (-100 : Int32), vI (1 : Int32)] []))
    refine own_go (fun _ q => XS.iinc X0.here hx rfl (hb hby d33_36) rfl (l' := #[vI (-x), vI (0 : Int32), vI (-100 : Int32), vI ((1 : Int32) + (1 : Int32))]) rfl q) ?_
    show OG (s₁.setTop (mkF m 39 #[vI (-x), vI (0 : Int32), vI (-100 : Int32), vI ((1 : Int32) + (1 : Int32))] []))
    show OG (s₁.setTop (mkF m 39 #[vI (-x), vI (0 : Int32), vI (-100 : Int32), vI (2 : Int32)] []))
    refine own_go (fun _ q => XS.goto X0.here hx rfl (pc0 := 39) (pc' := 16) rfl (hb hby d33_39) (by decide) (by decide) (XS.iloadN X0.here hx rfl (hb hby d33_16) rfl (XS.bipush X0.here hx rfl (hb hby d33_17) q))) ?_
    show OG (s₁.setTop (mkF m 19 _ [(.int (10 : Int32)), (.int (2 : Int32))]))
    refine own_go (fun _ q => XS.icmpNo X0.here hx rfl (hb hby d33_19) rfl (tlt (by decide : (2 : Int32) < (10 : Int32))).2.1 q) ?_
    show OG (s₁.setTop (mkF m 22 #[vI (-x), vI (0 : Int32), vI (-100 : Int32), vI (2 : Int32)] []))
    refine own_go (fun _ q => XS.iloadN X0.here hx rfl (hb hby d33_22) rfl (XS.iloadN X0.here hx rfl (hb hby d33_23) rfl q)) ?_
    show OG (s₁.setTop (mkF m 24 _ [(.int (-100 : Int32)), (.int (-x))]))
    by_cases hs2 : (-100 : Int32) < (-x)
    · refine own_go (fun _ q => XS.icmpNo X0.here hx rfl (hb hby d33_24) rfl (tlt hs2).2.2.2 q) ?_
      show OG (s₁.setTop (mkF m 27 #[vI (-x), vI (0 : Int32), vI (-100 : Int32), vI (2 : Int32)] []))
      refine own_go (fun _ q => XS.iloadN X0.here hx rfl (hb hby d33_27) rfl (XS.iloadN X0.here hx rfl (hb hby d33_28) rfl (XS.iadd X0.here hx rfl (hb hby d33_29) rfl q))) ?_
      show OG (s₁.setTop (mkF m 30 _ [(.int ((2 : Int32) + (0 : Int32)))]))
      show OG (s₁.setTop (mkF m 30 #[vI (-x), vI (0 : Int32), vI (-100 : Int32), vI (2 : Int32)] [(.int (2 : Int32))]))
      have e_hs1 : (-10 : Int32).toInt = -10 := rfl
      rw [Int32.lt_iff_toInt_lt, e_hs1, hng] at hs1
      have e_hs2 : (-100 : Int32).toInt = -100 := rfl
      rw [Int32.lt_iff_toInt_lt, e_hs2, hng] at hs2
      exact own_retI X0 hx hlk hret (hb hby d33_30) (by decide) (by decide) ⟨2, rfl, N0, e0, by decide, by decide, by show 10 ≤ X; omega, by show X < 100; omega⟩
    · refine own_go (fun _ q => XS.icmpYes X0.here hx rfl (pc0 := 24) (pc' := 31) rfl (hb hby d33_24) rfl (flt hs2).2.2.2 (by decide) (by decide) q) ?_
      show OG (s₁.setTop (mkF m 31 #[vI (-x), vI (0 : Int32), vI (-100 : Int32), vI (2 : Int32)] []))
      refine own_go (fun _ q => XS.bipush X0.here hx rfl (hb hby d33_31) (XS.iloadN X0.here hx rfl (hb hby d33_33) rfl (XS.imul X0.here hx rfl (hb hby d33_34) rfl (XS.istoreN X0.here hx rfl (hb hby d33_35) rfl (l' := #[vI (-x), vI (0 : Int32), vI ((10 : Int32) * (-100 : Int32)), vI (2 : Int32)]) rfl q)))) ?_
      show OG (s₁.setTop (mkF m 36 #[vI (-x), vI (0 : Int32), vI ((10 : Int32) * (-100 : Int32)), vI (2 : Int32)] []))
      show OG (s₁.setTop (mkF m 36 #[vI (-x), vI (0 : Int32), vI (-1000 : Int32), vI (2 : Int32)] []))
      refine own_go (fun _ q => XS.iinc X0.here hx rfl (hb hby d33_36) rfl (l' := #[vI (-x), vI (0 : Int32), vI (-1000 : Int32), vI ((2 : Int32) + (1 : Int32))]) rfl q) ?_
      show OG (s₁.setTop (mkF m 39 #[vI (-x), vI (0 : Int32), vI (-1000 : Int32), vI ((2 : Int32) + (1 : Int32))] []))
      show OG (s₁.setTop (mkF m 39 #[vI (-x), vI (0 : Int32), vI (-1000 : Int32), vI (3 : Int32)] []))
      refine own_go (fun _ q => XS.goto X0.here hx rfl (pc0 := 39) (pc' := 16) rfl (hb hby d33_39) (by decide) (by decide) (XS.iloadN X0.here hx rfl (hb hby d33_16) rfl (XS.bipush X0.here hx rfl (hb hby d33_17) q))) ?_
      show OG (s₁.setTop (mkF m 19 _ [(.int (10 : Int32)), (.int (3 : Int32))]))
      refine own_go (fun _ q => XS.icmpNo X0.here hx rfl (hb hby d33_19) rfl (tlt (by decide : (3 : Int32) < (10 : Int32))).2.1 q) ?_
      show OG (s₁.setTop (mkF m 22 #[vI (-x), vI (0 : Int32), vI (-1000 : Int32), vI (3 : Int32)] []))
      refine own_go (fun _ q => XS.iloadN X0.here hx rfl (hb hby d33_22) rfl (XS.iloadN X0.here hx rfl (hb hby d33_23) rfl q)) ?_
      show OG (s₁.setTop (mkF m 24 _ [(.int (-1000 : Int32)), (.int (-x))]))
      by_cases hs3 : (-1000 : Int32) < (-x)
      · refine own_go (fun _ q => XS.icmpNo X0.here hx rfl (hb hby d33_24) rfl (tlt hs3).2.2.2 q) ?_
        show OG (s₁.setTop (mkF m 27 #[vI (-x), vI (0 : Int32), vI (-1000 : Int32), vI (3 : Int32)] []))
        refine own_go (fun _ q => XS.iloadN X0.here hx rfl (hb hby d33_27) rfl (XS.iloadN X0.here hx rfl (hb hby d33_28) rfl (XS.iadd X0.here hx rfl (hb hby d33_29) rfl q))) ?_
        show OG (s₁.setTop (mkF m 30 _ [(.int ((3 : Int32) + (0 : Int32)))]))
        show OG (s₁.setTop (mkF m 30 #[vI (-x), vI (0 : Int32), vI (-1000 : Int32), vI (3 : Int32)] [(.int (3 : Int32))]))
        have e_hs2 : (-100 : Int32).toInt = -100 := rfl
        rw [Int32.lt_iff_toInt_lt, e_hs2, hng] at hs2
        have e_hs3 : (-1000 : Int32).toInt = -1000 := rfl
        rw [Int32.lt_iff_toInt_lt, e_hs3, hng] at hs3
        exact own_retI X0 hx hlk hret (hb hby d33_30) (by decide) (by decide) ⟨3, rfl, N0, e0, by decide, by decide, by show 100 ≤ X; omega, by show X < 1000; omega⟩
      · refine own_go (fun _ q => XS.icmpYes X0.here hx rfl (pc0 := 24) (pc' := 31) rfl (hb hby d33_24) rfl (flt hs3).2.2.2 (by decide) (by decide) q) ?_
        show OG (s₁.setTop (mkF m 31 #[vI (-x), vI (0 : Int32), vI (-1000 : Int32), vI (3 : Int32)] []))
        refine own_go (fun _ q => XS.bipush X0.here hx rfl (hb hby d33_31) (XS.iloadN X0.here hx rfl (hb hby d33_33) rfl (XS.imul X0.here hx rfl (hb hby d33_34) rfl (XS.istoreN X0.here hx rfl (hb hby d33_35) rfl (l' := #[vI (-x), vI (0 : Int32), vI ((10 : Int32) * (-1000 : Int32)), vI (3 : Int32)]) rfl q)))) ?_
        show OG (s₁.setTop (mkF m 36 #[vI (-x), vI (0 : Int32), vI ((10 : Int32) * (-1000 : Int32)), vI (3 : Int32)] []))
        show OG (s₁.setTop (mkF m 36 #[vI (-x), vI (0 : Int32), vI (-10000 : Int32), vI (3 : Int32)] []))
        refine own_go (fun _ q => XS.iinc X0.here hx rfl (hb hby d33_36) rfl (l' := #[vI (-x), vI (0 : Int32), vI (-10000 : Int32), vI ((3 : Int32) + (1 : Int32))]) rfl q) ?_
        show OG (s₁.setTop (mkF m 39 #[vI (-x), vI (0 : Int32), vI (-10000 : Int32), vI ((3 : Int32) + (1 : Int32))] []))
        show OG (s₁.setTop (mkF m 39 #[vI (-x), vI (0 : Int32), vI (-10000 : Int32), vI (4 : Int32)] []))
        refine own_go (fun _ q => XS.goto X0.here hx rfl (pc0 := 39) (pc' := 16) rfl (hb hby d33_39) (by decide) (by decide) (XS.iloadN X0.here hx rfl (hb hby d33_16) rfl (XS.bipush X0.here hx rfl (hb hby d33_17) q))) ?_
        show OG (s₁.setTop (mkF m 19 _ [(.int (10 : Int32)), (.int (4 : Int32))]))
        refine own_go (fun _ q => XS.icmpNo X0.here hx rfl (hb hby d33_19) rfl (tlt (by decide : (4 : Int32) < (10 : Int32))).2.1 q) ?_
        show OG (s₁.setTop (mkF m 22 #[vI (-x), vI (0 : Int32), vI (-10000 : Int32), vI (4 : Int32)] []))
        refine own_go (fun _ q => XS.iloadN X0.here hx rfl (hb hby d33_22) rfl (XS.iloadN X0.here hx rfl (hb hby d33_23) rfl q)) ?_
        show OG (s₁.setTop (mkF m 24 _ [(.int (-10000 : Int32)), (.int (-x))]))
        by_cases hs4 : (-10000 : Int32) < (-x)
        · refine own_go (fun _ q => XS.icmpNo X0.here hx rfl (hb hby d33_24) rfl (tlt hs4).2.2.2 q) ?_
          show OG (s₁.setTop (mkF m 27 #[vI (-x), vI (0 : Int32), vI (-10000 : Int32), vI (4 : Int32)] []))
          refine own_go (fun _ q => XS.iloadN X0.here hx rfl (hb hby d33_27) rfl (XS.iloadN X0.here hx rfl (hb hby d33_28) rfl (XS.iadd X0.here hx rfl (hb hby d33_29) rfl q))) ?_
          show OG (s₁.setTop (mkF m 30 _ [(.int ((4 : Int32) + (0 : Int32)))]))
          show OG (s₁.setTop (mkF m 30 #[vI (-x), vI (0 : Int32), vI (-10000 : Int32), vI (4 : Int32)] [(.int (4 : Int32))]))
          have e_hs3 : (-1000 : Int32).toInt = -1000 := rfl
          rw [Int32.lt_iff_toInt_lt, e_hs3, hng] at hs3
          have e_hs4 : (-10000 : Int32).toInt = -10000 := rfl
          rw [Int32.lt_iff_toInt_lt, e_hs4, hng] at hs4
          exact own_retI X0 hx hlk hret (hb hby d33_30) (by decide) (by decide) ⟨4, rfl, N0, e0, by decide, by decide, by show 1000 ≤ X; omega, by show X < 10000; omega⟩
        · refine own_go (fun _ q => XS.icmpYes X0.here hx rfl (pc0 := 24) (pc' := 31) rfl (hb hby d33_24) rfl (flt hs4).2.2.2 (by decide) (by decide) q) ?_
          show OG (s₁.setTop (mkF m 31 #[vI (-x), vI (0 : Int32), vI (-10000 : Int32), vI (4 : Int32)] []))
          refine own_go (fun _ q => XS.bipush X0.here hx rfl (hb hby d33_31) (XS.iloadN X0.here hx rfl (hb hby d33_33) rfl (XS.imul X0.here hx rfl (hb hby d33_34) rfl (XS.istoreN X0.here hx rfl (hb hby d33_35) rfl (l' := #[vI (-x), vI (0 : Int32), vI ((10 : Int32) * (-10000 : Int32)), vI (4 : Int32)]) rfl q)))) ?_
          show OG (s₁.setTop (mkF m 36 #[vI (-x), vI (0 : Int32), vI ((10 : Int32) * (-10000 : Int32)), vI (4 : Int32)] []))
          show OG (s₁.setTop (mkF m 36 #[vI (-x), vI (0 : Int32), vI (-100000 : Int32), vI (4 : Int32)] []))
          refine own_go (fun _ q => XS.iinc X0.here hx rfl (hb hby d33_36) rfl (l' := #[vI (-x), vI (0 : Int32), vI (-100000 : Int32), vI ((4 : Int32) + (1 : Int32))]) rfl q) ?_
          show OG (s₁.setTop (mkF m 39 #[vI (-x), vI (0 : Int32), vI (-100000 : Int32), vI ((4 : Int32) + (1 : Int32))] []))
          show OG (s₁.setTop (mkF m 39 #[vI (-x), vI (0 : Int32), vI (-100000 : Int32), vI (5 : Int32)] []))
          refine own_go (fun _ q => XS.goto X0.here hx rfl (pc0 := 39) (pc' := 16) rfl (hb hby d33_39) (by decide) (by decide) (XS.iloadN X0.here hx rfl (hb hby d33_16) rfl (XS.bipush X0.here hx rfl (hb hby d33_17) q))) ?_
          show OG (s₁.setTop (mkF m 19 _ [(.int (10 : Int32)), (.int (5 : Int32))]))
          refine own_go (fun _ q => XS.icmpNo X0.here hx rfl (hb hby d33_19) rfl (tlt (by decide : (5 : Int32) < (10 : Int32))).2.1 q) ?_
          show OG (s₁.setTop (mkF m 22 #[vI (-x), vI (0 : Int32), vI (-100000 : Int32), vI (5 : Int32)] []))
          refine own_go (fun _ q => XS.iloadN X0.here hx rfl (hb hby d33_22) rfl (XS.iloadN X0.here hx rfl (hb hby d33_23) rfl q)) ?_
          show OG (s₁.setTop (mkF m 24 _ [(.int (-100000 : Int32)), (.int (-x))]))
          by_cases hs5 : (-100000 : Int32) < (-x)
          · refine own_go (fun _ q => XS.icmpNo X0.here hx rfl (hb hby d33_24) rfl (tlt hs5).2.2.2 q) ?_
            show OG (s₁.setTop (mkF m 27 #[vI (-x), vI (0 : Int32), vI (-100000 : Int32), vI (5 : Int32)] []))
            refine own_go (fun _ q => XS.iloadN X0.here hx rfl (hb hby d33_27) rfl (XS.iloadN X0.here hx rfl (hb hby d33_28) rfl (XS.iadd X0.here hx rfl (hb hby d33_29) rfl q))) ?_
            show OG (s₁.setTop (mkF m 30 _ [(.int ((5 : Int32) + (0 : Int32)))]))
            show OG (s₁.setTop (mkF m 30 #[vI (-x), vI (0 : Int32), vI (-100000 : Int32), vI (5 : Int32)] [(.int (5 : Int32))]))
            have e_hs4 : (-10000 : Int32).toInt = -10000 := rfl
            rw [Int32.lt_iff_toInt_lt, e_hs4, hng] at hs4
            have e_hs5 : (-100000 : Int32).toInt = -100000 := rfl
            rw [Int32.lt_iff_toInt_lt, e_hs5, hng] at hs5
            exact own_retI X0 hx hlk hret (hb hby d33_30) (by decide) (by decide) ⟨5, rfl, N0, e0, by decide, by decide, by show 10000 ≤ X; omega, by show X < 100000; omega⟩
          · refine own_go (fun _ q => XS.icmpYes X0.here hx rfl (pc0 := 24) (pc' := 31) rfl (hb hby d33_24) rfl (flt hs5).2.2.2 (by decide) (by decide) q) ?_
            show OG (s₁.setTop (mkF m 31 #[vI (-x), vI (0 : Int32), vI (-100000 : Int32), vI (5 : Int32)] []))
            refine own_go (fun _ q => XS.bipush X0.here hx rfl (hb hby d33_31) (XS.iloadN X0.here hx rfl (hb hby d33_33) rfl (XS.imul X0.here hx rfl (hb hby d33_34) rfl (XS.istoreN X0.here hx rfl (hb hby d33_35) rfl (l' := #[vI (-x), vI (0 : Int32), vI ((10 : Int32) * (-100000 : Int32)), vI (5 : Int32)]) rfl q)))) ?_
            show OG (s₁.setTop (mkF m 36 #[vI (-x), vI (0 : Int32), vI ((10 : Int32) * (-100000 : Int32)), vI (5 : Int32)] []))
            show OG (s₁.setTop (mkF m 36 #[vI (-x), vI (0 : Int32), vI (-1000000 : Int32), vI (5 : Int32)] []))
            refine own_go (fun _ q => XS.iinc X0.here hx rfl (hb hby d33_36) rfl (l' := #[vI (-x), vI (0 : Int32), vI (-1000000 : Int32), vI ((5 : Int32) + (1 : Int32))]) rfl q) ?_
            show OG (s₁.setTop (mkF m 39 #[vI (-x), vI (0 : Int32), vI (-1000000 : Int32), vI ((5 : Int32) + (1 : Int32))] []))
            show OG (s₁.setTop (mkF m 39 #[vI (-x), vI (0 : Int32), vI (-1000000 : Int32), vI (6 : Int32)] []))
            refine own_go (fun _ q => XS.goto X0.here hx rfl (pc0 := 39) (pc' := 16) rfl (hb hby d33_39) (by decide) (by decide) (XS.iloadN X0.here hx rfl (hb hby d33_16) rfl (XS.bipush X0.here hx rfl (hb hby d33_17) q))) ?_
            show OG (s₁.setTop (mkF m 19 _ [(.int (10 : Int32)), (.int (6 : Int32))]))
            refine own_go (fun _ q => XS.icmpNo X0.here hx rfl (hb hby d33_19) rfl (tlt (by decide : (6 : Int32) < (10 : Int32))).2.1 q) ?_
            show OG (s₁.setTop (mkF m 22 #[vI (-x), vI (0 : Int32), vI (-1000000 : Int32), vI (6 : Int32)] []))
            refine own_go (fun _ q => XS.iloadN X0.here hx rfl (hb hby d33_22) rfl (XS.iloadN X0.here hx rfl (hb hby d33_23) rfl q)) ?_
            show OG (s₁.setTop (mkF m 24 _ [(.int (-1000000 : Int32)), (.int (-x))]))
            by_cases hs6 : (-1000000 : Int32) < (-x)
            · refine own_go (fun _ q => XS.icmpNo X0.here hx rfl (hb hby d33_24) rfl (tlt hs6).2.2.2 q) ?_
              show OG (s₁.setTop (mkF m 27 #[vI (-x), vI (0 : Int32), vI (-1000000 : Int32), vI (6 : Int32)] []))
              refine own_go (fun _ q => XS.iloadN X0.here hx rfl (hb hby d33_27) rfl (XS.iloadN X0.here hx rfl (hb hby d33_28) rfl (XS.iadd X0.here hx rfl (hb hby d33_29) rfl q))) ?_
              show OG (s₁.setTop (mkF m 30 _ [(.int ((6 : Int32) + (0 : Int32)))]))
              show OG (s₁.setTop (mkF m 30 #[vI (-x), vI (0 : Int32), vI (-1000000 : Int32), vI (6 : Int32)] [(.int (6 : Int32))]))
              have e_hs5 : (-100000 : Int32).toInt = -100000 := rfl
              rw [Int32.lt_iff_toInt_lt, e_hs5, hng] at hs5
              have e_hs6 : (-1000000 : Int32).toInt = -1000000 := rfl
              rw [Int32.lt_iff_toInt_lt, e_hs6, hng] at hs6
              exact own_retI X0 hx hlk hret (hb hby d33_30) (by decide) (by decide) ⟨6, rfl, N0, e0, by decide, by decide, by show 100000 ≤ X; omega, by show X < 1000000; omega⟩
            · refine own_go (fun _ q => XS.icmpYes X0.here hx rfl (pc0 := 24) (pc' := 31) rfl (hb hby d33_24) rfl (flt hs6).2.2.2 (by decide) (by decide) q) ?_
              show OG (s₁.setTop (mkF m 31 #[vI (-x), vI (0 : Int32), vI (-1000000 : Int32), vI (6 : Int32)] []))
              refine own_go (fun _ q => XS.bipush X0.here hx rfl (hb hby d33_31) (XS.iloadN X0.here hx rfl (hb hby d33_33) rfl (XS.imul X0.here hx rfl (hb hby d33_34) rfl (XS.istoreN X0.here hx rfl (hb hby d33_35) rfl (l' := #[vI (-x), vI (0 : Int32), vI ((10 : Int32) * (-1000000 : Int32)), vI (6 : Int32)]) rfl q)))) ?_
              show OG (s₁.setTop (mkF m 36 #[vI (-x), vI (0 : Int32), vI ((10 : Int32) * (-1000000 : Int32)), vI (6 : Int32)] []))
              show OG (s₁.setTop (mkF m 36 #[vI (-x), vI (0 : Int32), vI (-10000000 : Int32), vI (6 : Int32)] []))
              refine own_go (fun _ q => XS.iinc X0.here hx rfl (hb hby d33_36) rfl (l' := #[vI (-x), vI (0 : Int32), vI (-10000000 : Int32), vI ((6 : Int32) + (1 : Int32))]) rfl q) ?_
              show OG (s₁.setTop (mkF m 39 #[vI (-x), vI (0 : Int32), vI (-10000000 : Int32), vI ((6 : Int32) + (1 : Int32))] []))
              show OG (s₁.setTop (mkF m 39 #[vI (-x), vI (0 : Int32), vI (-10000000 : Int32), vI (7 : Int32)] []))
              refine own_go (fun _ q => XS.goto X0.here hx rfl (pc0 := 39) (pc' := 16) rfl (hb hby d33_39) (by decide) (by decide) (XS.iloadN X0.here hx rfl (hb hby d33_16) rfl (XS.bipush X0.here hx rfl (hb hby d33_17) q))) ?_
              show OG (s₁.setTop (mkF m 19 _ [(.int (10 : Int32)), (.int (7 : Int32))]))
              refine own_go (fun _ q => XS.icmpNo X0.here hx rfl (hb hby d33_19) rfl (tlt (by decide : (7 : Int32) < (10 : Int32))).2.1 q) ?_
              show OG (s₁.setTop (mkF m 22 #[vI (-x), vI (0 : Int32), vI (-10000000 : Int32), vI (7 : Int32)] []))
              refine own_go (fun _ q => XS.iloadN X0.here hx rfl (hb hby d33_22) rfl (XS.iloadN X0.here hx rfl (hb hby d33_23) rfl q)) ?_
              show OG (s₁.setTop (mkF m 24 _ [(.int (-10000000 : Int32)), (.int (-x))]))
              by_cases hs7 : (-10000000 : Int32) < (-x)
              · refine own_go (fun _ q => XS.icmpNo X0.here hx rfl (hb hby d33_24) rfl (tlt hs7).2.2.2 q) ?_
                show OG (s₁.setTop (mkF m 27 #[vI (-x), vI (0 : Int32), vI (-10000000 : Int32), vI (7 : Int32)] []))
                refine own_go (fun _ q => XS.iloadN X0.here hx rfl (hb hby d33_27) rfl (XS.iloadN X0.here hx rfl (hb hby d33_28) rfl (XS.iadd X0.here hx rfl (hb hby d33_29) rfl q))) ?_
                show OG (s₁.setTop (mkF m 30 _ [(.int ((7 : Int32) + (0 : Int32)))]))
                show OG (s₁.setTop (mkF m 30 #[vI (-x), vI (0 : Int32), vI (-10000000 : Int32), vI (7 : Int32)] [(.int (7 : Int32))]))
                have e_hs6 : (-1000000 : Int32).toInt = -1000000 := rfl
                rw [Int32.lt_iff_toInt_lt, e_hs6, hng] at hs6
                have e_hs7 : (-10000000 : Int32).toInt = -10000000 := rfl
                rw [Int32.lt_iff_toInt_lt, e_hs7, hng] at hs7
                exact own_retI X0 hx hlk hret (hb hby d33_30) (by decide) (by decide) ⟨7, rfl, N0, e0, by decide, by decide, by show 1000000 ≤ X; omega, by show X < 10000000; omega⟩
              · refine own_go (fun _ q => XS.icmpYes X0.here hx rfl (pc0 := 24) (pc' := 31) rfl (hb hby d33_24) rfl (flt hs7).2.2.2 (by decide) (by decide) q) ?_
                show OG (s₁.setTop (mkF m 31 #[vI (-x), vI (0 : Int32), vI (-10000000 : Int32), vI (7 : Int32)] []))
                refine own_go (fun _ q => XS.bipush X0.here hx rfl (hb hby d33_31) (XS.iloadN X0.here hx rfl (hb hby d33_33) rfl (XS.imul X0.here hx rfl (hb hby d33_34) rfl (XS.istoreN X0.here hx rfl (hb hby d33_35) rfl (l' := #[vI (-x), vI (0 : Int32), vI ((10 : Int32) * (-10000000 : Int32)), vI (7 : Int32)]) rfl q)))) ?_
                show OG (s₁.setTop (mkF m 36 #[vI (-x), vI (0 : Int32), vI ((10 : Int32) * (-10000000 : Int32)), vI (7 : Int32)] []))
                show OG (s₁.setTop (mkF m 36 #[vI (-x), vI (0 : Int32), vI (-100000000 : Int32), vI (7 : Int32)] []))
                refine own_go (fun _ q => XS.iinc X0.here hx rfl (hb hby d33_36) rfl (l' := #[vI (-x), vI (0 : Int32), vI (-100000000 : Int32), vI ((7 : Int32) + (1 : Int32))]) rfl q) ?_
                show OG (s₁.setTop (mkF m 39 #[vI (-x), vI (0 : Int32), vI (-100000000 : Int32), vI ((7 : Int32) + (1 : Int32))] []))
                show OG (s₁.setTop (mkF m 39 #[vI (-x), vI (0 : Int32), vI (-100000000 : Int32), vI (8 : Int32)] []))
                refine own_go (fun _ q => XS.goto X0.here hx rfl (pc0 := 39) (pc' := 16) rfl (hb hby d33_39) (by decide) (by decide) (XS.iloadN X0.here hx rfl (hb hby d33_16) rfl (XS.bipush X0.here hx rfl (hb hby d33_17) q))) ?_
                show OG (s₁.setTop (mkF m 19 _ [(.int (10 : Int32)), (.int (8 : Int32))]))
                refine own_go (fun _ q => XS.icmpNo X0.here hx rfl (hb hby d33_19) rfl (tlt (by decide : (8 : Int32) < (10 : Int32))).2.1 q) ?_
                show OG (s₁.setTop (mkF m 22 #[vI (-x), vI (0 : Int32), vI (-100000000 : Int32), vI (8 : Int32)] []))
                refine own_go (fun _ q => XS.iloadN X0.here hx rfl (hb hby d33_22) rfl (XS.iloadN X0.here hx rfl (hb hby d33_23) rfl q)) ?_
                show OG (s₁.setTop (mkF m 24 _ [(.int (-100000000 : Int32)), (.int (-x))]))
                by_cases hs8 : (-100000000 : Int32) < (-x)
                · refine own_go (fun _ q => XS.icmpNo X0.here hx rfl (hb hby d33_24) rfl (tlt hs8).2.2.2 q) ?_
                  show OG (s₁.setTop (mkF m 27 #[vI (-x), vI (0 : Int32), vI (-100000000 : Int32), vI (8 : Int32)] []))
                  refine own_go (fun _ q => XS.iloadN X0.here hx rfl (hb hby d33_27) rfl (XS.iloadN X0.here hx rfl (hb hby d33_28) rfl (XS.iadd X0.here hx rfl (hb hby d33_29) rfl q))) ?_
                  show OG (s₁.setTop (mkF m 30 _ [(.int ((8 : Int32) + (0 : Int32)))]))
                  show OG (s₁.setTop (mkF m 30 #[vI (-x), vI (0 : Int32), vI (-100000000 : Int32), vI (8 : Int32)] [(.int (8 : Int32))]))
                  have e_hs7 : (-10000000 : Int32).toInt = -10000000 := rfl
                  rw [Int32.lt_iff_toInt_lt, e_hs7, hng] at hs7
                  have e_hs8 : (-100000000 : Int32).toInt = -100000000 := rfl
                  rw [Int32.lt_iff_toInt_lt, e_hs8, hng] at hs8
                  exact own_retI X0 hx hlk hret (hb hby d33_30) (by decide) (by decide) ⟨8, rfl, N0, e0, by decide, by decide, by show 10000000 ≤ X; omega, by show X < 100000000; omega⟩
                · refine own_go (fun _ q => XS.icmpYes X0.here hx rfl (pc0 := 24) (pc' := 31) rfl (hb hby d33_24) rfl (flt hs8).2.2.2 (by decide) (by decide) q) ?_
                  show OG (s₁.setTop (mkF m 31 #[vI (-x), vI (0 : Int32), vI (-100000000 : Int32), vI (8 : Int32)] []))
                  refine own_go (fun _ q => XS.bipush X0.here hx rfl (hb hby d33_31) (XS.iloadN X0.here hx rfl (hb hby d33_33) rfl (XS.imul X0.here hx rfl (hb hby d33_34) rfl (XS.istoreN X0.here hx rfl (hb hby d33_35) rfl (l' := #[vI (-x), vI (0 : Int32), vI ((10 : Int32) * (-100000000 : Int32)), vI (8 : Int32)]) rfl q)))) ?_
                  show OG (s₁.setTop (mkF m 36 #[vI (-x), vI (0 : Int32), vI ((10 : Int32) * (-100000000 : Int32)), vI (8 : Int32)] []))
                  show OG (s₁.setTop (mkF m 36 #[vI (-x), vI (0 : Int32), vI (-1000000000 : Int32), vI (8 : Int32)] []))
                  refine own_go (fun _ q => XS.iinc X0.here hx rfl (hb hby d33_36) rfl (l' := #[vI (-x), vI (0 : Int32), vI (-1000000000 : Int32), vI ((8 : Int32) + (1 : Int32))]) rfl q) ?_
                  show OG (s₁.setTop (mkF m 39 #[vI (-x), vI (0 : Int32), vI (-1000000000 : Int32), vI ((8 : Int32) + (1 : Int32))] []))
                  show OG (s₁.setTop (mkF m 39 #[vI (-x), vI (0 : Int32), vI (-1000000000 : Int32), vI (9 : Int32)] []))
                  refine own_go (fun _ q => XS.goto X0.here hx rfl (pc0 := 39) (pc' := 16) rfl (hb hby d33_39) (by decide) (by decide) (XS.iloadN X0.here hx rfl (hb hby d33_16) rfl (XS.bipush X0.here hx rfl (hb hby d33_17) q))) ?_
                  show OG (s₁.setTop (mkF m 19 _ [(.int (10 : Int32)), (.int (9 : Int32))]))
                  refine own_go (fun _ q => XS.icmpNo X0.here hx rfl (hb hby d33_19) rfl (tlt (by decide : (9 : Int32) < (10 : Int32))).2.1 q) ?_
                  show OG (s₁.setTop (mkF m 22 #[vI (-x), vI (0 : Int32), vI (-1000000000 : Int32), vI (9 : Int32)] []))
                  refine own_go (fun _ q => XS.iloadN X0.here hx rfl (hb hby d33_22) rfl (XS.iloadN X0.here hx rfl (hb hby d33_23) rfl q)) ?_
                  show OG (s₁.setTop (mkF m 24 _ [(.int (-1000000000 : Int32)), (.int (-x))]))
                  by_cases hs9 : (-1000000000 : Int32) < (-x)
                  · refine own_go (fun _ q => XS.icmpNo X0.here hx rfl (hb hby d33_24) rfl (tlt hs9).2.2.2 q) ?_
                    show OG (s₁.setTop (mkF m 27 #[vI (-x), vI (0 : Int32), vI (-1000000000 : Int32), vI (9 : Int32)] []))
                    refine own_go (fun _ q => XS.iloadN X0.here hx rfl (hb hby d33_27) rfl (XS.iloadN X0.here hx rfl (hb hby d33_28) rfl (XS.iadd X0.here hx rfl (hb hby d33_29) rfl q))) ?_
                    show OG (s₁.setTop (mkF m 30 _ [(.int ((9 : Int32) + (0 : Int32)))]))
                    show OG (s₁.setTop (mkF m 30 #[vI (-x), vI (0 : Int32), vI (-1000000000 : Int32), vI (9 : Int32)] [(.int (9 : Int32))]))
                    have e_hs8 : (-100000000 : Int32).toInt = -100000000 := rfl
                    rw [Int32.lt_iff_toInt_lt, e_hs8, hng] at hs8
                    have e_hs9 : (-1000000000 : Int32).toInt = -1000000000 := rfl
                    rw [Int32.lt_iff_toInt_lt, e_hs9, hng] at hs9
                    exact own_retI X0 hx hlk hret (hb hby d33_30) (by decide) (by decide) ⟨9, rfl, N0, e0, by decide, by decide, by show 100000000 ≤ X; omega, by show X < 1000000000; omega⟩
                  · refine own_go (fun _ q => XS.icmpYes X0.here hx rfl (pc0 := 24) (pc' := 31) rfl (hb hby d33_24) rfl (flt hs9).2.2.2 (by decide) (by decide) q) ?_
                    show OG (s₁.setTop (mkF m 31 #[vI (-x), vI (0 : Int32), vI (-1000000000 : Int32), vI (9 : Int32)] []))
                    refine own_go (fun _ q => XS.bipush X0.here hx rfl (hb hby d33_31) (XS.iloadN X0.here hx rfl (hb hby d33_33) rfl (XS.imul X0.here hx rfl (hb hby d33_34) rfl (XS.istoreN X0.here hx rfl (hb hby d33_35) rfl (l' := #[vI (-x), vI (0 : Int32), vI ((10 : Int32) * (-1000000000 : Int32)), vI (9 : Int32)]) rfl q)))) ?_
                    show OG (s₁.setTop (mkF m 36 #[vI (-x), vI (0 : Int32), vI ((10 : Int32) * (-1000000000 : Int32)), vI (9 : Int32)] []))
                    show OG (s₁.setTop (mkF m 36 #[vI (-x), vI (0 : Int32), vI (-1410065408 : Int32), vI (9 : Int32)] []))
                    refine own_go (fun _ q => XS.iinc X0.here hx rfl (hb hby d33_36) rfl (l' := #[vI (-x), vI (0 : Int32), vI (-1410065408 : Int32), vI ((9 : Int32) + (1 : Int32))]) rfl q) ?_
                    show OG (s₁.setTop (mkF m 39 #[vI (-x), vI (0 : Int32), vI (-1410065408 : Int32), vI ((9 : Int32) + (1 : Int32))] []))
                    show OG (s₁.setTop (mkF m 39 #[vI (-x), vI (0 : Int32), vI (-1410065408 : Int32), vI (10 : Int32)] []))
                    refine own_go (fun _ q => XS.goto X0.here hx rfl (pc0 := 39) (pc' := 16) rfl (hb hby d33_39) (by decide) (by decide) (XS.iloadN X0.here hx rfl (hb hby d33_16) rfl (XS.bipush X0.here hx rfl (hb hby d33_17) q))) ?_
                    show OG (s₁.setTop (mkF m 19 _ [(.int (10 : Int32)), (.int (10 : Int32))]))
                    refine own_go (fun _ q => XS.icmpYes X0.here hx rfl (pc0 := 19) (pc' := 42) rfl (hb hby d33_19) rfl (flt (by decide : ¬ ((10 : Int32) < (10 : Int32)))).2.1 (by decide) (by decide) q) ?_
                    show OG (s₁.setTop (mkF m 42 #[vI (-x), vI (0 : Int32), vI (-1410065408 : Int32), vI (10 : Int32)] []))
                    refine own_go (fun _ q => XS.bipush X0.here hx rfl (hb hby d33_42) (XS.iloadN X0.here hx rfl (hb hby d33_44) rfl (XS.iadd X0.here hx rfl (hb hby d33_45) rfl q))) ?_
                    show OG (s₁.setTop (mkF m 46 _ [(.int ((10 : Int32) + (0 : Int32)))]))
                    show OG (s₁.setTop (mkF m 46 #[vI (-x), vI (0 : Int32), vI (-1410065408 : Int32), vI (10 : Int32)] [(.int (10 : Int32))]))
                    have e_hs9 : (-1000000000 : Int32).toInt = -1000000000 := rfl
                    rw [Int32.lt_iff_toInt_lt, e_hs9, hng] at hs9
                    exact own_retI X0 hx hlk hret (hb hby d33_46) (by decide) (by decide) ⟨10, rfl, N0, e0, by decide, by decide, by show 1000000000 ≤ X; omega, by show X < 10000000000; omega⟩
abbrev C34 := jdk_33_method_12_code
theorem d34_0 : decode C34 0 = .ok (.iload_n 1, 1) := by decide +kernel
theorem d34_1 : decode C34 1 = .ok (.istore 5, 2) := by decide +kernel
theorem d34_3 : decode C34 3 = .ok (.iload_n 0, 1) := by decide +kernel
theorem d34_4 : decode C34 4 = .ok (.ifCond .ge 7, 3) := by decide +kernel
theorem d34_11 : decode C34 11 = .ok (.iconst 0, 1) := by decide +kernel
theorem d34_12 : decode C34 12 = .ok (.istore 6, 2) := by decide +kernel
theorem d34_14 : decode C34 14 = .ok (.iload 6, 2) := by decide +kernel
theorem d34_16 : decode C34 16 = .ok (.ifCond .ne 6, 3) := by decide +kernel
theorem d34_19 : decode C34 19 = .ok (.iload_n 0, 1) := by decide +kernel
theorem d34_20 : decode C34 20 = .ok (.ineg, 1) := by decide +kernel
theorem d34_21 : decode C34 21 = .ok (.istore_n 0, 1) := by decide +kernel
theorem d34_22 : decode C34 22 = .ok (.iload_n 0, 1) := by decide +kernel
theorem d34_23 : decode C34 23 = .ok (.bipush (-100), 2) := by decide +kernel
theorem d34_25 : decode C34 25 = .ok (.if_icmp .gt 47, 3) := by decide +kernel
theorem d34_28 : decode C34 28 = .ok (.iload_n 0, 1) := by decide +kernel
theorem d34_29 : decode C34 29 = .ok (.bipush 100, 2) := by decide +kernel
theorem d34_31 : decode C34 31 = .ok (.idiv, 1) := by decide +kernel
theorem d34_32 : decode C34 32 = .ok (.istore_n 3, 1) := by decide +kernel
theorem d34_33 : decode C34 33 = .ok (.iload_n 3, 1) := by decide +kernel
theorem d34_34 : decode C34 34 = .ok (.bipush 100, 2) := by decide +kernel
theorem d34_36 : decode C34 36 = .ok (.imul, 1) := by decide +kernel
theorem d34_37 : decode C34 37 = .ok (.iload_n 0, 1) := by decide +kernel
theorem d34_38 : decode C34 38 = .ok (.isub, 1) := by decide +kernel
theorem d34_39 : decode C34 39 = .ok (.istore 4, 2) := by decide +kernel
theorem d34_41 : decode C34 41 = .ok (.iload_n 3, 1) := by decide +kernel
theorem d34_42 : decode C34 42 = .ok (.istore_n 0, 1) := by decide +kernel
theorem d34_43 : decode C34 43 = .ok (.aload_n 2, 1) := by decide +kernel
theorem d34_44 : decode C34 44 = .ok (.iinc 5 (-1), 3) := by decide +kernel
theorem d34_47 : decode C34 47 = .ok (.iload 5, 2) := by decide +kernel
theorem d34_49 : decode C34 49 = .ok (.getstatic 83, 3) := by decide +kernel
theorem d34_52 : decode C34 52 = .ok (.iload 4, 2) := by decide +kernel
theorem d34_54 : decode C34 54 = .ok (.baload, 1) := by decide +kernel
theorem d34_55 : decode C34 55 = .ok (.bastore, 1) := by decide +kernel
theorem d34_56 : decode C34 56 = .ok (.aload_n 2, 1) := by decide +kernel
theorem d34_57 : decode C34 57 = .ok (.iinc 5 (-1), 3) := by decide +kernel
theorem d34_60 : decode C34 60 = .ok (.iload 5, 2) := by decide +kernel
theorem d34_62 : decode C34 62 = .ok (.getstatic 87, 3) := by decide +kernel
theorem d34_65 : decode C34 65 = .ok (.iload 4, 2) := by decide +kernel
theorem d34_67 : decode C34 67 = .ok (.baload, 1) := by decide +kernel
theorem d34_68 : decode C34 68 = .ok (.bastore, 1) := by decide +kernel
theorem d34_69 : decode C34 69 = .ok (.goto (-47), 3) := by decide +kernel
theorem d34_72 : decode C34 72 = .ok (.aload_n 2, 1) := by decide +kernel
theorem d34_73 : decode C34 73 = .ok (.iinc 5 (-1), 3) := by decide +kernel
theorem d34_76 : decode C34 76 = .ok (.iload 5, 2) := by decide +kernel
theorem d34_78 : decode C34 78 = .ok (.getstatic 83, 3) := by decide +kernel
theorem d34_81 : decode C34 81 = .ok (.iload_n 0, 1) := by decide +kernel
theorem d34_82 : decode C34 82 = .ok (.ineg, 1) := by decide +kernel
theorem d34_83 : decode C34 83 = .ok (.baload, 1) := by decide +kernel
theorem d34_84 : decode C34 84 = .ok (.bastore, 1) := by decide +kernel
theorem d34_85 : decode C34 85 = .ok (.iload_n 0, 1) := by decide +kernel
theorem d34_86 : decode C34 86 = .ok (.bipush (-9), 2) := by decide +kernel
theorem d34_88 : decode C34 88 = .ok (.if_icmp .ge 16, 3) := by decide +kernel
theorem d34_91 : decode C34 91 = .ok (.aload_n 2, 1) := by decide +kernel
theorem d34_92 : decode C34 92 = .ok (.iinc 5 (-1), 3) := by decide +kernel
theorem d34_95 : decode C34 95 = .ok (.iload 5, 2) := by decide +kernel
theorem d34_97 : decode C34 97 = .ok (.getstatic 87, 3) := by decide +kernel
theorem d34_100 : decode C34 100 = .ok (.iload_n 0, 1) := by decide +kernel
theorem d34_101 : decode C34 101 = .ok (.ineg, 1) := by decide +kernel
theorem d34_102 : decode C34 102 = .ok (.baload, 1) := by decide +kernel
theorem d34_103 : decode C34 103 = .ok (.bastore, 1) := by decide +kernel
theorem d34_104 : decode C34 104 = .ok (.iload 6, 2) := by decide +kernel
theorem d34_106 : decode C34 106 = .ok (.ifCond .eq 12, 3) := by decide +kernel
theorem d34_118 : decode C34 118 = .ok (.iload 5, 2) := by decide +kernel
theorem d34_120 : decode C34 120 = .ok (.ireturn, 1) := by decide +kernel
def Q34 (Z : State) (x : Int32) (X : Nat) (nd : Nat) (buf : Addr) (d1 : Addr) (d2 : Addr) (zc : Int32) (h0 : Heap) (n0 : Nat) (v : Option Value) (h : Heap) (L : List Loc) : Prop := ∃ r : Int32, v = some (.int r) ∧ Fr n0 L ∧ Keep h0 h [buf] ∧ own_By Z h buf .byte nd (fun j => if 0 ≤ j ∧ j < nd then some (48 + X / 10 ^ (nd - 1 - j) % 10) else none)
theorem ef_34 (m : MethodId) (x0 : Int32) (x1 : Int32) (x2 : Addr) : entryFrame m #[(.int x0), (.int x1), (.ref x2)] 7 = mkF m 0 #[vI x0, vI x1, vR x2, .unset, .unset, .unset, .unset] [] := by first | (simp [entryFrame, mkF, argsToLocals, Value.category]; done) | rfl
set_option maxRecDepth 65536 in
set_option maxHeartbeats 40000000 in
theorem rm34 (l : Launch) (Z : State) (a0 : Array Value) (hw : ∀ d ∈ tables_1, d.before a0 Z = true) (ws : List Jvm.Cond) (x : Int32) (X : Nat) (nd : Nat) (buf : Addr) (d1 : Addr) (d2 : Addr) (zc : Int32) (h0 : Heap) (n0 : Nat) (Z0 : n0 ≤ h0.size) (SC : Sta Z Z.heap "java/lang/String" "COMPACT_STRINGS" "Z" (.int zc)) (hz0 : ¬ zc = 0) (Od : Old Z n0 h0) (D1 : Sta Z Z.heap "java/lang/Integer" "DigitOnes" "[B" (.ref d1)) (B1 : own_By Z Z.heap d1 .byte 100 (fun j => some (48 + j % 10))) (D2 : Sta Z Z.heap "java/lang/Integer" "DigitTens" "[B" (.ref d2)) (B2 : own_By Z Z.heap d2 .byte 100 (fun j => some (48 + j / 10))) (hX : x.toInt = (X : Int)) (hX1 : 1 ≤ X) (hd : own_dig nd X) (Bf : own_By Z h0 buf .byte nd (fun _ => none)) (gbf : n0 ≤ buf) :
    own_Met l Z (⟨"java/lang/Integer", "getChars", "(II[B)I"⟩ : MethodName) jdk_33_method_12_code 7 (some .int) ({ frames := 0, cells := 0, slots := 0, locals := 0 } : Room) ws #[(.int x), (.int (Int32.ofNat nd)), (.ref buf)] h0 (Q34 Z x X nd buf d1 d2 zc h0 n0) := by
  refine own_enter (plainFor_of_name (by first | (simp [plainName, overriddenIn]; done) | decide +kernel)) ?_
  intro p e s m below meth c s₁ hx hby hml hown hnm hlk hret hZ X0 e0
  have N0 := Fr.nil n0
  refine own_go (fun _ q => castTop (ef_34 m x (Int32.ofNat nd) buf) q) ?_
  show OG (s₁.setTop (mkF m 0 #[vI x, vI (Int32.ofNat nd), vR buf, .unset, .unset, .unset, .unset] []))
  have hng := own_neg32 (x := x) (by omega)
  have hXb : X < 2147483648 := by have := rng32 x; omega
  have hdg := hd
  obtain ⟨hd1, hd2, hd3, hd4⟩ := hd
  have hndi := own_ofNatI (k := nd) (by omega)
  refine own_go (fun _ q => XS.iloadN X0.here hx rfl (hb hby d34_0) rfl (XS.istore X0.here hx rfl (hb hby d34_1) rfl (l' := #[vI x, vI (Int32.ofNat nd), vR buf, .unset, .unset, vI (Int32.ofNat nd), .unset]) rfl (XS.iloadN X0.here hx rfl (hb hby d34_3) rfl q))) ?_
  show OG (s₁.setTop (mkF m 4 #[vI x, vI (Int32.ofNat nd), vR buf, .unset, .unset, vI (Int32.ofNat nd), .unset] [(.int x)]))
  refine own_go (fun _ q => XS.ifYes X0.here hx rfl (pc0 := 4) (pc' := 11) rfl (hb hby d34_4) rfl ((if0 _ _).trans (flt (own_nlt (x := x) (y := 0) (by have ez : (0 : Int32).toInt = 0 := rfl; omega))).2.1) (by decide) (by decide) q) ?_
  show OG (s₁.setTop (mkF m 11 #[vI x, vI (Int32.ofNat nd), vR buf, .unset, .unset, vI (Int32.ofNat nd), .unset] []))
  refine own_go (fun _ q => XS.iconst X0.here hx rfl (hb hby d34_11) (XS.istore X0.here hx rfl (hb hby d34_12) rfl (l' := #[vI x, vI (Int32.ofNat nd), vR buf, .unset, .unset, vI (Int32.ofNat nd), vI (0 : Int32)]) rfl (XS.iload X0.here hx rfl (hb hby d34_14) rfl q))) ?_
  show OG (s₁.setTop (mkF m 16 #[vI x, vI (Int32.ofNat nd), vR buf, .unset, .unset, vI (Int32.ofNat nd), vI (0 : Int32)] [(.int (0 : Int32))]))
  refine own_go (fun _ q => XS.ifNo X0.here hx rfl (hb hby d34_16) rfl ((if0 _ _).trans (teq (by decide : (0 : Int32) = (0 : Int32))).2) q) ?_
  show OG (s₁.setTop (mkF m 19 #[vI x, vI (Int32.ofNat nd), vR buf, .unset, .unset, vI (Int32.ofNat nd), vI (0 : Int32)] []))
  refine own_go (fun _ q => XS.iloadN X0.here hx rfl (hb hby d34_19) rfl (XS.ineg X0.here hx rfl (hb hby d34_20) rfl (XS.istoreN X0.here hx rfl (hb hby d34_21) rfl (l' := #[vI (-x), vI (Int32.ofNat nd), vR buf, .unset, .unset, vI (Int32.ofNat nd), vI (0 : Int32)]) rfl q))) ?_
  show OG (s₁.setTop (mkF m 22 #[vI (-x), vI (Int32.ofNat nd), vR buf, .unset, .unset, vI (Int32.ofNat nd), vI (0 : Int32)] []))
  have loop : ∀ (f pos y : Nat) (zi zp : Int32) (sl3 sl4 : Slot) (T : State) (hh : Heap) (locs : List Loc), pos ≤ f → pos ≤ nd → own_dig pos y → y = X / 10 ^ (nd - pos) → zi.toInt = -(y : Int) → zp.toInt = (pos : Int) → (sl3 = .unset ∨ ∃ y, sl3 = .val (.int y)) → (sl4 = .unset ∨ ∃ y, sl4 = .val (.int y)) → Stand p l e ({ frames := 0, cells := 0, slots := 0, locals := 0 } : Room) s m #[(.int x), (.int (Int32.ofNat nd)), (.ref buf)] below meth c T locs 0 0 → T.heap = hh → Fr n0 locs → n0 ≤ hh.size → Old Z n0 hh → Keep h0 hh [buf] → own_By Z hh buf .byte nd (fun j => if pos ≤ j ∧ j < nd then some (48 + X / 10 ^ (nd - 1 - j) % 10) else none) → own_Go p e below (s, false) (Q34 Z x X nd buf d1 d2 zc h0 n0) 0 0 (T.setTop (mkF m 22 #[vI zi, vI (Int32.ofNat nd), vR buf, sl3, sl4, vI zp, vI (0 : Int32)] [])) := by
    intro f
    induction f with
    | zero => intro pos y zi zp sl3 sl4 T hh locs hf _ hdp; exact absurd hdp.1 (by omega)
    | succ f ih =>
      intro pos y zi zp sl3 sl4 T hh locs hf hpn hdp hy hzi hzp hs3 hs4 X_ eh Nl Zh Oh Kh Ah
      show OG (T.setTop (mkF m 22 #[vI zi, vI (Int32.ofNat nd), vR buf, sl3, sl4, vI zp, vI (0 : Int32)] []))
      obtain ⟨p1, p2, p3, p4⟩ := hdp
      have e100 : (-100 : Int32).toInt = -100 := rfl
      have hyb : y < 2147483648 := by rw [hy]; exact Nat.lt_of_le_of_lt (Nat.div_le_self _ _) hXb
      have hzn := own_negz hzi hyb
      refine own_go (fun _ q => XS.iloadN X_.here hx rfl (hb hby d34_22) rfl (XS.bipush X_.here hx rfl (hb hby d34_23) q)) ?_
      show OG (T.setTop (mkF m 25 _ [(.int (-100 : Int32)), (.int zi)]))
      by_cases hl : (-100 : Int32) < zi
      · refine own_go (fun _ q => XS.icmpYes X_.here hx rfl (pc0 := 25) (pc' := 72) rfl (hb hby d34_25) rfl (tlt hl).2.2.1 (by decide) (by decide) q) ?_
        show OG (T.setTop (mkF m 72 #[vI zi, vI (Int32.ofNat nd), vR buf, sl3, sl4, vI zp, vI (0 : Int32)] []))
        have hl' := own_ltI hl
        refine own_go (fun _ q => XS.aloadN X_.here hx rfl (hb hby d34_72) rfl rfl (XS.iinc X_.here hx rfl (hb hby d34_73) rfl (l' := #[vI zi, vI (Int32.ofNat nd), vR buf, sl3, sl4, vI (zp + (-1 : Int32)), vI (0 : Int32)]) rfl (XS.iload X_.here hx rfl (hb hby d34_76) rfl q))) ?_
        show OG (T.setTop (mkF m 78 #[vI zi, vI (Int32.ofNat nd), vR buf, sl3, sl4, vI (zp + (-1 : Int32)), vI (0 : Int32)] [(.int (zp + (-1 : Int32))), (.ref buf)]))
        obtain ⟨T1, X1, e1, st1⟩ := getS2 X_ hx hZ hown (host := "") (Or.inl (wd hw 188 rfl)) Via.refl eh (D1.ext Oh.2) (g := (mkF m 78 #[vI zi, vI (Int32.ofNat nd), vR buf, sl3, sl4, vI (zp + (-1 : Int32)), vI (0 : Int32)] [(.int (zp + (-1 : Int32))), (.ref buf)])) rfl (hb hby d34_78)
        refine own_go st1 ?_
        show OG (T1.setTop (mkF m 81 _ [(.ref d1), (.int (zp + (-1 : Int32))), (.ref buf)]))
        refine own_go (fun _ q => XS.iloadN X1.here hx rfl (hb hby d34_81) rfl (XS.ineg X1.here hx rfl (hb hby d34_82) rfl q)) ?_
        show OG (T1.setTop (mkF m 83 _ [(.int (-zi)), (.ref d1), (.int (zp + (-1 : Int32))), (.ref buf)]))
        refine own_bload (i := y) (v := 48 + y % 10) X1 hx hZ e1 (B1.ext Oh.2) hzn (by omega) rfl (hb hby d34_83) rfl ?_
        show OG (T1.setTop (mkF m 84 #[vI zi, vI (Int32.ofNat nd), vR buf, sl3, sl4, vI (zp + (-1 : Int32)), vI (0 : Int32)] [(.int (Int32.ofNat (48 + y % 10))), (.int (zp + (-1 : Int32))), (.ref buf)]))
        refine own_bstore (i := (pos - 1)) (v := (48 + y % 10)) X1 hx hZ e1 Ah (by omega) rfl (own_dec hzp p1) (by omega) (hb hby d34_84) rfl ?_
        intro T2 h2 X2 e2 W2 A2
        have N2 := Fr.snoc X2 Nl gbf
        have Z2 : n0 ≤ h2.size := by rw [W2.size]; exact Zh
        show OG (T2.setTop (mkF m 85 _ []))
        refine own_go (fun _ q => XS.iloadN X2.here hx rfl (hb hby d34_85) rfl (XS.bipush X2.here hx rfl (hb hby d34_86) q)) ?_
        show OG (T2.setTop (mkF m 88 _ [(.int (-9 : Int32)), (.int zi)]))
        have e9 : (-9 : Int32).toInt = -9 := rfl
        by_cases h9 : zi < (-9 : Int32)
        · refine own_go (fun _ q => XS.icmpNo X2.here hx rfl (hb hby d34_88) rfl (tlt h9).2.1 q) ?_
          show OG (T2.setTop (mkF m 91 #[vI zi, vI (Int32.ofNat nd), vR buf, sl3, sl4, vI (zp + (-1 : Int32)), vI (0 : Int32)] []))
          have h9' := own_ltI h9
          have hp2 : 2 ≤ pos := own_dig2 p4 (by omega)
          refine own_go (fun _ q => XS.aloadN X2.here hx rfl (hb hby d34_91) rfl rfl (XS.iinc X2.here hx rfl (hb hby d34_92) rfl (l' := #[vI zi, vI (Int32.ofNat nd), vR buf, sl3, sl4, vI ((zp + (-1 : Int32)) + (-1 : Int32)), vI (0 : Int32)]) rfl (XS.iload X2.here hx rfl (hb hby d34_95) rfl q))) ?_
          show OG (T2.setTop (mkF m 97 #[vI zi, vI (Int32.ofNat nd), vR buf, sl3, sl4, vI ((zp + (-1 : Int32)) + (-1 : Int32)), vI (0 : Int32)] [(.int ((zp + (-1 : Int32)) + (-1 : Int32))), (.ref buf)]))
          have f3 := (Oh.wr W2 gbf)
          obtain ⟨T4, X4, e4, st4⟩ := getS2 X2 hx hZ hown (host := "") (Or.inl (wd hw 274 rfl)) Via.refl e2 (D2.ext f3.2) (g := (mkF m 97 #[vI zi, vI (Int32.ofNat nd), vR buf, sl3, sl4, vI ((zp + (-1 : Int32)) + (-1 : Int32)), vI (0 : Int32)] [(.int ((zp + (-1 : Int32)) + (-1 : Int32))), (.ref buf)])) rfl (hb hby d34_97)
          refine own_go st4 ?_
          show OG (T4.setTop (mkF m 100 _ [(.ref d2), (.int ((zp + (-1 : Int32)) + (-1 : Int32))), (.ref buf)]))
          refine own_go (fun _ q => XS.iloadN X4.here hx rfl (hb hby d34_100) rfl (XS.ineg X4.here hx rfl (hb hby d34_101) rfl q)) ?_
          show OG (T4.setTop (mkF m 102 _ [(.int (-zi)), (.ref d2), (.int ((zp + (-1 : Int32)) + (-1 : Int32))), (.ref buf)]))
          refine own_bload (i := y) (v := 48 + y / 10) X4 hx hZ e4 (B2.ext f3.2) hzn (by omega) rfl (hb hby d34_102) rfl ?_
          show OG (T4.setTop (mkF m 103 #[vI zi, vI (Int32.ofNat nd), vR buf, sl3, sl4, vI ((zp + (-1 : Int32)) + (-1 : Int32)), vI (0 : Int32)] [(.int (Int32.ofNat (48 + y / 10))), (.int ((zp + (-1 : Int32)) + (-1 : Int32))), (.ref buf)]))
          refine own_bstore (i := (pos - 2)) (v := (48 + y / 10)) X4 hx hZ e4 A2 (by omega) rfl (own_dec2 hzp hp2) (by omega) (hb hby d34_103) rfl ?_
          intro T5 h5 X5 e5 W5 A5
          have N5 := Fr.snoc X5 N2 gbf
          have Z5 : n0 ≤ h5.size := by rw [W5.size]; exact Z2
          show OG (T5.setTop (mkF m 104 _ []))
          refine own_go (fun _ q => XS.iload X5.here hx rfl (hb hby d34_104) rfl q) ?_
          show OG (T5.setTop (mkF m 106 _ [(.int (0 : Int32))]))
          refine own_go (fun _ q => XS.ifYes X5.here hx rfl (pc0 := 106) (pc' := 118) rfl (hb hby d34_106) rfl ((if0 _ _).trans (teq (by decide : (0 : Int32) = (0 : Int32))).1) (by decide) (by decide) q) ?_
          show OG (T5.setTop (mkF m 118 #[vI zi, vI (Int32.ofNat nd), vR buf, sl3, sl4, vI ((zp + (-1 : Int32)) + (-1 : Int32)), vI (0 : Int32)] []))
          refine own_go (fun _ q => XS.iload X5.here hx rfl (hb hby d34_118) rfl q) ?_
          show OG (T5.setTop (mkF m 120 _ [(.int ((zp + (-1 : Int32)) + (-1 : Int32)))]))
          have Aq := A5.weak (g' := (fun j => if 0 ≤ j ∧ j < nd then some (48 + X / 10 ^ (nd - 1 - j) % 10) else none)) (own_gfin2 hpn hy p1 p3 p4 (by omega))
          have Kq : Keep h0 h5 [buf] := ((Kh.wr W2 (Or.inl (List.mem_singleton.mpr rfl))).wr W5 (Or.inl (List.mem_singleton.mpr rfl)))
          subst e5
          exact own_retI X5 hx hlk hret (hb hby d34_120) (by decide) (by decide) ⟨_, rfl, N5, Kq, Aq⟩
        · refine own_go (fun _ q => XS.icmpYes X2.here hx rfl (pc0 := 88) (pc' := 104) rfl (hb hby d34_88) rfl (flt h9).2.1 (by decide) (by decide) q) ?_
          show OG (T2.setTop (mkF m 104 #[vI zi, vI (Int32.ofNat nd), vR buf, sl3, sl4, vI (zp + (-1 : Int32)), vI (0 : Int32)] []))
          have h9' := own_nltI h9
          refine own_go (fun _ q => XS.iload X2.here hx rfl (hb hby d34_104) rfl q) ?_
          show OG (T2.setTop (mkF m 106 _ [(.int (0 : Int32))]))
          refine own_go (fun _ q => XS.ifYes X2.here hx rfl (pc0 := 106) (pc' := 118) rfl (hb hby d34_106) rfl ((if0 _ _).trans (teq (by decide : (0 : Int32) = (0 : Int32))).1) (by decide) (by decide) q) ?_
          show OG (T2.setTop (mkF m 118 #[vI zi, vI (Int32.ofNat nd), vR buf, sl3, sl4, vI (zp + (-1 : Int32)), vI (0 : Int32)] []))
          refine own_go (fun _ q => XS.iload X2.here hx rfl (hb hby d34_118) rfl q) ?_
          show OG (T2.setTop (mkF m 120 _ [(.int (zp + (-1 : Int32)))]))
          have Aq := A2.weak (g' := (fun j => if 0 ≤ j ∧ j < nd then some (48 + X / 10 ^ (nd - 1 - j) % 10) else none)) (own_gfin1 hpn hy p1 p3 p4 (by omega))
          have Kq : Keep h0 h2 [buf] := (Kh.wr W2 (Or.inl (List.mem_singleton.mpr rfl)))
          subst e2
          exact own_retI X2 hx hlk hret (hb hby d34_120) (by decide) (by decide) ⟨_, rfl, N2, Kq, Aq⟩
      · refine own_go (fun _ q => XS.icmpNo X_.here hx rfl (hb hby d34_25) rfl (flt hl).2.2.1 q) ?_
        show OG (T.setTop (mkF m 28 #[vI zi, vI (Int32.ofNat nd), vR buf, sl3, sl4, vI zp, vI (0 : Int32)] []))
        have hl' := own_nltI hl
        have hp3 : 3 ≤ pos := own_dig3 p4 (by omega)
        have hq := own_div100 hzi
        have hr := own_rem100 hzi (own_dig_lt p2 p4)
        refine own_go (fun _ q => XS.iloadN X_.here hx rfl (hb hby d34_28) rfl (XS.bipush X_.here hx rfl (hb hby d34_29) (XS.idiv X_.here hx rfl (hb hby d34_31) rfl (by decide) (XS.istoreN X_.here hx rfl (hb hby d34_32) rfl (l' := #[vI zi, vI (Int32.ofNat nd), vR buf, vI (zi / (100 : Int32)), sl4, vI zp, vI (0 : Int32)]) (by rcases hs3 with rfl | ⟨_, rfl⟩ <;> rfl) (XS.iloadN X_.here hx rfl (hb hby d34_33) rfl (XS.bipush X_.here hx rfl (hb hby d34_34) (XS.imul X_.here hx rfl (hb hby d34_36) rfl (XS.iloadN X_.here hx rfl (hb hby d34_37) rfl q)))))))) ?_
        show OG (T.setTop (mkF m 38 #[vI zi, vI (Int32.ofNat nd), vR buf, vI (zi / (100 : Int32)), sl4, vI zp, vI (0 : Int32)] [(.int zi), (.int ((zi / (100 : Int32)) * (100 : Int32)))]))
        refine own_go (fun _ q => XS.isub X_.here hx rfl (hb hby d34_38) rfl (XS.istore X_.here hx rfl (hb hby d34_39) rfl (l' := #[vI zi, vI (Int32.ofNat nd), vR buf, vI (zi / (100 : Int32)), vI (((zi / (100 : Int32)) * (100 : Int32)) - zi), vI zp, vI (0 : Int32)]) (by rcases hs4 with rfl | ⟨_, rfl⟩ <;> rfl) (XS.iloadN X_.here hx rfl (hb hby d34_41) rfl (XS.istoreN X_.here hx rfl (hb hby d34_42) rfl (l' := #[vI (zi / (100 : Int32)), vI (Int32.ofNat nd), vR buf, vI (zi / (100 : Int32)), vI (((zi / (100 : Int32)) * (100 : Int32)) - zi), vI zp, vI (0 : Int32)]) rfl (XS.aloadN X_.here hx rfl (hb hby d34_43) rfl rfl (XS.iinc X_.here hx rfl (hb hby d34_44) rfl (l' := #[vI (zi / (100 : Int32)), vI (Int32.ofNat nd), vR buf, vI (zi / (100 : Int32)), vI (((zi / (100 : Int32)) * (100 : Int32)) - zi), vI (zp + (-1 : Int32)), vI (0 : Int32)]) rfl (XS.iload X_.here hx rfl (hb hby d34_47) rfl q))))))) ?_
        show OG (T.setTop (mkF m 49 #[vI (zi / (100 : Int32)), vI (Int32.ofNat nd), vR buf, vI (zi / (100 : Int32)), vI (((zi / (100 : Int32)) * (100 : Int32)) - zi), vI (zp + (-1 : Int32)), vI (0 : Int32)] [(.int (zp + (-1 : Int32))), (.ref buf)]))
        obtain ⟨T6, X6, e6, st6⟩ := getS2 X_ hx hZ hown (host := "") (Or.inl (wd hw 188 rfl)) Via.refl eh (D1.ext Oh.2) (g := (mkF m 49 #[vI (zi / (100 : Int32)), vI (Int32.ofNat nd), vR buf, vI (zi / (100 : Int32)), vI (((zi / (100 : Int32)) * (100 : Int32)) - zi), vI (zp + (-1 : Int32)), vI (0 : Int32)] [(.int (zp + (-1 : Int32))), (.ref buf)])) rfl (hb hby d34_49)
        refine own_go st6 ?_
        show OG (T6.setTop (mkF m 52 _ [(.ref d1), (.int (zp + (-1 : Int32))), (.ref buf)]))
        refine own_go (fun _ q => XS.iload X6.here hx rfl (hb hby d34_52) rfl q) ?_
        show OG (T6.setTop (mkF m 54 _ [(.int (((zi / (100 : Int32)) * (100 : Int32)) - zi)), (.ref d1), (.int (zp + (-1 : Int32))), (.ref buf)]))
        refine own_bload (i := (y % 100)) (v := 48 + (y % 100) % 10) X6 hx hZ e6 (B1.ext Oh.2) hr (by omega) rfl (hb hby d34_54) rfl ?_
        show OG (T6.setTop (mkF m 55 #[vI (zi / (100 : Int32)), vI (Int32.ofNat nd), vR buf, vI (zi / (100 : Int32)), vI (((zi / (100 : Int32)) * (100 : Int32)) - zi), vI (zp + (-1 : Int32)), vI (0 : Int32)] [(.int (Int32.ofNat (48 + (y % 100) % 10))), (.int (zp + (-1 : Int32))), (.ref buf)]))
        refine own_bstore (i := (pos - 1)) (v := (48 + (y % 100) % 10)) X6 hx hZ e6 Ah (by omega) rfl (own_dec hzp p1) (by omega) (hb hby d34_55) rfl ?_
        intro T7 h7 X7 e7 W7 A7
        have N7 := Fr.snoc X7 Nl gbf
        have Z7 : n0 ≤ h7.size := by rw [W7.size]; exact Zh
        show OG (T7.setTop (mkF m 56 _ []))
        refine own_go (fun _ q => XS.aloadN X7.here hx rfl (hb hby d34_56) rfl rfl (XS.iinc X7.here hx rfl (hb hby d34_57) rfl (l' := #[vI (zi / (100 : Int32)), vI (Int32.ofNat nd), vR buf, vI (zi / (100 : Int32)), vI (((zi / (100 : Int32)) * (100 : Int32)) - zi), vI ((zp + (-1 : Int32)) + (-1 : Int32)), vI (0 : Int32)]) rfl (XS.iload X7.here hx rfl (hb hby d34_60) rfl q))) ?_
        show OG (T7.setTop (mkF m 62 #[vI (zi / (100 : Int32)), vI (Int32.ofNat nd), vR buf, vI (zi / (100 : Int32)), vI (((zi / (100 : Int32)) * (100 : Int32)) - zi), vI ((zp + (-1 : Int32)) + (-1 : Int32)), vI (0 : Int32)] [(.int ((zp + (-1 : Int32)) + (-1 : Int32))), (.ref buf)]))
        have f8 := (Oh.wr W7 gbf)
        obtain ⟨T9, X9, e9, st9⟩ := getS2 X7 hx hZ hown (host := "") (Or.inl (wd hw 274 rfl)) Via.refl e7 (D2.ext f8.2) (g := (mkF m 62 #[vI (zi / (100 : Int32)), vI (Int32.ofNat nd), vR buf, vI (zi / (100 : Int32)), vI (((zi / (100 : Int32)) * (100 : Int32)) - zi), vI ((zp + (-1 : Int32)) + (-1 : Int32)), vI (0 : Int32)] [(.int ((zp + (-1 : Int32)) + (-1 : Int32))), (.ref buf)])) rfl (hb hby d34_62)
        refine own_go st9 ?_
        show OG (T9.setTop (mkF m 65 _ [(.ref d2), (.int ((zp + (-1 : Int32)) + (-1 : Int32))), (.ref buf)]))
        refine own_go (fun _ q => XS.iload X9.here hx rfl (hb hby d34_65) rfl q) ?_
        show OG (T9.setTop (mkF m 67 _ [(.int (((zi / (100 : Int32)) * (100 : Int32)) - zi)), (.ref d2), (.int ((zp + (-1 : Int32)) + (-1 : Int32))), (.ref buf)]))
        refine own_bload (i := (y % 100)) (v := 48 + (y % 100) / 10) X9 hx hZ e9 (B2.ext f8.2) hr (by omega) rfl (hb hby d34_67) rfl ?_
        show OG (T9.setTop (mkF m 68 #[vI (zi / (100 : Int32)), vI (Int32.ofNat nd), vR buf, vI (zi / (100 : Int32)), vI (((zi / (100 : Int32)) * (100 : Int32)) - zi), vI ((zp + (-1 : Int32)) + (-1 : Int32)), vI (0 : Int32)] [(.int (Int32.ofNat (48 + (y % 100) / 10))), (.int ((zp + (-1 : Int32)) + (-1 : Int32))), (.ref buf)]))
        refine own_bstore (i := (pos - 2)) (v := (48 + (y % 100) / 10)) X9 hx hZ e9 A7 (by omega) rfl (own_dec2 hzp (by omega)) (by omega) (hb hby d34_68) rfl ?_
        intro T10 h10 X10 e10 W10 A10
        have N10 := Fr.snoc X10 N7 gbf
        have Z10 : n0 ≤ h10.size := by rw [W10.size]; exact Z7
        show OG (T10.setTop (mkF m 69 _ []))
        refine own_go (fun _ q => XS.goto X10.here hx rfl (pc0 := 69) (pc' := 22) rfl (hb hby d34_69) (by decide) (by decide) q) ?_
        show OG (T10.setTop (mkF m 22 _ []))
        have Aq := A10.weak (g' := (fun j => if (pos - 2) ≤ j ∧ j < nd then some (48 + X / 10 ^ (nd - 1 - j) % 10) else none)) (own_gstep hpn hy hp3)
        have Kq : Keep h0 h10 [buf] := ((Kh.wr W7 (Or.inl (List.mem_singleton.mpr rfl))).wr W10 (Or.inl (List.mem_singleton.mpr rfl)))
        have f11 := (f8.wr W10 gbf)
        exact ih (pos - 2) (y / 100) _ _ _ _ _ _ _ (by omega) (by omega) (own_dig100 p2 p3 p4 hp3) (own_ydiv hpn hy (by omega)) hq (own_dec2 hzp (by omega)) (Or.inr ⟨_, rfl⟩) (Or.inr ⟨_, rfl⟩) X10 e10 N10 Z10 f11 Kq Aq
  have Bz := Bf.weak (g' := (fun j => if nd ≤ j ∧ j < nd then some (48 + X / 10 ^ (nd - 1 - j) % 10) else none)) own_gz
  exact loop nd nd X _ _ _ _ _ _ _ (Nat.le_refl _) (Nat.le_refl _) hdg (by rw [Nat.sub_self, Nat.pow_zero, Nat.div_one]) (by rw [hng, hX]) hndi (Or.inl rfl) (Or.inl rfl) X0 e0 N0 Z0 Od (Keep.refl h0 [buf]) Bz
abbrev C35 := jdk_42_method_151_code
theorem d35_0 : decode C35 0 = .ok (.aload_n 0, 1) := by decide +kernel
theorem d35_1 : decode C35 1 = .ok (.invokespecial 1, 3) := by decide +kernel
theorem d35_4 : decode C35 4 = .ok (.aload_n 0, 1) := by decide +kernel
theorem d35_5 : decode C35 5 = .ok (.aload_n 1, 1) := by decide +kernel
theorem d35_6 : decode C35 6 = .ok (.putfield 9, 3) := by decide +kernel
theorem d35_9 : decode C35 9 = .ok (.aload_n 0, 1) := by decide +kernel
theorem d35_10 : decode C35 10 = .ok (.iload_n 2, 1) := by decide +kernel
theorem d35_11 : decode C35 11 = .ok (.putfield 15, 3) := by decide +kernel
theorem d35_14 : decode C35 14 = .ok (.return_, 1) := by decide +kernel
def Q35 (Z : State) (s_ : Addr) (r : Addr) (h0 : Heap) (n0 : Nat) (v : Option Value) (h : Heap) (L : List Loc) : Prop := v = none ∧ Fr n0 L ∧ Keep h0 h [s_] ∧ Exa Z h s_ "java/lang/String" ∧ Fld Z h s_ "java/lang/String" "coder" "B" (.int 0) ∧ Fld Z h s_ "java/lang/String" "value" "[B" (.ref r)
theorem ef_35 (m : MethodId) (x0 : Addr) (x1 : Addr) (x2 : Int32) : entryFrame m #[(.ref x0), (.ref x1), (.int x2)] 3 = mkF m 0 #[vR x0, vR x1, vI x2] [] := by first | (simp [entryFrame, mkF, argsToLocals, Value.category]; done) | rfl
set_option maxRecDepth 65536 in
set_option maxHeartbeats 40000000 in
theorem rm35 (l : Launch) (Z : State) (a0 : Array Value) (hw : ∀ d ∈ tables_1, d.before a0 Z = true) (ws : List Jvm.Cond) (s_ : Addr) (r : Addr) (h0 : Heap) (n0 : Nat) (Z0 : n0 ≤ h0.size) (Es : Exa Z h0 s_ "java/lang/String") (Fs1 : Fld Z h0 s_ "java/lang/String" "coder" "B" (.int 0)) (Fs2 : Fld Z h0 s_ "java/lang/String" "value" "[B" .null) (gs_ : n0 ≤ s_) :
    own_Met l Z (⟨"java/lang/String", "<init>", "([BB)V"⟩ : MethodName) jdk_42_method_151_code 3 none ({ frames := 1, cells := 0, slots := 0, locals := 12 } : Room) ws #[(.ref s_), (.ref r), (.int (0 : Int32))] h0 (Q35 Z s_ r h0 n0) := by
  refine own_enter (plainFor_of_name (by first | (simp [plainName, overriddenIn]; done) | decide +kernel)) ?_
  intro p e s m below meth c s₁ hx hby hml hown hnm hlk hret hZ X0 e0
  have N0 := Fr.nil n0
  refine own_go (fun _ q => castTop (ef_35 m s_ r (0 : Int32)) q) ?_
  show OG (s₁.setTop (mkF m 0 #[vR s_, vR r, vI (0 : Int32)] []))
  refine own_go (fun _ q => XS.aloadN X0.here hx rfl (hb hby d35_0) rfl rfl q) ?_
  show OG (s₁.setTop (mkF m 1 _ [(.ref s_)]))
  obtain ⟨T1, X1, e1, st1⟩ := initO X0 hx hZ hown (wd hw 19 rfl) (wd hw 20 rfl) (wd hw 21 rfl) e0 (g := (mkF m 1 #[vR s_, vR r, vI (0 : Int32)] [(.ref s_)])) rfl (by rw [hml]; rfl) rfl (hb hby d35_1) (by decide) (W := 0) (by show 2 * 0 + _ ≤ _; exact Nat.le_of_eq rfl) (by decide)
  refine own_go st1 ?_
  show OG (T1.setTop (mkF m 4 _ []))
  refine own_go (fun _ q => XS.aloadN X1.here hx rfl (hb hby d35_4) rfl rfl (XS.aloadN X1.here hx rfl (hb hby d35_5) rfl rfl q)) ?_
  show OG (T1.setTop (mkF m 6 #[vR s_, vR r, vI (0 : Int32)] [(.ref r), (.ref s_)]))
  obtain ⟨T2, h2, X2, e2, W2, st2⟩ := putF X1 hx hZ hown (host := "") (Or.inl (wd hw 36 rfl)) Via.refl e1 Fs2 Es (Or.inr ⟨(wd hw 37 rfl), rfl, hnm⟩) (wd hw 9 rfl) (ty := (.array .byte)) (by decide) rfl rfl (g := (mkF m 6 #[vR s_, vR r, vI (0 : Int32)] [(.ref r), (.ref s_)])) rfl rfl (hb hby d35_6)
  have N2 := Fr.snoc X2 N0 gs_
  have Fw2 := Fs2.same W2
  have Z2 : n0 ≤ h2.size := by rw [W2.size]; exact Z0
  refine own_go st2 ?_
  show OG (T2.setTop (mkF m 9 _ []))
  refine own_go (fun _ q => XS.aloadN X2.here hx rfl (hb hby d35_9) rfl rfl (XS.iloadN X2.here hx rfl (hb hby d35_10) rfl q)) ?_
  show OG (T2.setTop (mkF m 11 _ [(.int (0 : Int32)), (.ref s_)]))
  have f4 := (Fs1.other W2 (Or.inr (slot_ne (Or.inr (wd hw 35 rfl)) (Or.inr (wd hw 37 rfl)) (by decide) (t := .byte) (t' := (.array .byte)) (by decide) (by decide))))
  have f5 := (Es.wr W2)
  obtain ⟨T3, h3, X3, e3, W3, st3⟩ := putFN X2 hx hZ hown (wd hw 34 rfl) Via.refl e2 f4 f5 (Or.inr ⟨(wd hw 35 rfl), rfl, hnm⟩) (wd hw 9 rfl) (ty := .byte) (v' := (.int (0 : Int32))) (by decide) rfl rfl (g := (mkF m 11 #[vR s_, vR r, vI (0 : Int32)] [(.int (0 : Int32)), (.ref s_)])) rfl rfl (hb hby d35_11)
  have N3 := Fr.snoc X3 N2 gs_
  have Fw3 := f4.same W3
  have Z3 : n0 ≤ h3.size := by rw [W3.size]; exact Z2
  refine own_go st3 ?_
  show OG (T3.setTop (mkF m 14 _ []))
  have f6 := (f5.wr W3)
  have f7 := (Fw2.other W3 (Or.inr (slot_ne (Or.inr (wd hw 37 rfl)) (Or.inr (wd hw 35 rfl)) (by decide) (t := (.array .byte)) (t' := .byte) (by decide) (by decide))))
  have K : Keep h0 h3 [s_] := (((Keep.refl h0 [s_]).wr W2 (Or.inl (List.mem_cons_self ..))).wr W3 (Or.inl (List.mem_cons_self ..)))
  subst e3
  exact own_retV X3 hx hlk hret (hb hby d35_14) (by decide) (by decide) ⟨rfl, N3, K, f6, Fw3, f7⟩
abbrev C32 := jdk_33_method_10_code
theorem d32_0 : decode C32 0 = .ok (.iload_n 0, 1) := by decide +kernel
theorem d32_1 : decode C32 1 = .ok (.invokestatic 72, 3) := by decide +kernel
theorem d32_4 : decode C32 4 = .ok (.istore_n 1, 1) := by decide +kernel
theorem d32_5 : decode C32 5 = .ok (.getstatic 13, 3) := by decide +kernel
theorem d32_8 : decode C32 8 = .ok (.ifCond .eq 24, 3) := by decide +kernel
theorem d32_11 : decode C32 11 = .ok (.iload_n 1, 1) := by decide +kernel
theorem d32_12 : decode C32 12 = .ok (.newarray .byte, 2) := by decide +kernel
theorem d32_14 : decode C32 14 = .ok (.astore_n 2, 1) := by decide +kernel
theorem d32_15 : decode C32 15 = .ok (.iload_n 0, 1) := by decide +kernel
theorem d32_16 : decode C32 16 = .ok (.iload_n 1, 1) := by decide +kernel
theorem d32_17 : decode C32 17 = .ok (.aload_n 2, 1) := by decide +kernel
theorem d32_18 : decode C32 18 = .ok (.invokestatic 75, 3) := by decide +kernel
theorem d32_21 : decode C32 21 = .ok (.pop, 1) := by decide +kernel
theorem d32_22 : decode C32 22 = .ok (.new 5, 3) := by decide +kernel
theorem d32_25 : decode C32 25 = .ok (.dup, 1) := by decide +kernel
theorem d32_26 : decode C32 26 = .ok (.aload_n 2, 1) := by decide +kernel
theorem d32_27 : decode C32 27 = .ok (.iconst 0, 1) := by decide +kernel
theorem d32_28 : decode C32 28 = .ok (.invokespecial 65, 3) := by decide +kernel
theorem d32_31 : decode C32 31 = .ok (.areturn, 1) := by decide +kernel
def Q32 (Z : State) (x : Int32) (X : Nat) (d1 : Addr) (d2 : Addr) (zc : Int32) (h0 : Heap) (n0 : Nat) (v : Option Value) (h : Heap) (L : List Loc) : Prop := ∃ (nd : Nat) (s_ : Addr), v = some (.ref s_) ∧ Fr n0 L ∧ own_dig nd X ∧ Keep h0 h [] ∧ n0 ≤ s_ ∧ h0.size ≤ s_ ∧ Exa Z h s_ "java/lang/String" ∧ Fld Z h s_ "java/lang/String" "coder" "B" (.int 0) ∧ ∃ r : Addr, n0 ≤ r ∧ h0.size ≤ r ∧ Fld Z h s_ "java/lang/String" "value" "[B" (.ref r) ∧ own_By Z h r .byte nd (fun j => if 0 ≤ j ∧ j < nd then some (48 + X / 10 ^ (nd - 1 - j) % 10) else none)
theorem ef_32 (m : MethodId) (x0 : Int32) : entryFrame m #[(.int x0)] 3 = mkF m 0 #[vI x0, .unset, .unset] [] := by first | (simp [entryFrame, mkF, argsToLocals, Value.category]; done) | rfl
set_option maxRecDepth 65536 in
set_option maxHeartbeats 40000000 in
theorem rm32 (l : Launch) (Z : State) (a0 : Array Value) (hw : ∀ d ∈ tables_1, d.before a0 Z = true) (ws : List Jvm.Cond) (x : Int32) (X : Nat) (d1 : Addr) (d2 : Addr) (zc : Int32) (h0 : Heap) (n0 : Nat) (Z0 : n0 ≤ h0.size) (SC : Sta Z Z.heap "java/lang/String" "COMPACT_STRINGS" "Z" (.int zc)) (hz0 : ¬ zc = 0) (Od : Old Z n0 h0) (D1 : Sta Z Z.heap "java/lang/Integer" "DigitOnes" "[B" (.ref d1)) (B1 : own_By Z Z.heap d1 .byte 100 (fun j => some (48 + j % 10))) (D2 : Sta Z Z.heap "java/lang/Integer" "DigitTens" "[B" (.ref d2)) (B2 : own_By Z Z.heap d2 .byte 100 (fun j => some (48 + j / 10))) (hX : x.toInt = (X : Int)) (hX1 : 1 ≤ X) :
    own_Met l Z (⟨"java/lang/Integer", "toString", "(I)Ljava/lang/String;"⟩ : MethodName) jdk_33_method_10_code 3 (some (.object "java/lang/String")) ({ frames := 2, cells := 2, slots := 14, locals := 30 } : Room) ws #[(.int x)] h0 (Q32 Z x X d1 d2 zc h0 n0) := by
  refine own_enter (plainFor_of_name (by first | (simp [plainName, overriddenIn]; done) | decide +kernel)) ?_
  intro p e s m below meth c s₁ hx hby hml hown hnm hlk hret hZ X0 e0
  have N0 := Fr.nil n0
  refine own_go (fun _ q => castTop (ef_32 m x) q) ?_
  show OG (s₁.setTop (mkF m 0 #[vI x, .unset, .unset] []))
  refine own_go (fun _ q => XS.iloadN X0.here hx rfl (hb hby d32_0) rfl q) ?_
  show OG (s₁.setTop (mkF m 1 _ [(.int x)]))
  refine own_static X0 hx hZ hown (wd hw 181 rfl) (wd hw 182 rfl) (wd hw 179 rfl) (wd hw 183 rfl) (by decide) e0 (argsL := [(.int x)]) (rest := []) (rm33 l Z a0 hw [] x X h0 n0 Z0 hX hX1) 0 (by decide) (by decide) (by decide) (by decide) (by rw [hml]; rfl) pd_15 rfl rfl (Nat.le_of_eq rfl) (hb hby d32_1) rfl ?_
  intro v1 T1 L1 X1 hQ1
  obtain ⟨nd, rfl, N1q, e1q, hdg⟩ := hQ1
  have N1 := Fr.app N0 N1q
  show OG (T1.setTop (mkF m 4 _ [(.int (Int32.ofNat nd))]))
  have hdg' := hdg
  obtain ⟨q1, q2, q3, q4⟩ := hdg'
  have hndi := own_ofNatI (k := nd) (by omega)
  refine own_go (fun _ q => XS.istoreN X1.here hx rfl (hb hby d32_4) rfl (l' := #[vI x, vI (Int32.ofNat nd), .unset]) rfl q) ?_
  show OG (T1.setTop (mkF m 5 #[vI x, vI (Int32.ofNat nd), .unset] []))
  obtain ⟨T2, X2, e2, st2⟩ := getS2 X1 hx hZ hown (host := "") (Or.inl (wd hw 184 rfl)) Via.refl e1q (SC.ext Od.2) (g := (mkF m 5 #[vI x, vI (Int32.ofNat nd), .unset] [])) rfl (hb hby d32_5)
  refine own_go st2 ?_
  show OG (T2.setTop (mkF m 8 _ [(.int zc)]))
  refine own_go (fun _ q => XS.ifNo X2.here hx rfl (hb hby d32_8) rfl ((if0 _ _).trans (feq hz0).1) q) ?_
  show OG (T2.setTop (mkF m 11 #[vI x, vI (Int32.ofNat nd), .unset] []))
  refine own_go (fun _ q => XS.iloadN X2.here hx rfl (hb hby d32_11) rfl q) ?_
  show OG (T2.setTop (mkF m 12 _ [(.int (Int32.ofNat nd))]))
  obtain ⟨T3, h3, k3, X3, e3, E3, Aw3, Ex3, st3⟩ := newPE X2 hx hZ (wd hw 27 rfl) e2 (g := (mkF m 12 #[vI x, vI (Int32.ofNat nd), .unset] [(.int (Int32.ofNat nd))])) rfl (hb hby d32_12) rfl (own_nlt (x := Int32.ofNat nd) (y := 0) (by have ez : (0 : Int32).toInt = 0 := rfl; omega)) (cap := 10) (by rw [Int32.toNatClampNeg, hndi]; omega) (by decide) (by decide) (by decide) (ad := "[B") (by decide)
  obtain ⟨b3, g3⟩ : ∃ z, z = h0.size := ⟨_, rfl⟩
  rw [← g3] at Aw3 Ex3 st3
  have A3 := own_By.new (nn := nd) Aw3 (own_nlt (x := Int32.ofNat nd) (y := 0) (by have ez : (0 : Int32).toInt = 0 := rfl; omega)) (by rw [Int32.toNatClampNeg, hndi]; rfl) rfl
  have y3 : h0.size ≤ b3 := Nat.le_trans (Nat.le_refl _) (Nat.le_of_eq g3.symm)
  have G3 : n0 ≤ b3 := Nat.le_trans Z0 (Nat.le_of_eq g3.symm)
  have Z3 : n0 ≤ h3.size := Nat.le_trans Z0 E3.1
  refine own_go st3 ?_
  show OG (T3.setTop (mkF m 14 _ [(.ref b3)]))
  refine own_go (fun _ q => XS.astoreN X3.here hx rfl (hb hby d32_14) rfl rfl (l' := #[vI x, vI (Int32.ofNat nd), vR b3]) rfl (XS.iloadN X3.here hx rfl (hb hby d32_15) rfl (XS.iloadN X3.here hx rfl (hb hby d32_16) rfl (XS.aloadN X3.here hx rfl (hb hby d32_17) rfl rfl q)))) ?_
  show OG (T3.setTop (mkF m 18 #[vI x, vI (Int32.ofNat nd), vR b3] [(.ref b3), (.int (Int32.ofNat nd)), (.int x)]))
  have f4 := (Od.ext E3)
  refine own_static X3 hx hZ hown (wd hw 185 rfl) (wd hw 186 rfl) (wd hw 179 rfl) (wd hw 187 rfl) (by decide) e3 (argsL := [(.int x), (.int (Int32.ofNat nd)), (.ref b3)]) (rest := []) (rm34 l Z a0 hw [] x X nd b3 d1 d2 zc h3 n0 Z3 SC hz0 f4 D1 B1 D2 B2 hX hX1 hdg A3 G3) 0 (by decide) (by decide) (by decide) (by decide) (by rw [hml]; rfl) pd_26 rfl rfl (Nat.le_of_eq rfl) (hb hby d32_18) rfl ?_
  intro v5 T5 L5 X5 hQ5
  obtain ⟨rr, rfl, N5q, K5, A5⟩ := hQ5
  have N5 := Fr.app N1 N5q
  show OG (T5.setTop (mkF m 21 _ [(.int rr)]))
  have Z5 : n0 ≤ T5.heap.size := Nat.le_trans Z3 K5.1
  refine own_go (fun _ q => XS.pop X5.here hx rfl (hb hby d32_21) rfl rfl q) ?_
  show OG (T5.setTop (mkF m 22 _ []))
  obtain ⟨T6, h6, X6, e6, E6, A6, D6, -, st6⟩ := newO X5 hx hZ hown (wd hw 189 rfl) (wd hw 9 rfl) (wd hw 10 rfl) rfl (g := (mkF m 22 #[vI x, vI (Int32.ofNat nd), vR b3] [])) rfl (hb hby d32_22) (by decide) (by decide)
  obtain ⟨b6, g6⟩ : ∃ z, z = T5.heap.size := ⟨_, rfl⟩
  rw [← g6] at A6 D6 st6
  have nq7 : b3 ≠ b6 := Nat.ne_of_lt (Nat.lt_of_lt_of_eq (A5).lt g6.symm)
  have G6 : n0 ≤ b6 := Nat.le_trans Z5 (Nat.le_of_eq g6.symm)
  have Z6 : n0 ≤ h6.size := Nat.le_trans Z5 E6.1
  have Fn6_coder : Fld Z h6 b6 "java/lang/String" "coder" "B" (.int (0 : Int32)) := D6 (Or.inr (wd hw 35 rfl)) (ty := .byte) (by decide)
  have Fn6_value : Fld Z h6 b6 "java/lang/String" "value" "[B" .null := D6 (Or.inr (wd hw 37 rfl)) (ty := (.array .byte)) (by decide)
  have y6 : h0.size ≤ b6 := Nat.le_trans (Nat.le_trans (Nat.le_trans (Nat.le_refl _) E3.1) K5.1) (Nat.le_of_eq g6.symm)
  refine own_go st6 ?_
  show OG (T6.setTop (mkF m 25 _ [(.ref b6)]))
  refine own_go (fun _ q => XS.dup X6.here hx rfl (hb hby d32_25) rfl rfl (XS.aloadN X6.here hx rfl (hb hby d32_26) rfl rfl (XS.iconst X6.here hx rfl (hb hby d32_27) q))) ?_
  show OG (T6.setTop (mkF m 28 #[vI x, vI (Int32.ofNat nd), vR b3] [(.int (0 : Int32)), (.ref b3), (.ref b6), (.ref b6)]))
  refine own_init X6 hx hZ rfl hown (wd hw 190 rfl) (wd hw 191 rfl) (wd hw 10 rfl) (wd hw 192 rfl) (by decide) e6 (a := b6) (argsL := [(.ref b3), (.int (0 : Int32))]) (rest := [(.ref b6)]) (rm35 l Z a0 hw [] b6 b3 h6 n0 Z6 A6 Fn6_coder Fn6_value G6) 1 (by decide) (by decide) (by decide) (by decide) (by rw [hml]; rfl) pd_27 rfl rfl (Nat.le_of_eq rfl) (hb hby d32_28) rfl ?_
  intro v8 T8 L8 X8 hQ8
  obtain ⟨rfl, N8q, K8, J1, J2, J3⟩ := hQ8
  have N8 := Fr.app N5 N8q
  show OG (T8.setTop (mkF m 31 _ [(.ref b6)]))
  have f9 := ((A5.ext E6).keep K8 (ninS nq7 nin0))
  have K : Keep h0 T8.heap [] := (((((Keep.refl h0 []).ext E3).trans K5 (allS (Or.inr y3) all0)).ext E6).trans K8 (allS (Or.inr y6) all0))
  exact own_retR X8 hx hlk hret rfl rfl rfl (hb hby d32_31) (by decide) (by decide) ⟨nd, b6, rfl, N8, hdg, K, G6, y6, J1, J2, b3, G3, y3, J3, f9⟩
abbrev C23 := prog_23_method_3_code
theorem d23_0 : decode C23 0 = .ok (.aload_n 0, 1) := by decide +kernel
theorem d23_1 : decode C23 1 = .ok (.getfield 26, 3) := by decide +kernel
theorem d23_4 : decode C23 4 = .ok (.invokevirtual 109, 3) := by decide +kernel
theorem d23_7 : decode C23 7 = .ok (.ifCond .eq 54, 3) := by decide +kernel
theorem d23_10 : decode C23 10 = .ok (.new 55, 3) := by decide +kernel
theorem d23_13 : decode C23 13 = .ok (.dup, 1) := by decide +kernel
theorem d23_14 : decode C23 14 = .ok (.invokespecial 57, 3) := by decide +kernel
theorem d23_17 : decode C23 17 = .ok (.aload_n 0, 1) := by decide +kernel
theorem d23_18 : decode C23 18 = .ok (.getfield 26, 3) := by decide +kernel
theorem d23_21 : decode C23 21 = .ok (.invokevirtual 142, 3) := by decide +kernel
theorem d23_24 : decode C23 24 = .ok (.invokevirtual 146, 3) := by decide +kernel
theorem d23_27 : decode C23 27 = .ok (.aload_n 0, 1) := by decide +kernel
theorem d23_28 : decode C23 28 = .ok (.getfield 29, 3) := by decide +kernel
theorem d23_31 : decode C23 31 = .ok (.invokestatic 149, 3) := by decide +kernel
theorem d23_34 : decode C23 34 = .ok (.invokevirtual 60, 3) := by decide +kernel
theorem d23_37 : decode C23 37 = .ok (.bipush 91, 2) := by decide +kernel
theorem d23_39 : decode C23 39 = .ok (.invokevirtual 146, 3) := by decide +kernel
theorem d23_42 : decode C23 42 = .ok (.aload_n 0, 1) := by decide +kernel
theorem d23_43 : decode C23 43 = .ok (.getfield 33, 3) := by decide +kernel
theorem d23_46 : decode C23 46 = .ok (.invokevirtual 60, 3) := by decide +kernel
theorem d23_49 : decode C23 49 = .ok (.bipush 93, 2) := by decide +kernel
theorem d23_51 : decode C23 51 = .ok (.invokevirtual 146, 3) := by decide +kernel
theorem d23_54 : decode C23 54 = .ok (.invokevirtual 76, 3) := by decide +kernel
theorem d23_57 : decode C23 57 = .ok (.astore_n 1, 1) := by decide +kernel
theorem d23_58 : decode C23 58 = .ok (.goto 34, 3) := by decide +kernel
theorem d23_61 : decode C23 61 = .ok (.new 55, 3) := by decide +kernel
theorem d23_64 : decode C23 64 = .ok (.dup, 1) := by decide +kernel
theorem d23_65 : decode C23 65 = .ok (.invokespecial 57, 3) := by decide +kernel
theorem d23_68 : decode C23 68 = .ok (.aload_n 0, 1) := by decide +kernel
theorem d23_69 : decode C23 69 = .ok (.getfield 26, 3) := by decide +kernel
theorem d23_72 : decode C23 72 = .ok (.invokevirtual 142, 3) := by decide +kernel
theorem d23_75 : decode C23 75 = .ok (.invokevirtual 146, 3) := by decide +kernel
theorem d23_78 : decode C23 78 = .ok (.aload_n 0, 1) := by decide +kernel
theorem d23_79 : decode C23 79 = .ok (.getfield 29, 3) := by decide +kernel
theorem d23_82 : decode C23 82 = .ok (.invokestatic 149, 3) := by decide +kernel
theorem d23_85 : decode C23 85 = .ok (.invokevirtual 60, 3) := by decide +kernel
theorem d23_88 : decode C23 88 = .ok (.invokevirtual 76, 3) := by decide +kernel
theorem d23_91 : decode C23 91 = .ok (.astore_n 1, 1) := by decide +kernel
theorem d23_92 : decode C23 92 = .ok (.aload_n 1, 1) := by decide +kernel
theorem d23_93 : decode C23 93 = .ok (.areturn, 1) := by decide +kernel
def Q23 (Z : State) (o : Addr) (kd : Addr) (x : Int32) (X : Nat) (lt : Nat) (d1 : Addr) (d2 : Addr) (a : Addr) (v_ : Addr) (n : Nat) (gs : Nat → Option Nat) (zc : Int32) (h0 : Heap) (n0 : Nat) (v : Option Value) (h : Heap) (L : List Loc) : Prop := ∃ (nd : Nat) (S : Addr), v = some (.ref S) ∧ Fr n0 L ∧ own_dig nd X ∧ Keep h0 h [] ∧ n0 ≤ S ∧ h0.size ≤ S ∧ Exa Z h S "java/lang/String" ∧ Fld Z h S "java/lang/String" "coder" "B" (.int 0) ∧ ∃ r : Addr, n0 ≤ r ∧ h0.size ≤ r ∧ Fld Z h S "java/lang/String" "value" "[B" (.ref r) ∧ own_By Z h r .byte (1 + nd + 1 + n + 1) (own_txt lt nd X (some (n, gs)))
theorem ef_23 (m : MethodId) (x0 : Addr) : entryFrame m #[(.ref x0)] 2 = mkF m 0 #[vR x0, .unset] [] := by first | (simp [entryFrame, mkF, argsToLocals, Value.category]; done) | rfl
set_option maxRecDepth 65536 in
set_option maxHeartbeats 40000000 in
theorem rm23 (l : Launch) (Z : State) (a0 : Array Value) (hw : ∀ d ∈ tables_1, d.before a0 Z = true) (ws : List Jvm.Cond) (o : Addr) (kd : Addr) (x : Int32) (X : Nat) (lt : Nat) (d1 : Addr) (d2 : Addr) (a : Addr) (v_ : Addr) (n : Nat) (gs : Nat → Option Nat) (zc : Int32) (h0 : Heap) (n0 : Nat) (Z0 : n0 ≤ h0.size) (SC : Sta Z Z.heap "java/lang/String" "COMPACT_STRINGS" "Z" (.int zc)) (hz0 : ¬ zc = 0) (Od : Old Z n0 h0) (Eo : Exa Z h0 o "com/example/interleave/interleave/core/Operation") (Fo1 : Fld Z h0 o "com/example/interleave/interleave/core/Operation" "kind" "Lcom/example/interleave/interleave/core/Operation$Kind;" (.ref kd)) (Fo2 : Fld Z h0 o "com/example/interleave/interleave/core/Operation" "transaction" "I" (.int x)) (Ek : Exa Z Z.heap kd "com/example/interleave/interleave/core/Operation$Kind") (Fk : Fld Z Z.heap kd "com/example/interleave/interleave/core/Operation$Kind" "onItem" "Z" (.int 1)) (Fl : Fld Z Z.heap kd "com/example/interleave/interleave/core/Operation$Kind" "letter" "C" (.int (Int32.ofNat lt))) (hlt : lt < 128) (D1 : Sta Z Z.heap "java/lang/Integer" "DigitOnes" "[B" (.ref d1)) (B1 : own_By Z Z.heap d1 .byte 100 (fun j => some (48 + j % 10))) (D2 : Sta Z Z.heap "java/lang/Integer" "DigitTens" "[B" (.ref d2)) (B2 : own_By Z Z.heap d2 .byte 100 (fun j => some (48 + j / 10))) (hX : x.toInt = (X : Int)) (hX1 : 1 ≤ X) (Fo3 : Fld Z h0 o "com/example/interleave/interleave/core/Operation" "item" "Ljava/lang/String;" (.ref a)) (hn4 : n ≤ 4) (Ea : Exa Z h0 a "java/lang/String") (Fc : Fld Z h0 a "java/lang/String" "coder" "B" (.int 0)) (Fv : Fld Z h0 a "java/lang/String" "value" "[B" (.ref v_)) (Av : own_By Z h0 v_ .byte n gs)  :
    own_Met l Z (⟨"com/example/interleave/interleave/core/Operation", "toString", "()Ljava/lang/String;"⟩ : MethodName) prog_23_method_3_code 2 (some (.object "java/lang/String")) ({ frames := 6, cells := 7, slots := 90, locals := 110 } : Room) ws #[(.ref o)] h0 (Q23 Z o kd x X lt d1 d2 a v_ n gs zc h0 n0) := by
  refine own_enter (plainFor_of_name (by first | (simp [plainName, overriddenIn]; done) | decide +kernel)) ?_
  intro p e s m below meth c s₁ hx hby hml hown hnm hlk hret hZ X0 e0
  have N0 := Fr.nil n0
  refine own_go (fun _ q => castTop (ef_23 m o) q) ?_
  show OG (s₁.setTop (mkF m 0 #[vR o, .unset] []))
  refine own_go (fun _ q => XS.aloadN X0.here hx rfl (hb hby d23_0) rfl rfl q) ?_
  show OG (s₁.setTop (mkF m 1 _ [(.ref o)]))
  obtain ⟨T1, X1, e1, st1⟩ := getF X0 hx hZ hown (host := "") (Or.inl (wd hw 116 rfl)) Via.refl e0 Fo1 (g := (mkF m 1 #[vR o, .unset] [(.ref o)])) rfl rfl (hb hby d23_1)
  refine own_go st1 ?_
  show OG (T1.setTop (mkF m 4 _ [(.ref kd)]))
  refine own_virtual X1 hx hZ hown (wd hw 66 rfl) (wd hw 67 rfl) (wd hw 69 rfl) (wd hw 68 rfl) (wd hw 1 rfl) (wd hw 70 rfl) (by decide) e1 (a := kd) (Ek.ext Od.2) (argsL := []) (rest := []) (rm12 l Z a0 hw [] kd 1 zc h0 n0 Z0 SC hz0 Od Fk (by decide)) 0 (by decide) (by decide) (by decide) (by decide) (by rw [hml]; rfl) pd_3 rfl rfl (Nat.le_of_eq rfl) (hb hby d23_4) rfl ?_
  intro v2 T2 L2 X2 hQ2
  obtain ⟨rfl, N2q, e2q⟩ := hQ2
  have N2 := Fr.app N0 N2q
  show OG (T2.setTop (mkF m 7 _ [(.int (1 : Int32))]))
  refine own_go (fun _ q => XS.ifNo X2.here hx rfl (hb hby d23_7) rfl ((if0 _ _).trans (feq (by decide : ¬ ((1 : Int32) = (0 : Int32)))).1) q) ?_
  show OG (T2.setTop (mkF m 10 #[vR o, .unset] []))
  obtain ⟨T3, h3, X3, e3, E3, A3, D3, -, st3⟩ := newO X2 hx hZ hown (wd hw 127 rfl) (wd hw 128 rfl) (wd hw 129 rfl) e2q (g := (mkF m 10 #[vR o, .unset] [])) rfl (hb hby d23_10) (by decide) (by decide)
  obtain ⟨b3, g3⟩ : ∃ z, z = h0.size := ⟨_, rfl⟩
  rw [← g3] at A3 D3 st3
  have nq4 : a ≠ b3 := Nat.ne_of_lt (Nat.lt_of_lt_of_eq (Ea).lt g3.symm)
  have nq5 : o ≠ b3 := Nat.ne_of_lt (Nat.lt_of_lt_of_eq (Eo).lt g3.symm)
  have nq6 : v_ ≠ b3 := Nat.ne_of_lt (Nat.lt_of_lt_of_eq (Av).lt g3.symm)
  have G3 : n0 ≤ b3 := Nat.le_trans Z0 (Nat.le_of_eq g3.symm)
  have Z3 : n0 ≤ h3.size := Nat.le_trans Z0 E3.1
  have Fn3_value : Fld Z h3 b3 "java/lang/AbstractStringBuilder" "value" "[B" .null := D3 (Or.inl (wd hw 142 rfl)) (ty := (.array .byte)) (by decide)
  have Fn3_coder : Fld Z h3 b3 "java/lang/AbstractStringBuilder" "coder" "B" (.int (0 : Int32)) := D3 (Or.inl (wd hw 144 rfl)) (ty := .byte) (by decide)
  have Fn3_count : Fld Z h3 b3 "java/lang/AbstractStringBuilder" "count" "I" (.int (0 : Int32)) := D3 (Or.inl (wd hw 163 rfl)) (ty := .int) (by decide)
  have y3 : h0.size ≤ b3 := Nat.le_trans (Nat.le_refl _) (Nat.le_of_eq g3.symm)
  refine own_go st3 ?_
  show OG (T3.setTop (mkF m 13 _ [(.ref b3)]))
  refine own_go (fun _ q => XS.dup X3.here hx rfl (hb hby d23_13) rfl rfl q) ?_
  show OG (T3.setTop (mkF m 14 _ [(.ref b3), (.ref b3)]))
  have f8 := (Ea.ext E3)
  have lt7 := f8.lt
  have lt9 := A3.lt
  have f11 := (Eo.ext E3)
  have lt10 := f11.lt
  have f13 := (Av.ext E3)
  have lt12 := f13.lt
  have ltb := A3.lt
  have f14 := (Od.ext E3)
  refine own_init X3 hx hZ rfl hown (wd hw 130 rfl) (wd hw 131 rfl) (wd hw 129 rfl) (wd hw 132 rfl) (by decide) e3 (a := b3) (argsL := []) (rest := [(.ref b3)]) (rm24 l Z a0 hw [] b3 zc h3 n0 Z3 SC hz0 f14 A3 Fn3_value Fn3_coder Fn3_count G3) 1 (by decide) (by decide) (by decide) (by decide) (by rw [hml]; rfl) pd_9 rfl rfl (Nat.le_of_eq rfl) (hb hby d23_14) rfl ?_
  intro v15 T15 L15 X15 hQ15
  obtain ⟨rfl, N15q, K15, w0, Gw, yw0, SB0⟩ := hQ15
  have N15 := Fr.app N2 N15q
  show OG (T15.setTop (mkF m 17 _ [(.ref b3)]))
  have yw : h0.size ≤ w0 := Nat.le_trans (Nat.le_trans (Nat.le_refl _) E3.1) yw0
  have Z15 : n0 ≤ T15.heap.size := Nat.le_trans Z3 K15.1
  have nq16 : a ≠ w0 := fun q => absurd (q ▸ lt7) (Nat.not_lt.mpr yw0)
  have nq17 : o ≠ w0 := fun q => absurd (q ▸ lt10) (Nat.not_lt.mpr yw0)
  have nq18 : v_ ≠ w0 := fun q => absurd (q ▸ lt12) (Nat.not_lt.mpr yw0)
  have nq19 : b3 ≠ w0 := fun q => absurd (q ▸ ltb) (Nat.not_lt.mpr yw0)
  have SB1 : own_SB Z T15.heap b3 w0 16 (Int32.ofNat 0) (fun _ => none) := SB0
  obtain ⟨B1E, B1V, B1C, B1N, B1A, B1X⟩ := SB1
  refine own_go (fun _ q => XS.aloadN X15.here hx rfl (hb hby d23_17) rfl rfl q) ?_
  show OG (T15.setTop (mkF m 18 #[vR o, .unset] [(.ref o), (.ref b3)]))
  have f21 := ((Fo1.ext E3).keep K15 (ninS nq5 nin0))
  obtain ⟨T20, X20, e20, st20⟩ := getF X15 hx hZ hown (host := "") (Or.inl (wd hw 116 rfl)) Via.refl rfl f21 (g := (mkF m 18 #[vR o, .unset] [(.ref o), (.ref b3)])) rfl rfl (hb hby d23_18)
  refine own_go st20 ?_
  show OG (T20.setTop (mkF m 21 _ [(.ref kd), (.ref b3)]))
  have f22 := (f14.keep K15 (allS G3 all0))
  refine own_virtual X20 hx hZ hown (wd hw 145 rfl) (wd hw 146 rfl) (wd hw 148 rfl) (wd hw 147 rfl) (wd hw 1 rfl) (wd hw 149 rfl) (by decide) e20 (a := kd) (Ek.ext f22.2) (argsL := []) (rest := [(.ref b3)]) (rm26 l Z a0 hw [] kd (Int32.ofNat lt) zc T15.heap n0 Z15 SC hz0 f22 Fl (own_narrow_char hlt)) 1 (by decide) (by decide) (by decide) (by decide) (by rw [hml]; rfl) pd_28 rfl rfl (Nat.le_of_eq rfl) (hb hby d23_21) rfl ?_
  intro v23 T23 L23 X23 hQ23
  obtain ⟨rfl, N23q, e23q⟩ := hQ23
  have N23 := Fr.app N15 N23q
  show OG (T23.setTop (mkF m 24 _ [(.int (Int32.ofNat lt)), (.ref b3)]))
  refine own_virtual X23 hx hZ hown (wd hw 152 rfl) (wd hw 153 rfl) (wd hw 155 rfl) (wd hw 154 rfl) (wd hw 129 rfl) (wd hw 156 rfl) (by decide) e23q (a := b3) B1E (argsL := [(.int (Int32.ofNat lt))]) (rest := []) (rm27 l Z a0 hw [] b3 w0 16 (16 : Int32) 0 _ lt zc T15.heap n0 Z15 SC hz0 f22 ⟨B1E, B1V, B1C, B1N, B1A, B1X⟩ rfl (by omega) (by decide) hlt G3 Gw nq19) 0 (by decide) (by decide) (by decide) (by decide) (by rw [hml]; rfl) pd_29 rfl rfl (Nat.le_of_eq rfl) (hb hby d23_24) rfl ?_
  intro v24 T24 L24 X24 hQ24
  obtain ⟨rfl, N24q, K24, SB2⟩ := hQ24
  have N24 := Fr.app N23 N24q
  show OG (T24.setTop (mkF m 27 _ [(.ref b3)]))
  have Z24 : n0 ≤ T24.heap.size := Nat.le_trans Z15 K24.1
  obtain ⟨B2E, B2V, B2C, B2N, B2A, B2X⟩ := SB2
  refine own_go (fun _ q => XS.aloadN X24.here hx rfl (hb hby d23_27) rfl rfl q) ?_
  show OG (T24.setTop (mkF m 28 _ [(.ref o), (.ref b3)]))
  have f26 := (((Fo2.ext E3).keep K15 (ninS nq5 nin0)).keep K24 (ninS nq5 (ninS nq17 nin0)))
  obtain ⟨T25, X25, e25, st25⟩ := getF X24 hx hZ hown (host := "") (Or.inl (wd hw 118 rfl)) Via.refl rfl f26 (g := (mkF m 28 #[vR o, .unset] [(.ref o), (.ref b3)])) rfl rfl (hb hby d23_28)
  refine own_go st25 ?_
  show OG (T25.setTop (mkF m 31 _ [(.int x), (.ref b3)]))
  have f28 := ((f8.keep K15).keep K24)
  have lt27 := f28.lt
  have lt29 := B2E.lt
  have f31 := ((f11.keep K15).keep K24)
  have lt30 := f31.lt
  have f33 := ((f13.keep K15 (ninS nq6 nin0)).keep K24 (ninS nq6 (ninS nq18 nin0)))
  have lt32 := f33.lt
  have lt34 := B2A.lt
  have f35 := (f22.keep K24 (allS G3 (allS Gw all0)))
  refine own_static X25 hx hZ hown (wd hw 177 rfl) (wd hw 178 rfl) (wd hw 179 rfl) (wd hw 180 rfl) (by decide) e25 (argsL := [(.int x)]) (rest := [(.ref b3)]) (rm32 l Z a0 hw [] x X d1 d2 zc T24.heap n0 Z24 SC hz0 f35 D1 B1 D2 B2 hX hX1) 1 (by decide) (by decide) (by decide) (by decide) (by rw [hml]; rfl) pd_30 rfl rfl (Nat.le_of_eq rfl) (hb hby d23_31) rfl ?_
  intro v36 T36 L36 X36 hQ36
  obtain ⟨nd, s1, rfl, N36q, hdg, K36, Gs, ys0, E1, C1, r1, Gr, yr0, V1, A1⟩ := hQ36
  have N36 := Fr.app N24 N36q
  show OG (T36.setTop (mkF m 34 _ [(.ref s1), (.ref b3)]))
  have Z36 : n0 ≤ T36.heap.size := Nat.le_trans Z24 K36.1
  have hdg' := hdg
  obtain ⟨q1, q2, q3, q4⟩ := hdg'
  have nq37 : a ≠ s1 := fun q => absurd (q ▸ lt27) (Nat.not_lt.mpr ys0)
  have nq38 : b3 ≠ s1 := fun q => absurd (q ▸ lt29) (Nat.not_lt.mpr ys0)
  have nq39 : o ≠ s1 := fun q => absurd (q ▸ lt30) (Nat.not_lt.mpr ys0)
  have nq40 : v_ ≠ s1 := fun q => absurd (q ▸ lt32) (Nat.not_lt.mpr ys0)
  have nq41 : w0 ≠ s1 := fun q => absurd (q ▸ lt34) (Nat.not_lt.mpr ys0)
  have nq42 : a ≠ r1 := fun q => absurd (q ▸ lt27) (Nat.not_lt.mpr yr0)
  have nq43 : b3 ≠ r1 := fun q => absurd (q ▸ lt29) (Nat.not_lt.mpr yr0)
  have nq44 : o ≠ r1 := fun q => absurd (q ▸ lt30) (Nat.not_lt.mpr yr0)
  have nq45 : v_ ≠ r1 := fun q => absurd (q ▸ lt32) (Nat.not_lt.mpr yr0)
  have nq46 : w0 ≠ r1 := fun q => absurd (q ▸ lt34) (Nat.not_lt.mpr yr0)
  have f47 := (B2E.keep K36)
  have f48 := (B2V.keep K36 nin0)
  have f49 := (B2C.keep K36 nin0)
  have f50 := (B2N.keep K36 nin0)
  have f51 := (B2A.keep K36 nin0)
  have f52 := (B2X.keep K36)
  have f53 := (f35.keep K36 all0)
  refine own_virtual X36 hx hZ hown (wd hw 193 rfl) (wd hw 194 rfl) (wd hw 196 rfl) (wd hw 195 rfl) (wd hw 129 rfl) (wd hw 197 rfl) (by decide) rfl (a := b3) f47 (argsL := [(.ref s1)]) (rest := []) (rm36 l Z a0 hw [] s1 r1 nd _ b3 w0 16 (16 : Int32) 1 _ zc T36.heap n0 Z36 SC hz0 f53 E1 C1 V1 A1 ⟨f47, f48, f49, f50, f51, f52⟩ rfl (by omega) (by decide) G3 Gw nq19 (Ne.symm nq38) (Ne.symm nq41) (Ne.symm nq46) (Ne.symm nq43)) 0 (by decide) (by decide) (by decide) (by decide) (by rw [hml]; rfl) pd_31 rfl rfl (Nat.le_of_eq rfl) (hb hby d23_34) rfl ?_
  intro v54 T54 L54 X54 hQ54
  obtain ⟨rfl, N54q, K54, SB3⟩ := hQ54
  have N54 := Fr.app N36 N54q
  show OG (T54.setTop (mkF m 37 _ [(.ref b3)]))
  have Z54 : n0 ≤ T54.heap.size := Nat.le_trans Z36 K54.1
  obtain ⟨B3E, B3V, B3C, B3N, B3A, B3X⟩ := SB3
  refine own_go (fun _ q => XS.bipush X54.here hx rfl (hb hby d23_37) q) ?_
  show OG (T54.setTop (mkF m 39 #[vR o, .unset] [(.int (91 : Int32)), (.ref b3)]))
  have f55 := (f53.keep K54 (allS G3 (allS Gw all0)))
  refine own_virtual X54 hx hZ hown (wd hw 152 rfl) (wd hw 153 rfl) (wd hw 155 rfl) (wd hw 154 rfl) (wd hw 129 rfl) (wd hw 156 rfl) (by decide) rfl (a := b3) B3E (argsL := [(.int (91 : Int32))]) (rest := []) (rm27 l Z a0 hw [] b3 w0 16 (16 : Int32) (1 + nd) _ 91 zc T54.heap n0 Z54 SC hz0 f55 ⟨B3E, B3V, B3C, B3N, B3A, B3X⟩ rfl (by omega) (by decide) (by decide) G3 Gw nq19) 0 (by decide) (by decide) (by decide) (by decide) (by rw [hml]; rfl) pd_29 rfl rfl (Nat.le_of_eq rfl) (hb hby d23_39) rfl ?_
  intro v56 T56 L56 X56 hQ56
  obtain ⟨rfl, N56q, K56, SB4⟩ := hQ56
  have N56 := Fr.app N54 N56q
  show OG (T56.setTop (mkF m 42 _ [(.ref b3)]))
  have Z56 : n0 ≤ T56.heap.size := Nat.le_trans Z54 K56.1
  obtain ⟨B4E, B4V, B4C, B4N, B4A, B4X⟩ := SB4
  refine own_go (fun _ q => XS.aloadN X56.here hx rfl (hb hby d23_42) rfl rfl q) ?_
  show OG (T56.setTop (mkF m 43 _ [(.ref o), (.ref b3)]))
  have f58 := ((((((Fo3.ext E3).keep K15 (ninS nq5 nin0)).keep K24 (ninS nq5 (ninS nq17 nin0))).keep K36 nin0).keep K54 (ninS nq5 (ninS nq17 nin0))).keep K56 (ninS nq5 (ninS nq17 nin0)))
  obtain ⟨T57, X57, e57, st57⟩ := getF X56 hx hZ hown (host := "") (Or.inl (wd hw 120 rfl)) Via.refl rfl f58 (g := (mkF m 43 #[vR o, .unset] [(.ref o), (.ref b3)])) rfl rfl (hb hby d23_43)
  refine own_go st57 ?_
  show OG (T57.setTop (mkF m 46 _ [(.ref a), (.ref b3)]))
  have f59 := (((f28.keep K36).keep K54).keep K56)
  have f60 := ((((((Fc.ext E3).keep K15 (ninS nq4 nin0)).keep K24 (ninS nq4 (ninS nq16 nin0))).keep K36 nin0).keep K54 (ninS nq4 (ninS nq16 nin0))).keep K56 (ninS nq4 (ninS nq16 nin0)))
  have f61 := ((((((Fv.ext E3).keep K15 (ninS nq4 nin0)).keep K24 (ninS nq4 (ninS nq16 nin0))).keep K36 nin0).keep K54 (ninS nq4 (ninS nq16 nin0))).keep K56 (ninS nq4 (ninS nq16 nin0)))
  have f62 := (((f33.keep K36 nin0).keep K54 (ninS nq6 (ninS nq18 nin0))).keep K56 (ninS nq6 (ninS nq18 nin0)))
  have f63 := (f55.keep K56 (allS G3 (allS Gw all0)))
  refine own_virtual X57 hx hZ hown (wd hw 193 rfl) (wd hw 194 rfl) (wd hw 196 rfl) (wd hw 195 rfl) (wd hw 129 rfl) (wd hw 197 rfl) (by decide) e57 (a := b3) B4E (argsL := [(.ref a)]) (rest := []) (rm36 l Z a0 hw [] a v_ n gs b3 w0 16 (16 : Int32) (1 + nd + 1) _ zc T56.heap n0 Z56 SC hz0 f63 f59 f60 f61 f62 ⟨B4E, B4V, B4C, B4N, B4A, B4X⟩ rfl (by omega) (by decide) G3 Gw nq19 nq4 nq16 nq18 nq6) 0 (by decide) (by decide) (by decide) (by decide) (by rw [hml]; rfl) pd_31 rfl rfl (Nat.le_of_eq rfl) (hb hby d23_46) rfl ?_
  intro v64 T64 L64 X64 hQ64
  obtain ⟨rfl, N64q, K64, SB5⟩ := hQ64
  have N64 := Fr.app N56 N64q
  show OG (T64.setTop (mkF m 49 _ [(.ref b3)]))
  have Z64 : n0 ≤ T64.heap.size := Nat.le_trans Z56 K64.1
  obtain ⟨B5E, B5V, B5C, B5N, B5A, B5X⟩ := SB5
  refine own_go (fun _ q => XS.bipush X64.here hx rfl (hb hby d23_49) q) ?_
  show OG (T64.setTop (mkF m 51 #[vR o, .unset] [(.int (93 : Int32)), (.ref b3)]))
  by_cases h16 : 1 + nd + 1 + n = 16
  · have SBq := own_cast16 h16 (show own_SB Z T64.heap b3 w0 16 (Int32.ofNat (1 + nd + 1 + n)) _ from ⟨B5E, B5V, B5C, B5N, B5A, B5X⟩)
    have f66 := (f59.keep K64)
    have lt65 := f66.lt
    have lt67 := B5E.lt
    have f69 := ((((f31.keep K36).keep K54).keep K56).keep K64)
    have lt68 := f69.lt
    have f71 := (f62.keep K64 (ninS nq6 (ninS nq18 nin0)))
    have lt70 := f71.lt
    have lt72 := B5A.lt
    have f73 := (f63.keep K64 (allS G3 (allS Gw all0)))
    refine own_virtual X64 hx hZ hown (wd hw 152 rfl) (wd hw 153 rfl) (wd hw 155 rfl) (wd hw 154 rfl) (wd hw 129 rfl) (wd hw 156 rfl) (by decide) rfl (a := b3) B5E (argsL := [(.int (93 : Int32))]) (rest := []) (rm27b l Z a0 hw [] b3 w0 _ 93 zc T64.heap n0 Z64 SC hz0 f73 SBq (by decide) G3 nq19) 0 (by decide) (by decide) (by decide) (by decide) (by rw [hml]; rfl) pd_29 rfl rfl (Nat.le_of_eq rfl) (hb hby d23_51) rfl ?_
    intro v74 T74 L74 X74 hQ74
    obtain ⟨rfl, N74q, K74, wr, Gwr, ywr0, SB6⟩ := hQ74
    have N74 := Fr.app N64 N74q
    show OG (T74.setTop (mkF m 54 _ [(.ref b3)]))
    have Z74 : n0 ≤ T74.heap.size := Nat.le_trans Z64 K74.1
    have SB7 : own_SB Z T74.heap b3 wr 34 (Int32.ofNat 17) _ := SB6
    obtain ⟨B7E, B7V, B7C, B7N, B7A, B7X⟩ := SB7
    have f75 := (f73.keep K74 (allS G3 all0))
    refine own_virtual X74 hx hZ hown (wd hw 223 rfl) (wd hw 224 rfl) (wd hw 226 rfl) (wd hw 225 rfl) (wd hw 129 rfl) (wd hw 227 rfl) (by decide) rfl (a := b3) B7E (argsL := []) (rest := []) (rm41 l Z a0 hw [] b3 wr 34 (34 : Int32) 17 _ zc T74.heap n0 Z74 SC hz0 f75 ⟨B7E, B7V, B7C, B7N, B7A, B7X⟩ rfl (by decide) (by decide)) 0 (by decide) (by decide) (by decide) (by decide) (by rw [hml]; rfl) pd_32 rfl rfl (Nat.le_of_eq rfl) (hb hby d23_54) rfl ?_
    intro v76 T76 L76 X76 hQ76
    obtain ⟨S, rfl, N76q, K76, GS, yS0, J1, J2, rS, GrS, yrS0, J5, J6⟩ := hQ76
    have N76 := Fr.app N74 N76q
    show OG (T76.setTop (mkF m 57 _ [(.ref S)]))
    have Z76 : n0 ≤ T76.heap.size := Nat.le_trans Z74 K76.1
    have yS : h0.size ≤ S := Nat.le_trans (Nat.le_trans (Nat.le_trans (Nat.le_trans (Nat.le_trans (Nat.le_trans (Nat.le_trans (Nat.le_trans (Nat.le_trans (Nat.le_refl _) E3.1) K15.1) K24.1) K36.1) K54.1) K56.1) K64.1) K74.1) yS0
    have yrS : h0.size ≤ rS := Nat.le_trans (Nat.le_trans (Nat.le_trans (Nat.le_trans (Nat.le_trans (Nat.le_trans (Nat.le_trans (Nat.le_trans (Nat.le_trans (Nat.le_refl _) E3.1) K15.1) K24.1) K36.1) K54.1) K56.1) K64.1) K74.1) yrS0
    refine own_go (fun _ q => XS.astoreN X76.here hx rfl (hb hby d23_57) rfl rfl (l' := #[vR o, vR S]) rfl (XS.goto X76.here hx rfl (pc0 := 58) (pc' := 92) rfl (hb hby d23_58) (by decide) (by decide) (XS.aloadN X76.here hx rfl (hb hby d23_92) rfl rfl q))) ?_
    show OG (T76.setTop (mkF m 93 #[vR o, vR S] [(.ref S)]))
    have Aq := J6.weak (g' := own_txt lt nd X (some (n, gs))) (own_txt2 h16)
    have K : Keep h0 T76.heap [] := ((((((((((Keep.refl h0 []).ext E3).trans K15 (allS (Or.inr y3) all0)).trans K24 (allS (Or.inr y3) (allS (Or.inr yw) all0))).trans K36 all0).trans K54 (allS (Or.inr y3) (allS (Or.inr yw) all0))).trans K56 (allS (Or.inr y3) (allS (Or.inr yw) all0))).trans K64 (allS (Or.inr y3) (allS (Or.inr yw) all0))).trans K74 (allS (Or.inr y3) all0)).trans K76 all0)
    exact own_retR X76 hx hlk hret rfl rfl rfl (hb hby d23_93) (by decide) (by decide) ⟨nd, S, rfl, N76, hdg, K, GS, yS, J1, J2, rS, GrS, yrS, J5, (own_len17 h16 Aq)⟩
  · have f77 := (f63.keep K64 (allS G3 (allS Gw all0)))
    refine own_virtual X64 hx hZ hown (wd hw 152 rfl) (wd hw 153 rfl) (wd hw 155 rfl) (wd hw 154 rfl) (wd hw 129 rfl) (wd hw 156 rfl) (by decide) rfl (a := b3) B5E (argsL := [(.int (93 : Int32))]) (rest := []) (rm27 l Z a0 hw [] b3 w0 16 (16 : Int32) (1 + nd + 1 + n) _ 93 zc T64.heap n0 Z64 SC hz0 f77 ⟨B5E, B5V, B5C, B5N, B5A, B5X⟩ rfl (by omega) (by decide) (by decide) G3 Gw nq19) 0 (by decide) (by decide) (by decide) (by decide) (by rw [hml]; rfl) pd_29 rfl rfl (Nat.le_of_eq rfl) (hb hby d23_51) rfl ?_
    intro v78 T78 L78 X78 hQ78
    obtain ⟨rfl, N78q, K78, SB6⟩ := hQ78
    have N78 := Fr.app N64 N78q
    show OG (T78.setTop (mkF m 54 _ [(.ref b3)]))
    have Z78 : n0 ≤ T78.heap.size := Nat.le_trans Z64 K78.1
    obtain ⟨B6E, B6V, B6C, B6N, B6A, B6X⟩ := SB6
    have f79 := (f77.keep K78 (allS G3 (allS Gw all0)))
    refine own_virtual X78 hx hZ hown (wd hw 223 rfl) (wd hw 224 rfl) (wd hw 226 rfl) (wd hw 225 rfl) (wd hw 129 rfl) (wd hw 227 rfl) (by decide) rfl (a := b3) B6E (argsL := []) (rest := []) (rm41 l Z a0 hw [] b3 w0 16 (16 : Int32) (1 + nd + 1 + n + 1) _ zc T78.heap n0 Z78 SC hz0 f79 ⟨B6E, B6V, B6C, B6N, B6A, B6X⟩ rfl (by omega) (by omega)) 0 (by decide) (by decide) (by decide) (by decide) (by rw [hml]; rfl) pd_32 rfl rfl (Nat.le_of_eq rfl) (hb hby d23_54) rfl ?_
    intro v80 T80 L80 X80 hQ80
    obtain ⟨S, rfl, N80q, K80, GS, yS0, J1, J2, rS, GrS, yrS0, J5, J6⟩ := hQ80
    have N80 := Fr.app N78 N80q
    show OG (T80.setTop (mkF m 57 _ [(.ref S)]))
    have Z80 : n0 ≤ T80.heap.size := Nat.le_trans Z78 K80.1
    have yS : h0.size ≤ S := Nat.le_trans (Nat.le_trans (Nat.le_trans (Nat.le_trans (Nat.le_trans (Nat.le_trans (Nat.le_trans (Nat.le_trans (Nat.le_trans (Nat.le_refl _) E3.1) K15.1) K24.1) K36.1) K54.1) K56.1) K64.1) K78.1) yS0
    have yrS : h0.size ≤ rS := Nat.le_trans (Nat.le_trans (Nat.le_trans (Nat.le_trans (Nat.le_trans (Nat.le_trans (Nat.le_trans (Nat.le_trans (Nat.le_trans (Nat.le_refl _) E3.1) K15.1) K24.1) K36.1) K54.1) K56.1) K64.1) K78.1) yrS0
    refine own_go (fun _ q => XS.astoreN X80.here hx rfl (hb hby d23_57) rfl rfl (l' := #[vR o, vR S]) rfl (XS.goto X80.here hx rfl (pc0 := 58) (pc' := 92) rfl (hb hby d23_58) (by decide) (by decide) (XS.aloadN X80.here hx rfl (hb hby d23_92) rfl rfl q))) ?_
    show OG (T80.setTop (mkF m 93 #[vR o, vR S] [(.ref S)]))
    have Aq := J6.weak (g' := own_txt lt nd X (some (n, gs))) own_txt1
    have K : Keep h0 T80.heap [] := ((((((((((Keep.refl h0 []).ext E3).trans K15 (allS (Or.inr y3) all0)).trans K24 (allS (Or.inr y3) (allS (Or.inr yw) all0))).trans K36 all0).trans K54 (allS (Or.inr y3) (allS (Or.inr yw) all0))).trans K56 (allS (Or.inr y3) (allS (Or.inr yw) all0))).trans K64 (allS (Or.inr y3) (allS (Or.inr yw) all0))).trans K78 (allS (Or.inr y3) (allS (Or.inr yw) all0))).trans K80 all0)
    exact own_retR X80 hx hlk hret rfl rfl rfl (hb hby d23_93) (by decide) (by decide) ⟨nd, S, rfl, N80, hdg, K, GS, yS, J1, J2, rS, GrS, yrS, J5, Aq⟩
def Q23b (Z : State) (o : Addr) (kd : Addr) (x : Int32) (X : Nat) (lt : Nat) (d1 : Addr) (d2 : Addr) (zc : Int32) (h0 : Heap) (n0 : Nat) (v : Option Value) (h : Heap) (L : List Loc) : Prop := ∃ (nd : Nat) (S : Addr), v = some (.ref S) ∧ Fr n0 L ∧ own_dig nd X ∧ Keep h0 h [] ∧ n0 ≤ S ∧ h0.size ≤ S ∧ Exa Z h S "java/lang/String" ∧ Fld Z h S "java/lang/String" "coder" "B" (.int 0) ∧ ∃ r : Addr, n0 ≤ r ∧ h0.size ≤ r ∧ Fld Z h S "java/lang/String" "value" "[B" (.ref r) ∧ own_By Z h r .byte (1 + nd) (own_txt lt nd X none)
theorem ef_23b (m : MethodId) (x0 : Addr) : entryFrame m #[(.ref x0)] 2 = mkF m 0 #[vR x0, .unset] [] := by first | (simp [entryFrame, mkF, argsToLocals, Value.category]; done) | rfl
set_option maxRecDepth 65536 in
set_option maxHeartbeats 40000000 in
theorem rm23b (l : Launch) (Z : State) (a0 : Array Value) (hw : ∀ d ∈ tables_1, d.before a0 Z = true) (ws : List Jvm.Cond) (o : Addr) (kd : Addr) (x : Int32) (X : Nat) (lt : Nat) (d1 : Addr) (d2 : Addr) (zc : Int32) (h0 : Heap) (n0 : Nat) (Z0 : n0 ≤ h0.size) (SC : Sta Z Z.heap "java/lang/String" "COMPACT_STRINGS" "Z" (.int zc)) (hz0 : ¬ zc = 0) (Od : Old Z n0 h0) (Eo : Exa Z h0 o "com/example/interleave/interleave/core/Operation") (Fo1 : Fld Z h0 o "com/example/interleave/interleave/core/Operation" "kind" "Lcom/example/interleave/interleave/core/Operation$Kind;" (.ref kd)) (Fo2 : Fld Z h0 o "com/example/interleave/interleave/core/Operation" "transaction" "I" (.int x)) (Ek : Exa Z Z.heap kd "com/example/interleave/interleave/core/Operation$Kind") (Fk : Fld Z Z.heap kd "com/example/interleave/interleave/core/Operation$Kind" "onItem" "Z" (.int 0)) (Fl : Fld Z Z.heap kd "com/example/interleave/interleave/core/Operation$Kind" "letter" "C" (.int (Int32.ofNat lt))) (hlt : lt < 128) (D1 : Sta Z Z.heap "java/lang/Integer" "DigitOnes" "[B" (.ref d1)) (B1 : own_By Z Z.heap d1 .byte 100 (fun j => some (48 + j % 10))) (D2 : Sta Z Z.heap "java/lang/Integer" "DigitTens" "[B" (.ref d2)) (B2 : own_By Z Z.heap d2 .byte 100 (fun j => some (48 + j / 10))) (hX : x.toInt = (X : Int)) (hX1 : 1 ≤ X)  :
    own_Met l Z (⟨"com/example/interleave/interleave/core/Operation", "toString", "()Ljava/lang/String;"⟩ : MethodName) prog_23_method_3_code 2 (some (.object "java/lang/String")) ({ frames := 6, cells := 7, slots := 90, locals := 110 } : Room) ws #[(.ref o)] h0 (Q23b Z o kd x X lt d1 d2 zc h0 n0) := by
  refine own_enter (plainFor_of_name (by first | (simp [plainName, overriddenIn]; done) | decide +kernel)) ?_
  intro p e s m below meth c s₁ hx hby hml hown hnm hlk hret hZ X0 e0
  have N0 := Fr.nil n0
  refine own_go (fun _ q => castTop (ef_23b m o) q) ?_
  show OG (s₁.setTop (mkF m 0 #[vR o, .unset] []))
  refine own_go (fun _ q => XS.aloadN X0.here hx rfl (hb hby d23_0) rfl rfl q) ?_
  show OG (s₁.setTop (mkF m 1 _ [(.ref o)]))
  obtain ⟨T1, X1, e1, st1⟩ := getF X0 hx hZ hown (host := "") (Or.inl (wd hw 116 rfl)) Via.refl e0 Fo1 (g := (mkF m 1 #[vR o, .unset] [(.ref o)])) rfl rfl (hb hby d23_1)
  refine own_go st1 ?_
  show OG (T1.setTop (mkF m 4 _ [(.ref kd)]))
  refine own_virtual X1 hx hZ hown (wd hw 66 rfl) (wd hw 67 rfl) (wd hw 69 rfl) (wd hw 68 rfl) (wd hw 1 rfl) (wd hw 70 rfl) (by decide) e1 (a := kd) (Ek.ext Od.2) (argsL := []) (rest := []) (rm12 l Z a0 hw [] kd 0 zc h0 n0 Z0 SC hz0 Od Fk (by decide)) 0 (by decide) (by decide) (by decide) (by decide) (by rw [hml]; rfl) pd_3 rfl rfl (Nat.le_of_eq rfl) (hb hby d23_4) rfl ?_
  intro v2 T2 L2 X2 hQ2
  obtain ⟨rfl, N2q, e2q⟩ := hQ2
  have N2 := Fr.app N0 N2q
  show OG (T2.setTop (mkF m 7 _ [(.int (0 : Int32))]))
  refine own_go (fun _ q => XS.ifYes X2.here hx rfl (pc0 := 7) (pc' := 61) rfl (hb hby d23_7) rfl ((if0 _ _).trans (teq (by decide : (0 : Int32) = (0 : Int32))).1) (by decide) (by decide) q) ?_
  show OG (T2.setTop (mkF m 61 #[vR o, .unset] []))
  obtain ⟨T3, h3, X3, e3, E3, A3, D3, -, st3⟩ := newO X2 hx hZ hown (wd hw 127 rfl) (wd hw 128 rfl) (wd hw 129 rfl) e2q (g := (mkF m 61 #[vR o, .unset] [])) rfl (hb hby d23_61) (by decide) (by decide)
  obtain ⟨b3, g3⟩ : ∃ z, z = h0.size := ⟨_, rfl⟩
  rw [← g3] at A3 D3 st3
  have nq4 : o ≠ b3 := Nat.ne_of_lt (Nat.lt_of_lt_of_eq (Eo).lt g3.symm)
  have G3 : n0 ≤ b3 := Nat.le_trans Z0 (Nat.le_of_eq g3.symm)
  have Z3 : n0 ≤ h3.size := Nat.le_trans Z0 E3.1
  have Fn3_value : Fld Z h3 b3 "java/lang/AbstractStringBuilder" "value" "[B" .null := D3 (Or.inl (wd hw 142 rfl)) (ty := (.array .byte)) (by decide)
  have Fn3_coder : Fld Z h3 b3 "java/lang/AbstractStringBuilder" "coder" "B" (.int (0 : Int32)) := D3 (Or.inl (wd hw 144 rfl)) (ty := .byte) (by decide)
  have Fn3_count : Fld Z h3 b3 "java/lang/AbstractStringBuilder" "count" "I" (.int (0 : Int32)) := D3 (Or.inl (wd hw 163 rfl)) (ty := .int) (by decide)
  have y3 : h0.size ≤ b3 := Nat.le_trans (Nat.le_refl _) (Nat.le_of_eq g3.symm)
  refine own_go st3 ?_
  show OG (T3.setTop (mkF m 64 _ [(.ref b3)]))
  refine own_go (fun _ q => XS.dup X3.here hx rfl (hb hby d23_64) rfl rfl q) ?_
  show OG (T3.setTop (mkF m 65 _ [(.ref b3), (.ref b3)]))
  have lt5 := A3.lt
  have f7 := (Eo.ext E3)
  have lt6 := f7.lt
  have ltb := A3.lt
  have f8 := (Od.ext E3)
  refine own_init X3 hx hZ rfl hown (wd hw 130 rfl) (wd hw 131 rfl) (wd hw 129 rfl) (wd hw 132 rfl) (by decide) e3 (a := b3) (argsL := []) (rest := [(.ref b3)]) (rm24 l Z a0 hw [] b3 zc h3 n0 Z3 SC hz0 f8 A3 Fn3_value Fn3_coder Fn3_count G3) 1 (by decide) (by decide) (by decide) (by decide) (by rw [hml]; rfl) pd_9 rfl rfl (Nat.le_of_eq rfl) (hb hby d23_65) rfl ?_
  intro v9 T9 L9 X9 hQ9
  obtain ⟨rfl, N9q, K9, w0, Gw, yw0, SB0⟩ := hQ9
  have N9 := Fr.app N2 N9q
  show OG (T9.setTop (mkF m 68 _ [(.ref b3)]))
  have yw : h0.size ≤ w0 := Nat.le_trans (Nat.le_trans (Nat.le_refl _) E3.1) yw0
  have Z9 : n0 ≤ T9.heap.size := Nat.le_trans Z3 K9.1
  have nq10 : o ≠ w0 := fun q => absurd (q ▸ lt6) (Nat.not_lt.mpr yw0)
  have nq11 : b3 ≠ w0 := fun q => absurd (q ▸ ltb) (Nat.not_lt.mpr yw0)
  have SB1 : own_SB Z T9.heap b3 w0 16 (Int32.ofNat 0) (fun _ => none) := SB0
  obtain ⟨B1E, B1V, B1C, B1N, B1A, B1X⟩ := SB1
  refine own_go (fun _ q => XS.aloadN X9.here hx rfl (hb hby d23_68) rfl rfl q) ?_
  show OG (T9.setTop (mkF m 69 #[vR o, .unset] [(.ref o), (.ref b3)]))
  have f13 := ((Fo1.ext E3).keep K9 (ninS nq4 nin0))
  obtain ⟨T12, X12, e12, st12⟩ := getF X9 hx hZ hown (host := "") (Or.inl (wd hw 116 rfl)) Via.refl rfl f13 (g := (mkF m 69 #[vR o, .unset] [(.ref o), (.ref b3)])) rfl rfl (hb hby d23_69)
  refine own_go st12 ?_
  show OG (T12.setTop (mkF m 72 _ [(.ref kd), (.ref b3)]))
  have f14 := (f8.keep K9 (allS G3 all0))
  refine own_virtual X12 hx hZ hown (wd hw 145 rfl) (wd hw 146 rfl) (wd hw 148 rfl) (wd hw 147 rfl) (wd hw 1 rfl) (wd hw 149 rfl) (by decide) e12 (a := kd) (Ek.ext f14.2) (argsL := []) (rest := [(.ref b3)]) (rm26 l Z a0 hw [] kd (Int32.ofNat lt) zc T9.heap n0 Z9 SC hz0 f14 Fl (own_narrow_char hlt)) 1 (by decide) (by decide) (by decide) (by decide) (by rw [hml]; rfl) pd_28 rfl rfl (Nat.le_of_eq rfl) (hb hby d23_72) rfl ?_
  intro v15 T15 L15 X15 hQ15
  obtain ⟨rfl, N15q, e15q⟩ := hQ15
  have N15 := Fr.app N9 N15q
  show OG (T15.setTop (mkF m 75 _ [(.int (Int32.ofNat lt)), (.ref b3)]))
  refine own_virtual X15 hx hZ hown (wd hw 152 rfl) (wd hw 153 rfl) (wd hw 155 rfl) (wd hw 154 rfl) (wd hw 129 rfl) (wd hw 156 rfl) (by decide) e15q (a := b3) B1E (argsL := [(.int (Int32.ofNat lt))]) (rest := []) (rm27 l Z a0 hw [] b3 w0 16 (16 : Int32) 0 _ lt zc T9.heap n0 Z9 SC hz0 f14 ⟨B1E, B1V, B1C, B1N, B1A, B1X⟩ rfl (by omega) (by decide) hlt G3 Gw nq11) 0 (by decide) (by decide) (by decide) (by decide) (by rw [hml]; rfl) pd_29 rfl rfl (Nat.le_of_eq rfl) (hb hby d23_75) rfl ?_
  intro v16 T16 L16 X16 hQ16
  obtain ⟨rfl, N16q, K16, SB2⟩ := hQ16
  have N16 := Fr.app N15 N16q
  show OG (T16.setTop (mkF m 78 _ [(.ref b3)]))
  have Z16 : n0 ≤ T16.heap.size := Nat.le_trans Z9 K16.1
  obtain ⟨B2E, B2V, B2C, B2N, B2A, B2X⟩ := SB2
  refine own_go (fun _ q => XS.aloadN X16.here hx rfl (hb hby d23_78) rfl rfl q) ?_
  show OG (T16.setTop (mkF m 79 _ [(.ref o), (.ref b3)]))
  have f18 := (((Fo2.ext E3).keep K9 (ninS nq4 nin0)).keep K16 (ninS nq4 (ninS nq10 nin0)))
  obtain ⟨T17, X17, e17, st17⟩ := getF X16 hx hZ hown (host := "") (Or.inl (wd hw 118 rfl)) Via.refl rfl f18 (g := (mkF m 79 #[vR o, .unset] [(.ref o), (.ref b3)])) rfl rfl (hb hby d23_79)
  refine own_go st17 ?_
  show OG (T17.setTop (mkF m 82 _ [(.int x), (.ref b3)]))
  have lt19 := B2E.lt
  have f21 := ((f7.keep K9).keep K16)
  have lt20 := f21.lt
  have lt22 := B2A.lt
  have f23 := (f14.keep K16 (allS G3 (allS Gw all0)))
  refine own_static X17 hx hZ hown (wd hw 177 rfl) (wd hw 178 rfl) (wd hw 179 rfl) (wd hw 180 rfl) (by decide) e17 (argsL := [(.int x)]) (rest := [(.ref b3)]) (rm32 l Z a0 hw [] x X d1 d2 zc T16.heap n0 Z16 SC hz0 f23 D1 B1 D2 B2 hX hX1) 1 (by decide) (by decide) (by decide) (by decide) (by rw [hml]; rfl) pd_30 rfl rfl (Nat.le_of_eq rfl) (hb hby d23_82) rfl ?_
  intro v24 T24 L24 X24 hQ24
  obtain ⟨nd, s1, rfl, N24q, hdg, K24, Gs, ys0, E1, C1, r1, Gr, yr0, V1, A1⟩ := hQ24
  have N24 := Fr.app N16 N24q
  show OG (T24.setTop (mkF m 85 _ [(.ref s1), (.ref b3)]))
  have Z24 : n0 ≤ T24.heap.size := Nat.le_trans Z16 K24.1
  have hdg' := hdg
  obtain ⟨q1, q2, q3, q4⟩ := hdg'
  have nq25 : b3 ≠ s1 := fun q => absurd (q ▸ lt19) (Nat.not_lt.mpr ys0)
  have nq26 : o ≠ s1 := fun q => absurd (q ▸ lt20) (Nat.not_lt.mpr ys0)
  have nq27 : w0 ≠ s1 := fun q => absurd (q ▸ lt22) (Nat.not_lt.mpr ys0)
  have nq28 : b3 ≠ r1 := fun q => absurd (q ▸ lt19) (Nat.not_lt.mpr yr0)
  have nq29 : o ≠ r1 := fun q => absurd (q ▸ lt20) (Nat.not_lt.mpr yr0)
  have nq30 : w0 ≠ r1 := fun q => absurd (q ▸ lt22) (Nat.not_lt.mpr yr0)
  have f31 := (B2E.keep K24)
  have f32 := (B2V.keep K24 nin0)
  have f33 := (B2C.keep K24 nin0)
  have f34 := (B2N.keep K24 nin0)
  have f35 := (B2A.keep K24 nin0)
  have f36 := (B2X.keep K24)
  have f37 := (f23.keep K24 all0)
  refine own_virtual X24 hx hZ hown (wd hw 193 rfl) (wd hw 194 rfl) (wd hw 196 rfl) (wd hw 195 rfl) (wd hw 129 rfl) (wd hw 197 rfl) (by decide) rfl (a := b3) f31 (argsL := [(.ref s1)]) (rest := []) (rm36 l Z a0 hw [] s1 r1 nd _ b3 w0 16 (16 : Int32) 1 _ zc T24.heap n0 Z24 SC hz0 f37 E1 C1 V1 A1 ⟨f31, f32, f33, f34, f35, f36⟩ rfl (by omega) (by decide) G3 Gw nq11 (Ne.symm nq25) (Ne.symm nq27) (Ne.symm nq30) (Ne.symm nq28)) 0 (by decide) (by decide) (by decide) (by decide) (by rw [hml]; rfl) pd_31 rfl rfl (Nat.le_of_eq rfl) (hb hby d23_85) rfl ?_
  intro v38 T38 L38 X38 hQ38
  obtain ⟨rfl, N38q, K38, SB3⟩ := hQ38
  have N38 := Fr.app N24 N38q
  show OG (T38.setTop (mkF m 88 _ [(.ref b3)]))
  have Z38 : n0 ≤ T38.heap.size := Nat.le_trans Z24 K38.1
  obtain ⟨B3E, B3V, B3C, B3N, B3A, B3X⟩ := SB3
  have f39 := (f37.keep K38 (allS G3 (allS Gw all0)))
  refine own_virtual X38 hx hZ hown (wd hw 223 rfl) (wd hw 224 rfl) (wd hw 226 rfl) (wd hw 225 rfl) (wd hw 129 rfl) (wd hw 227 rfl) (by decide) rfl (a := b3) B3E (argsL := []) (rest := []) (rm41 l Z a0 hw [] b3 w0 16 (16 : Int32) (1 + nd) _ zc T38.heap n0 Z38 SC hz0 f39 ⟨B3E, B3V, B3C, B3N, B3A, B3X⟩ rfl (by omega) (by omega)) 0 (by decide) (by decide) (by decide) (by decide) (by rw [hml]; rfl) pd_32 rfl rfl (Nat.le_of_eq rfl) (hb hby d23_88) rfl ?_
  intro v40 T40 L40 X40 hQ40
  obtain ⟨S, rfl, N40q, K40, GS, yS0, J1, J2, rS, GrS, yrS0, J5, J6⟩ := hQ40
  have N40 := Fr.app N38 N40q
  show OG (T40.setTop (mkF m 91 _ [(.ref S)]))
  have Z40 : n0 ≤ T40.heap.size := Nat.le_trans Z38 K40.1
  have yS : h0.size ≤ S := Nat.le_trans (Nat.le_trans (Nat.le_trans (Nat.le_trans (Nat.le_trans (Nat.le_trans (Nat.le_refl _) E3.1) K9.1) K16.1) K24.1) K38.1) yS0
  have yrS : h0.size ≤ rS := Nat.le_trans (Nat.le_trans (Nat.le_trans (Nat.le_trans (Nat.le_trans (Nat.le_trans (Nat.le_refl _) E3.1) K9.1) K16.1) K24.1) K38.1) yrS0
  refine own_go (fun _ q => XS.astoreN X40.here hx rfl (hb hby d23_91) rfl rfl (l' := #[vR o, vR S]) rfl (XS.aloadN X40.here hx rfl (hb hby d23_92) rfl rfl q)) ?_
  show OG (T40.setTop (mkF m 93 #[vR o, vR S] [(.ref S)]))
  have Aq := J6.weak (g' := own_txt lt nd X none) own_txt0
  have K : Keep h0 T40.heap [] := (((((((Keep.refl h0 []).ext E3).trans K9 (allS (Or.inr y3) all0)).trans K16 (allS (Or.inr y3) (allS (Or.inr yw) all0))).trans K24 all0).trans K38 (allS (Or.inr y3) (allS (Or.inr yw) all0))).trans K40 all0)
  exact own_retR X40 hx hlk hret rfl rfl rfl (hb hby d23_93) (by decide) (by decide) ⟨nd, S, rfl, N40, hdg, K, GS, yS, J1, J2, rS, GrS, yrS, J5, Aq⟩
abbrev C1 := method_3_code
theorem d1_0 : decode C1 0 = .ok (.iload_n 0, 1) := by decide +kernel
theorem d1_1 : decode C1 1 = .ok (.bipush 26, 2) := by decide +kernel
theorem d1_3 : decode C1 3 = .ok (.if_icmp .ge 9, 3) := by decide +kernel
theorem d1_6 : decode C1 6 = .ok (.bipush 97, 2) := by decide +kernel
theorem d1_8 : decode C1 8 = .ok (.iload_n 0, 1) := by decide +kernel
theorem d1_9 : decode C1 9 = .ok (.iadd, 1) := by decide +kernel
theorem d1_10 : decode C1 10 = .ok (.i2c, 1) := by decide +kernel
theorem d1_11 : decode C1 11 = .ok (.ireturn, 1) := by decide +kernel
theorem d1_12 : decode C1 12 = .ok (.iload_n 0, 1) := by decide +kernel
theorem d1_13 : decode C1 13 = .ok (.bipush 52, 2) := by decide +kernel
theorem d1_15 : decode C1 15 = .ok (.if_icmp .ge 12, 3) := by decide +kernel
theorem d1_18 : decode C1 18 = .ok (.bipush 65, 2) := by decide +kernel
theorem d1_20 : decode C1 20 = .ok (.iload_n 0, 1) := by decide +kernel
theorem d1_21 : decode C1 21 = .ok (.bipush 26, 2) := by decide +kernel
theorem d1_23 : decode C1 23 = .ok (.isub, 1) := by decide +kernel
theorem d1_24 : decode C1 24 = .ok (.iadd, 1) := by decide +kernel
theorem d1_25 : decode C1 25 = .ok (.i2c, 1) := by decide +kernel
theorem d1_26 : decode C1 26 = .ok (.ireturn, 1) := by decide +kernel
theorem d1_27 : decode C1 27 = .ok (.iload_n 0, 1) := by decide +kernel
theorem d1_28 : decode C1 28 = .ok (.bipush 62, 2) := by decide +kernel
theorem d1_30 : decode C1 30 = .ok (.if_icmp .ge 12, 3) := by decide +kernel
theorem d1_33 : decode C1 33 = .ok (.bipush 48, 2) := by decide +kernel
theorem d1_35 : decode C1 35 = .ok (.iload_n 0, 1) := by decide +kernel
theorem d1_36 : decode C1 36 = .ok (.bipush 52, 2) := by decide +kernel
theorem d1_38 : decode C1 38 = .ok (.isub, 1) := by decide +kernel
theorem d1_39 : decode C1 39 = .ok (.iadd, 1) := by decide +kernel
theorem d1_40 : decode C1 40 = .ok (.i2c, 1) := by decide +kernel
theorem d1_41 : decode C1 41 = .ok (.ireturn, 1) := by decide +kernel
theorem d1_42 : decode C1 42 = .ok (.iload_n 0, 1) := by decide +kernel
theorem d1_43 : decode C1 43 = .ok (.bipush 62, 2) := by decide +kernel
theorem d1_45 : decode C1 45 = .ok (.if_icmp .ne 6, 3) := by decide +kernel
theorem d1_48 : decode C1 48 = .ok (.bipush 95, 2) := by decide +kernel
theorem d1_50 : decode C1 50 = .ok (.ireturn, 1) := by decide +kernel
theorem d1_51 : decode C1 51 = .ok (.bipush 45, 2) := by decide +kernel
theorem d1_53 : decode C1 53 = .ok (.ireturn, 1) := by decide +kernel
def Q1 (Z : State) (vz : Int32) (h0 : Heap) (n0 : Nat) (v : Option Value) (h : Heap) (L : List Loc) : Prop := ∃ c : Nat, v = some (.int (Int32.ofNat c)) ∧ Fr n0 L ∧ h = h0 ∧ own_okc c
theorem ef_1 (m : MethodId) (x0 : Int32) : entryFrame m #[(.int x0)] 1 = mkF m 0 #[vI x0] [] := by first | (simp [entryFrame, mkF, argsToLocals, Value.category]; done) | rfl
set_option maxRecDepth 65536 in
set_option maxHeartbeats 40000000 in
theorem rm1 (l : Launch) (Z : State) (a0 : Array Value) (hw : ∀ d ∈ tables_1, d.before a0 Z = true) (ws : List Jvm.Cond) (vz : Int32) (h0 : Heap) (n0 : Nat) (Z0 : n0 ≤ h0.size) (hv0 : 0 ≤ vz.toInt) (hv1 : vz.toInt < 64) :
    own_Met l Z (⟨"com/example/interleave/interleave/core/OperationToStringPinLaw", "ch", "(I)C"⟩ : MethodName) method_3_code 1 (some .char) ({ frames := 0, cells := 0, slots := 0, locals := 0 } : Room) ws #[(.int vz)] h0 (Q1 Z vz h0 n0) := by
  refine own_enter (plainFor_of_name (by first | (simp [plainName, overriddenIn]; done) | decide +kernel)) ?_
  intro p e s m below meth c s₁ hx hby hml hown hnm hlk hret hZ X0 e0
  have N0 := Fr.nil n0
  refine own_go (fun _ q => castTop (ef_1 m vz) q) ?_
  show OG (s₁.setTop (mkF m 0 #[vI vz] []))
  obtain ⟨k, rfl⟩ := own_fin64 hv0 hv1
  show OG (s₁.setTop (mkF m 0 #[vI (Int32.ofNat k.1)] []))
  refine own_go (fun _ q => XS.iloadN X0.here hx rfl (hb hby d1_0) rfl (XS.bipush X0.here hx rfl (hb hby d1_1) q)) ?_
  show OG (s₁.setTop (mkF m 3 _ [(.int (26 : Int32)), (.int (Int32.ofNat k.1))]))
  by_cases hq1 : (Int32.ofNat k.1) < (26 : Int32)
  · refine own_go (fun _ q => XS.icmpNo X0.here hx rfl (hb hby d1_3) rfl (tlt hq1).2.1 q) ?_
    show OG (s₁.setTop (mkF m 6 #[vI (Int32.ofNat k.1)] []))
    refine own_go (fun _ q => XS.bipush X0.here hx rfl (hb hby d1_6) (XS.iloadN X0.here hx rfl (hb hby d1_8) rfl (XS.iadd X0.here hx rfl (hb hby d1_9) rfl (XS.i2c X0.here hx rfl (hb hby d1_10) rfl q)))) ?_
    show OG (s₁.setTop (mkF m 11 _ [(.int (((97 : Int32) + (Int32.ofNat k.1)).toUInt32.toUInt16.toUInt32.toInt32))]))
    rw [own_ch1 k hq1]
    show OG (s₁.setTop (mkF m 11 #[vI (Int32.ofNat k.1)] [(.int (Int32.ofNat (97 + k.1)))]))
    exact own_ret X0 hx hlk hret (own_narrow_char (own_okc_lt (own_okc_ch1 k hq1))) (Or.inl ⟨rfl, Or.inr (Or.inr (Or.inr (Or.inl rfl))), _, rfl⟩) (hb hby d1_11) (by decide) (by decide) ⟨_, rfl, N0, e0, own_okc_ch1 k hq1⟩
  · refine own_go (fun _ q => XS.icmpYes X0.here hx rfl (pc0 := 3) (pc' := 12) rfl (hb hby d1_3) rfl (flt hq1).2.1 (by decide) (by decide) q) ?_
    show OG (s₁.setTop (mkF m 12 #[vI (Int32.ofNat k.1)] []))
    refine own_go (fun _ q => XS.iloadN X0.here hx rfl (hb hby d1_12) rfl (XS.bipush X0.here hx rfl (hb hby d1_13) q)) ?_
    show OG (s₁.setTop (mkF m 15 _ [(.int (52 : Int32)), (.int (Int32.ofNat k.1))]))
    by_cases hq2 : (Int32.ofNat k.1) < (52 : Int32)
    · refine own_go (fun _ q => XS.icmpNo X0.here hx rfl (hb hby d1_15) rfl (tlt hq2).2.1 q) ?_
      show OG (s₁.setTop (mkF m 18 #[vI (Int32.ofNat k.1)] []))
      refine own_go (fun _ q => XS.bipush X0.here hx rfl (hb hby d1_18) (XS.iloadN X0.here hx rfl (hb hby d1_20) rfl (XS.bipush X0.here hx rfl (hb hby d1_21) (XS.isub X0.here hx rfl (hb hby d1_23) rfl (XS.iadd X0.here hx rfl (hb hby d1_24) rfl (XS.i2c X0.here hx rfl (hb hby d1_25) rfl q)))))) ?_
      show OG (s₁.setTop (mkF m 26 _ [(.int (((65 : Int32) + ((Int32.ofNat k.1) - (26 : Int32))).toUInt32.toUInt16.toUInt32.toInt32))]))
      rw [own_ch2 k hq1 hq2]
      show OG (s₁.setTop (mkF m 26 #[vI (Int32.ofNat k.1)] [(.int (Int32.ofNat (65 + (k.1 - 26))))]))
      exact own_ret X0 hx hlk hret (own_narrow_char (own_okc_lt (own_okc_ch2 k hq1 hq2))) (Or.inl ⟨rfl, Or.inr (Or.inr (Or.inr (Or.inl rfl))), _, rfl⟩) (hb hby d1_26) (by decide) (by decide) ⟨_, rfl, N0, e0, own_okc_ch2 k hq1 hq2⟩
    · refine own_go (fun _ q => XS.icmpYes X0.here hx rfl (pc0 := 15) (pc' := 27) rfl (hb hby d1_15) rfl (flt hq2).2.1 (by decide) (by decide) q) ?_
      show OG (s₁.setTop (mkF m 27 #[vI (Int32.ofNat k.1)] []))
      refine own_go (fun _ q => XS.iloadN X0.here hx rfl (hb hby d1_27) rfl (XS.bipush X0.here hx rfl (hb hby d1_28) q)) ?_
      show OG (s₁.setTop (mkF m 30 _ [(.int (62 : Int32)), (.int (Int32.ofNat k.1))]))
      by_cases hq3 : (Int32.ofNat k.1) < (62 : Int32)
      · refine own_go (fun _ q => XS.icmpNo X0.here hx rfl (hb hby d1_30) rfl (tlt hq3).2.1 q) ?_
        show OG (s₁.setTop (mkF m 33 #[vI (Int32.ofNat k.1)] []))
        refine own_go (fun _ q => XS.bipush X0.here hx rfl (hb hby d1_33) (XS.iloadN X0.here hx rfl (hb hby d1_35) rfl (XS.bipush X0.here hx rfl (hb hby d1_36) (XS.isub X0.here hx rfl (hb hby d1_38) rfl (XS.iadd X0.here hx rfl (hb hby d1_39) rfl (XS.i2c X0.here hx rfl (hb hby d1_40) rfl q)))))) ?_
        show OG (s₁.setTop (mkF m 41 _ [(.int (((48 : Int32) + ((Int32.ofNat k.1) - (52 : Int32))).toUInt32.toUInt16.toUInt32.toInt32))]))
        rw [own_ch3 k hq1 hq2 hq3]
        show OG (s₁.setTop (mkF m 41 #[vI (Int32.ofNat k.1)] [(.int (Int32.ofNat (48 + (k.1 - 52))))]))
        exact own_ret X0 hx hlk hret (own_narrow_char (own_okc_lt (own_okc_ch3 k hq1 hq2 hq3))) (Or.inl ⟨rfl, Or.inr (Or.inr (Or.inr (Or.inl rfl))), _, rfl⟩) (hb hby d1_41) (by decide) (by decide) ⟨_, rfl, N0, e0, own_okc_ch3 k hq1 hq2 hq3⟩
      · refine own_go (fun _ q => XS.icmpYes X0.here hx rfl (pc0 := 30) (pc' := 42) rfl (hb hby d1_30) rfl (flt hq3).2.1 (by decide) (by decide) q) ?_
        show OG (s₁.setTop (mkF m 42 #[vI (Int32.ofNat k.1)] []))
        refine own_go (fun _ q => XS.iloadN X0.here hx rfl (hb hby d1_42) rfl (XS.bipush X0.here hx rfl (hb hby d1_43) q)) ?_
        show OG (s₁.setTop (mkF m 45 _ [(.int (62 : Int32)), (.int (Int32.ofNat k.1))]))
        by_cases hq4 : (Int32.ofNat k.1) = (62 : Int32)
        · refine own_go (fun _ q => XS.icmpNo X0.here hx rfl (hb hby d1_45) rfl (teq hq4).2 q) ?_
          show OG (s₁.setTop (mkF m 48 #[vI (Int32.ofNat k.1)] []))
          refine own_go (fun _ q => XS.bipush X0.here hx rfl (hb hby d1_48) q) ?_
          show OG (s₁.setTop (mkF m 50 _ [(.int (95 : Int32))]))
          exact own_ret X0 hx hlk hret rfl (Or.inl ⟨rfl, Or.inr (Or.inr (Or.inr (Or.inl rfl))), _, rfl⟩) (hb hby d1_50) (by decide) (by decide) ⟨95, rfl, N0, e0, own_okc_lit95⟩
        · refine own_go (fun _ q => XS.icmpYes X0.here hx rfl (pc0 := 45) (pc' := 51) rfl (hb hby d1_45) rfl (feq hq4).2 (by decide) (by decide) q) ?_
          show OG (s₁.setTop (mkF m 51 #[vI (Int32.ofNat k.1)] []))
          refine own_go (fun _ q => XS.bipush X0.here hx rfl (hb hby d1_51) q) ?_
          show OG (s₁.setTop (mkF m 53 _ [(.int (45 : Int32))]))
          exact own_ret X0 hx hlk hret rfl (Or.inl ⟨rfl, Or.inr (Or.inr (Or.inr (Or.inl rfl))), _, rfl⟩) (hb hby d1_53) (by decide) (by decide) ⟨45, rfl, N0, e0, own_okc_lit45⟩
abbrev C51 := method_4_code
theorem d51_0 : decode C51 0 = .ok (.iload 4, 2) := by decide +kernel
theorem d51_2 : decode C51 2 = .ok (.iload_n 2, 1) := by decide +kernel
theorem d51_3 : decode C51 3 = .ok (.if_icmp .ge 26, 3) := by decide +kernel
theorem d51_6 : decode C51 6 = .ok (.aload_n 0, 1) := by decide +kernel
theorem d51_7 : decode C51 7 = .ok (.iconst 1, 1) := by decide +kernel
theorem d51_8 : decode C51 8 = .ok (.iload 4, 2) := by decide +kernel
theorem d51_10 : decode C51 10 = .ok (.iadd, 1) := by decide +kernel
theorem d51_11 : decode C51 11 = .ok (.bipush 48, 2) := by decide +kernel
theorem d51_13 : decode C51 13 = .ok (.iload_n 1, 1) := by decide +kernel
theorem d51_14 : decode C51 14 = .ok (.aload_n 3, 1) := by decide +kernel
theorem d51_15 : decode C51 15 = .ok (.iload_n 2, 1) := by decide +kernel
theorem d51_16 : decode C51 16 = .ok (.iconst 1, 1) := by decide +kernel
theorem d51_17 : decode C51 17 = .ok (.isub, 1) := by decide +kernel
theorem d51_18 : decode C51 18 = .ok (.iload 4, 2) := by decide +kernel
theorem d51_20 : decode C51 20 = .ok (.isub, 1) := by decide +kernel
theorem d51_21 : decode C51 21 = .ok (.iaload, 1) := by decide +kernel
theorem d51_22 : decode C51 22 = .ok (.idiv, 1) := by decide +kernel
theorem d51_23 : decode C51 23 = .ok (.bipush 10, 2) := by decide +kernel
theorem d51_25 : decode C51 25 = .ok (.irem, 1) := by decide +kernel
theorem d51_26 : decode C51 26 = .ok (.iadd, 1) := by decide +kernel
theorem d51_27 : decode C51 27 = .ok (.i2c, 1) := by decide +kernel
theorem d51_28 : decode C51 28 = .ok (.castore, 1) := by decide +kernel
theorem d51_29 : decode C51 29 = .ok (.return_, 1) := by decide +kernel
def Q51 (Z : State) (ea : Addr) (x : Int32) (X : Nat) (nd : Nat) (pa : Addr) (i : Nat) (g : Nat → Option Nat) (Fp : Nat → Value) (h0 : Heap) (n0 : Nat) (v : Option Value) (h : Heap) (L : List Loc) : Prop := v = none ∧ Fr n0 L ∧ Keep h0 h [ea] ∧ own_By Z h ea .char 17 (fun j => if j = 1 + i ∧ i < nd then some (48 + X / 10 ^ (nd - 1 - i) % 10) else g j)
theorem ef_51 (m : MethodId) (x0 : Addr) (x1 : Int32) (x2 : Int32) (x3 : Addr) (x4 : Int32) : entryFrame m #[(.ref x0), (.int x1), (.int x2), (.ref x3), (.int x4)] 5 = mkF m 0 #[vR x0, vI x1, vI x2, vR x3, vI x4] [] := by first | (simp [entryFrame, mkF, argsToLocals, Value.category]; done) | rfl
set_option maxRecDepth 65536 in
set_option maxHeartbeats 40000000 in
theorem rm51 (l : Launch) (Z : State) (a0 : Array Value) (hw : ∀ d ∈ tables_1, d.before a0 Z = true) (ws : List Jvm.Cond) (ea : Addr) (x : Int32) (X : Nat) (nd : Nat) (pa : Addr) (i : Nat) (g : Nat → Option Nat) (Fp : Nat → Value) (h0 : Heap) (n0 : Nat) (Z0 : n0 ≤ h0.size) (Ae : own_By Z h0 ea .char 17 g) (gea : n0 ≤ ea) (Ap : own_Ar Z h0 pa .int 10 Fp) (hP : ∀ k, k < 10 → Fp k = .int (Int32.ofNat (10 ^ k))) (hX : x.toInt = (X : Int)) (hnd : nd ≤ 10) (hi10 : i < 10) :
    own_Met l Z (⟨"com/example/interleave/interleave/core/OperationToStringPinLaw", "put", "([CII[II)V"⟩ : MethodName) method_4_code 5 none ({ frames := 0, cells := 0, slots := 0, locals := 0 } : Room) ws #[(.ref ea), (.int x), (.int (Int32.ofNat nd)), (.ref pa), (.int (Int32.ofNat i))] h0 (Q51 Z ea x X nd pa i g Fp h0 n0) := by
  refine own_enter (plainFor_of_name (by first | (simp [plainName, overriddenIn]; done) | decide +kernel)) ?_
  intro p e s m below meth c s₁ hx hby hml hown hnm hlk hret hZ X0 e0
  have N0 := Fr.nil n0
  refine own_go (fun _ q => castTop (ef_51 m ea x (Int32.ofNat nd) pa (Int32.ofNat i)) q) ?_
  show OG (s₁.setTop (mkF m 0 #[vR ea, vI x, vI (Int32.ofNat nd), vR pa, vI (Int32.ofNat i)] []))
  have hii := own_ofNatI (k := i) (by omega)
  have hnn := own_ofNatI (k := nd) (by omega)
  refine own_go (fun _ q => XS.iload X0.here hx rfl (hb hby d51_0) rfl (XS.iloadN X0.here hx rfl (hb hby d51_2) rfl q)) ?_
  show OG (s₁.setTop (mkF m 3 _ [(.int (Int32.ofNat nd)), (.int (Int32.ofNat i))]))
  by_cases hq : (Int32.ofNat i) < (Int32.ofNat nd)
  · refine own_go (fun _ q => XS.icmpNo X0.here hx rfl (hb hby d51_3) rfl (tlt hq).2.1 q) ?_
    show OG (s₁.setTop (mkF m 6 #[vR ea, vI x, vI (Int32.ofNat nd), vR pa, vI (Int32.ofNat i)] []))
    have hlt := own_ltI hq
    have hin : i < nd := by omega
    refine own_go (fun _ q => XS.aloadN X0.here hx rfl (hb hby d51_6) rfl rfl (XS.iconst X0.here hx rfl (hb hby d51_7) (XS.iload X0.here hx rfl (hb hby d51_8) rfl (XS.iadd X0.here hx rfl (hb hby d51_10) rfl (XS.bipush X0.here hx rfl (hb hby d51_11) (XS.iloadN X0.here hx rfl (hb hby d51_13) rfl (XS.aloadN X0.here hx rfl (hb hby d51_14) rfl rfl (XS.iloadN X0.here hx rfl (hb hby d51_15) rfl q)))))))) ?_
    show OG (s₁.setTop (mkF m 16 _ [(.int (Int32.ofNat nd)), (.ref pa), (.int x), (.int (48 : Int32)), (.int ((1 : Int32) + (Int32.ofNat i))), (.ref ea)]))
    refine own_go (fun _ q => XS.iconst X0.here hx rfl (hb hby d51_16) (XS.isub X0.here hx rfl (hb hby d51_17) rfl (XS.iload X0.here hx rfl (hb hby d51_18) rfl (XS.isub X0.here hx rfl (hb hby d51_20) rfl q)))) ?_
    show OG (s₁.setTop (mkF m 21 #[vR ea, vI x, vI (Int32.ofNat nd), vR pa, vI (Int32.ofNat i)] [(.int (((Int32.ofNat nd) - (1 : Int32)) - (Int32.ofNat i))), (.ref pa), (.int x), (.int (48 : Int32)), (.int ((1 : Int32) + (Int32.ofNat i))), (.ref ea)]))
    refine own_iaload X0 hx hZ e0 Ap (i := nd - 1 - i) (own_pidx hnn hii hin) (by omega) (hP _ (by omega)) (hb hby d51_21) rfl ?_
    show OG (s₁.setTop (mkF m 22 #[vR ea, vI x, vI (Int32.ofNat nd), vR pa, vI (Int32.ofNat i)] [(.int (Int32.ofNat (10 ^ (nd - 1 - i)))), (.int x), (.int (48 : Int32)), (.int ((1 : Int32) + (Int32.ofNat i))), (.ref ea)]))
    refine own_go (fun _ q => XS.idiv X0.here hx rfl (hb hby d51_22) rfl (own_p10ne (show nd - 1 - i < 10 by omega)) (XS.bipush X0.here hx rfl (hb hby d51_23) q)) ?_
    show OG (s₁.setTop (mkF m 25 _ [(.int (10 : Int32)), (.int (x / (Int32.ofNat (10 ^ (nd - 1 - i))))), (.int (48 : Int32)), (.int ((1 : Int32) + (Int32.ofNat i))), (.ref ea)]))
    refine own_go (fun _ q => iremM X0 hx rfl (hb hby d51_25) rfl (by decide) q) ?_
    show OG (s₁.setTop (mkF m 26 #[vR ea, vI x, vI (Int32.ofNat nd), vR pa, vI (Int32.ofNat i)] [(.int ((x / (Int32.ofNat (10 ^ (nd - 1 - i)))) % (10 : Int32))), (.int (48 : Int32)), (.int ((1 : Int32) + (Int32.ofNat i))), (.ref ea)]))
    refine own_go (fun _ q => XS.iadd X0.here hx rfl (hb hby d51_26) rfl (XS.i2c X0.here hx rfl (hb hby d51_27) rfl q)) ?_
    show OG (s₁.setTop (mkF m 28 _ [(.int (((48 : Int32) + ((x / (Int32.ofNat (10 ^ (nd - 1 - i)))) % (10 : Int32))).toUInt32.toUInt16.toUInt32.toInt32)), (.int ((1 : Int32) + (Int32.ofNat i))), (.ref ea)]))
    rw [own_putv hX (show nd - 1 - i < 10 by omega)]
    refine own_cstore (i := (1 + i)) (v := (48 + X / 10 ^ (nd - 1 - i) % 10)) X0 hx hZ e0 Ae (by omega) rfl (own_1pi hii (by omega)) (by omega) (hb hby d51_28) rfl ?_
    intro T1 h1 X1 e1 W1 A1
    have N1 := Fr.snoc X1 N0 gea
    have Z1 : n0 ≤ h1.size := by rw [W1.size]; exact Z0
    show OG (T1.setTop (mkF m 29 _ []))
    have Aq := A1.weak (g' := (fun j => if j = 1 + i ∧ i < nd then some (48 + X / 10 ^ (nd - 1 - i) % 10) else g j)) (own_gput hin)
    have K : Keep h0 h1 [ea] := ((Keep.refl h0 [ea]).wr W1 (Or.inl (List.mem_cons_self ..)))
    subst e1
    exact own_retV X1 hx hlk hret (hb hby d51_29) (by decide) (by decide) ⟨rfl, N1, K, Aq⟩
  · refine own_go (fun _ q => XS.icmpYes X0.here hx rfl (pc0 := 3) (pc' := 29) rfl (hb hby d51_3) rfl (flt hq).2.1 (by decide) (by decide) q) ?_
    show OG (s₁.setTop (mkF m 29 #[vR ea, vI x, vI (Int32.ofNat nd), vR pa, vI (Int32.ofNat i)] []))
    have hlt := own_nltI hq
    have Aq := Ae.weak (g' := (fun j => if j = 1 + i ∧ i < nd then some (48 + X / 10 ^ (nd - 1 - i) % 10) else g j)) (own_gputn (by omega))
    have K : Keep h0 h0 [ea] := (Keep.refl h0 [ea])
    subst e0
    exact own_retV X0 hx hlk hret (hb hby d51_29) (by decide) (by decide) ⟨rfl, N0, K, Aq⟩
abbrev C52 := method_5_code
theorem d52_0 : decode C52 0 = .ok (.iload_n 3, 1) := by decide +kernel
theorem d52_1 : decode C52 1 = .ok (.iload_n 2, 1) := by decide +kernel
theorem d52_2 : decode C52 2 = .ok (.if_icmp .ge 14, 3) := by decide +kernel
theorem d52_5 : decode C52 5 = .ok (.aload_n 0, 1) := by decide +kernel
theorem d52_6 : decode C52 6 = .ok (.iload_n 3, 1) := by decide +kernel
theorem d52_7 : decode C52 7 = .ok (.invokevirtual 60, 3) := by decide +kernel
theorem d52_10 : decode C52 10 = .ok (.aload_n 1, 1) := by decide +kernel
theorem d52_11 : decode C52 11 = .ok (.iload_n 3, 1) := by decide +kernel
theorem d52_12 : decode C52 12 = .ok (.caload, 1) := by decide +kernel
theorem d52_13 : decode C52 13 = .ok (.if_icmp .ne 7, 3) := by decide +kernel
theorem d52_16 : decode C52 16 = .ok (.iconst 1, 1) := by decide +kernel
theorem d52_17 : decode C52 17 = .ok (.goto 4, 3) := by decide +kernel
theorem d52_21 : decode C52 21 = .ok (.ireturn, 1) := by decide +kernel
def Q52 (Z : State) (a : Addr) (v_ : Addr) (N : Nat) (g : Nat → Option Nat) (ea : Addr) (i : Nat) (ge : Nat → Option Nat) (fv : Value) (zc : Int32) (h0 : Heap) (n0 : Nat) (v : Option Value) (h : Heap) (L : List Loc) : Prop := v = some (.int 1) ∧ Fr n0 L ∧ h = h0
theorem ef_52 (m : MethodId) (x0 : Addr) (x1 : Addr) (x2 : Int32) (x3 : Int32) : entryFrame m #[(.ref x0), (.ref x1), (.int x2), (.int x3)] 4 = mkF m 0 #[vR x0, vR x1, vI x2, vI x3] [] := by first | (simp [entryFrame, mkF, argsToLocals, Value.category]; done) | rfl
set_option maxRecDepth 65536 in
set_option maxHeartbeats 40000000 in
theorem rm52 (l : Launch) (Z : State) (a0 : Array Value) (hw : ∀ d ∈ tables_1, d.before a0 Z = true) (ws : List Jvm.Cond) (a : Addr) (v_ : Addr) (N : Nat) (g : Nat → Option Nat) (ea : Addr) (i : Nat) (ge : Nat → Option Nat) (fv : Value) (zc : Int32) (h0 : Heap) (n0 : Nat) (Z0 : n0 ≤ h0.size) (SC : Sta Z Z.heap "java/lang/String" "COMPACT_STRINGS" "Z" (.int zc)) (hz0 : ¬ zc = 0) (Od : Old Z n0 h0) (SF : Sta Z Z.heap "jdk/internal/util/Preconditions" "SIOOBE_FORMATTER" "Ljava/util/function/BiFunction;" fv) (hfv : fv.isRef = true) (Ea : Exa Z h0 a "java/lang/String") (Fc : Fld Z h0 a "java/lang/String" "coder" "B" (.int 0)) (Fv : Fld Z h0 a "java/lang/String" "value" "[B" (.ref v_)) (Av : own_By Z h0 v_ .byte N g) (Ae : own_By Z h0 ea .char 17 ge) (hN : N ≤ 17) (hi17 : i < 17) (hE : ∀ j, j < N → ∃ x, g j = some x ∧ ge j = some x ∧ x < 128) :
    own_Met l Z (⟨"com/example/interleave/interleave/core/OperationToStringPinLaw", "at", "(Ljava/lang/String;[CII)Z"⟩ : MethodName) method_5_code 4 (some .boolean) ({ frames := 4, cells := 0, slots := 0, locals := 58 } : Room) ws #[(.ref a), (.ref ea), (.int (Int32.ofNat N)), (.int (Int32.ofNat i))] h0 (Q52 Z a v_ N g ea i ge fv zc h0 n0) := by
  refine own_enter (plainFor_of_name (by first | (simp [plainName, overriddenIn]; done) | decide +kernel)) ?_
  intro p e s m below meth c s₁ hx hby hml hown hnm hlk hret hZ X0 e0
  have N0 := Fr.nil n0
  refine own_go (fun _ q => castTop (ef_52 m a ea (Int32.ofNat N) (Int32.ofNat i)) q) ?_
  show OG (s₁.setTop (mkF m 0 #[vR a, vR ea, vI (Int32.ofNat N), vI (Int32.ofNat i)] []))
  have hii := own_ofNatI (k := i) (by omega)
  have hmm := own_ofNatI (k := N) (by omega)
  refine own_go (fun _ q => XS.iloadN X0.here hx rfl (hb hby d52_0) rfl (XS.iloadN X0.here hx rfl (hb hby d52_1) rfl q)) ?_
  show OG (s₁.setTop (mkF m 2 _ [(.int (Int32.ofNat N)), (.int (Int32.ofNat i))]))
  by_cases hq : (Int32.ofNat i) < (Int32.ofNat N)
  · refine own_go (fun _ q => XS.icmpNo X0.here hx rfl (hb hby d52_2) rfl (tlt hq).2.1 q) ?_
    show OG (s₁.setTop (mkF m 5 #[vR a, vR ea, vI (Int32.ofNat N), vI (Int32.ofNat i)] []))
    have hlt := own_ltI hq
    obtain ⟨x, hx1, hx2, hx7⟩ := hE i (by omega)
    refine own_go (fun _ q => XS.aloadN X0.here hx rfl (hb hby d52_5) rfl rfl (XS.iloadN X0.here hx rfl (hb hby d52_6) rfl q)) ?_
    show OG (s₁.setTop (mkF m 7 _ [(.int (Int32.ofNat i)), (.ref a)]))
    refine own_virtual X0 hx hZ hown (wd hw 271 rfl) (wd hw 92 rfl) (wd hw 94 rfl) (wd hw 93 rfl) (wd hw 10 rfl) (wd hw 95 rfl) (by decide) e0 (a := a) Ea (argsL := [(.int (Int32.ofNat i))]) (rest := []) (rm17 l Z a0 hw [] a v_ N g (Int32.ofNat N) (Int32.ofNat i) i x fv zc h0 n0 Z0 SC hz0 Od SF hfv hmm hii (by omega) hx1 hx7 Ea Fc Fv Av) 0 (by decide) (by decide) (by decide) (by decide) (by rw [hml]; rfl) pd_6 rfl rfl (Nat.le_of_eq rfl) (hb hby d52_7) rfl ?_
    intro v1 T1 L1 X1 hQ1
    obtain ⟨rfl, N1q, e1q⟩ := hQ1
    have N1 := Fr.app N0 N1q
    show OG (T1.setTop (mkF m 10 _ [(.int (Int32.ofNat x))]))
    refine own_go (fun _ q => XS.aloadN X1.here hx rfl (hb hby d52_10) rfl rfl (XS.iloadN X1.here hx rfl (hb hby d52_11) rfl q)) ?_
    show OG (T1.setTop (mkF m 12 #[vR a, vR ea, vI (Int32.ofNat N), vI (Int32.ofNat i)] [(.int (Int32.ofNat i)), (.ref ea), (.int (Int32.ofNat x))]))
    refine own_cload (i := i) X1 hx hZ e1q Ae hii (by omega) hx2 (hb hby d52_12) rfl ?_
    show OG (T1.setTop (mkF m 13 #[vR a, vR ea, vI (Int32.ofNat N), vI (Int32.ofNat i)] [(.int (Int32.ofNat x)), (.int (Int32.ofNat x))]))
    refine own_go (fun _ q => XS.icmpNo X1.here hx rfl (hb hby d52_13) rfl (teq rfl).2 q) ?_
    show OG (T1.setTop (mkF m 16 #[vR a, vR ea, vI (Int32.ofNat N), vI (Int32.ofNat i)] []))
    refine own_go (fun _ q => XS.iconst X1.here hx rfl (hb hby d52_16) (XS.goto X1.here hx rfl (pc0 := 17) (pc' := 21) rfl (hb hby d52_17) (by decide) (by decide) q)) ?_
    show OG (T1.setTop (mkF m 21 _ [(.int (1 : Int32))]))
    exact own_retZ X1 hx hlk hret (hb hby d52_21) (by decide) (by decide) (by decide) ⟨rfl, N1, e1q⟩
  · refine own_go (fun _ q => XS.icmpYes X0.here hx rfl (pc0 := 2) (pc' := 16) rfl (hb hby d52_2) rfl (flt hq).2.1 (by decide) (by decide) q) ?_
    show OG (s₁.setTop (mkF m 16 #[vR a, vR ea, vI (Int32.ofNat N), vI (Int32.ofNat i)] []))
    refine own_go (fun _ q => XS.iconst X0.here hx rfl (hb hby d52_16) (XS.goto X0.here hx rfl (pc0 := 17) (pc' := 21) rfl (hb hby d52_17) (by decide) (by decide) q)) ?_
    show OG (s₁.setTop (mkF m 21 _ [(.int (1 : Int32))]))
    exact own_retZ X0 hx hlk hret (hb hby d52_21) (by decide) (by decide) (by decide) ⟨rfl, N0, e0⟩
def Q0 (Z : State) (p0 : Int32) (p1 : Int32) (p2 : Int32) (p3 : Int32) (kr : Addr) (kw : Addr) (kc : Addr) (ka : Addr) (d1 : Addr) (d2 : Addr) (fv : Value) (zc : Int32) (h0 : Heap) (n0 : Nat) (v : Option Value) (h : Heap) (L : List Loc) : Prop := v = some (.int 1) ∧ Fr n0 L
theorem ef_0 (m : MethodId) (x0 : Int32) (x1 : Int32) (x2 : Int32) (x3 : Int32) : entryFrame m #[(.int x0), (.int x1), (.int x2), (.int x3)] maxLocals = mkF m 0 #[vI x0, vI x1, vI x2, vI x3, .unset, .unset, .unset, .unset, .unset, .unset, .unset, .unset, .unset, .unset, .unset, .unset, .unset, .unset, .unset, .unset, .unset] [] := by first | (simp [entryFrame, mkF, argsToLocals, Value.category, maxLocals]; done) | rfl
set_option maxRecDepth 65536 in
set_option maxHeartbeats 40000000 in
theorem rm0 (l : Launch) (Z : State) (a0 : Array Value) (hw : ∀ d ∈ tables_1, d.before a0 Z = true) (ws : List Jvm.Cond) (p0 : Int32) (p1 : Int32) (p2 : Int32) (p3 : Int32) (kr : Addr) (kw : Addr) (kc : Addr) (ka : Addr) (d1 : Addr) (d2 : Addr) (fv : Value) (zc : Int32) (h0 : Heap) (n0 : Nat) (Z0 : n0 ≤ h0.size) (SC : Sta Z Z.heap "java/lang/String" "COMPACT_STRINGS" "Z" (.int zc)) (hz0 : ¬ zc = 0) (Od : Old Z n0 h0) (S_kr : Sta Z Z.heap "com/example/interleave/interleave/core/Operation$Kind" "READ" "Lcom/example/interleave/interleave/core/Operation$Kind;" (.ref kr)) (K_kr : Exa Z Z.heap kr "com/example/interleave/interleave/core/Operation$Kind" ∧ Fld Z Z.heap kr "com/example/interleave/interleave/core/Operation$Kind" "onItem" "Z" (.int 1) ∧ Fld Z Z.heap kr "com/example/interleave/interleave/core/Operation$Kind" "letter" "C" (.int (Int32.ofNat 114))) (S_kw : Sta Z Z.heap "com/example/interleave/interleave/core/Operation$Kind" "WRITE" "Lcom/example/interleave/interleave/core/Operation$Kind;" (.ref kw)) (K_kw : Exa Z Z.heap kw "com/example/interleave/interleave/core/Operation$Kind" ∧ Fld Z Z.heap kw "com/example/interleave/interleave/core/Operation$Kind" "onItem" "Z" (.int 1) ∧ Fld Z Z.heap kw "com/example/interleave/interleave/core/Operation$Kind" "letter" "C" (.int (Int32.ofNat 119))) (S_kc : Sta Z Z.heap "com/example/interleave/interleave/core/Operation$Kind" "COMMIT" "Lcom/example/interleave/interleave/core/Operation$Kind;" (.ref kc)) (K_kc : Exa Z Z.heap kc "com/example/interleave/interleave/core/Operation$Kind" ∧ Fld Z Z.heap kc "com/example/interleave/interleave/core/Operation$Kind" "onItem" "Z" (.int 0) ∧ Fld Z Z.heap kc "com/example/interleave/interleave/core/Operation$Kind" "letter" "C" (.int (Int32.ofNat 99))) (S_ka : Sta Z Z.heap "com/example/interleave/interleave/core/Operation$Kind" "ABORT" "Lcom/example/interleave/interleave/core/Operation$Kind;" (.ref ka)) (K_ka : Exa Z Z.heap ka "com/example/interleave/interleave/core/Operation$Kind" ∧ Fld Z Z.heap ka "com/example/interleave/interleave/core/Operation$Kind" "onItem" "Z" (.int 0) ∧ Fld Z Z.heap ka "com/example/interleave/interleave/core/Operation$Kind" "letter" "C" (.int (Int32.ofNat 97))) (D1 : Sta Z Z.heap "java/lang/Integer" "DigitOnes" "[B" (.ref d1)) (B1 : own_By Z Z.heap d1 .byte 100 (fun j => some (48 + j % 10))) (D2 : Sta Z Z.heap "java/lang/Integer" "DigitTens" "[B" (.ref d2)) (B2 : own_By Z Z.heap d2 .byte 100 (fun j => some (48 + j / 10))) (SF : Sta Z Z.heap "jdk/internal/util/Preconditions" "SIOOBE_FORMATTER" "Ljava/util/function/BiFunction;" fv) (hfv : fv.isRef = true)  :
    own_MetW l Z x code maxLocals ret room_1 ws #[(.int p0), (.int p1), (.int p2), (.int p3)] h0 (Q0 Z p0 p1 p2 p3 kr kw kc ka d1 d2 fv zc h0 n0) := by
  refine own_enterW (plainFor_of_name (by first | (simp [plainName, overriddenIn]; done) | decide +kernel)) ?_
  intro p e s m below meth c s₁ hx hby hml hown hnm hlk hret hZ X0 e0
  have N0 := Fr.nil n0
  refine own_go (fun _ q => castTop (ef_0 m p0 p1 p2 p3) q) ?_
  show OG (s₁.setTop (mkF m 0 #[vI p0, vI p1, vI p2, vI p3, .unset, .unset, .unset, .unset, .unset, .unset, .unset, .unset, .unset, .unset, .unset, .unset, .unset, .unset, .unset, .unset, .unset] []))
  have t691 : ∀ (vm1 : Vm) (k0 : Nat) (S rS ea : Addr) (N : Nat) (g : Nat → Option Nat) (sl0 sl1 sl2 sl3 sl4 sl5 sl6 sl7 sl8 sl9 sl10 sl11 sl12 sl13 sl14 sl15 sl16 sl18 : Slot) (Tq : State) (hhq : Heap) (locsq : List Loc), Stand p l e room_1 (s.setVm vm1) m #[(.int p0), (.int p1), (.int p2), (.int p3)] below meth c Tq locsq 40 1408 → s.Since vm1 k0 → Z.Warmed39 (s.setVm vm1).vm → (s.setVm vm1).vm.findClass "com/example/interleave/interleave/core/OperationToStringPinLaw" = some m.cls → Tq.heap = hhq → Fr n0 locsq → n0 ≤ hhq.size → k0 ≤ hhq.size → Old Z n0 hhq → Exa Z hhq S "java/lang/String" → Fld Z hhq S "java/lang/String" "coder" "B" (.int 0) → Fld Z hhq S "java/lang/String" "value" "[B" (.ref rS) → own_By Z hhq rS .byte N g → own_By Z hhq ea .char 17 g → N ≤ 17 → (∀ j, j < N → ∃ x, g j = some x ∧ g j = some x ∧ x < 128) → own_Go p e below (s, true) (Q0 Z p0 p1 p2 p3 kr kw kc ka d1 d2 fv zc h0 n0) room_1.cells room_1.slots (Tq.setTop (mkF m 691 #[sl0, sl1, sl2, sl3, sl4, sl5, sl6, sl7, sl8, sl9, sl10, sl11, sl12, sl13, sl14, sl15, sl16, vR ea, sl18, vR S, vI (Int32.ofNat N)] [])) := by
    intro vm1 k0 S rS ea N g sl0 sl1 sl2 sl3 sl4 sl5 sl6 sl7 sl8 sl9 sl10 sl11 sl12 sl13 sl14 sl15 sl16 sl18 Tq hhq locsq Xq_ hS0 hZ hown ehq Nlq Zhq hkq Ohq Esq Csq Vsq Asq Beq hN hE
    show OG (Tq.setTop (mkF m 691 #[sl0, sl1, sl2, sl3, sl4, sl5, sl6, sl7, sl8, sl9, sl10, sl11, sl12, sl13, sl14, sl15, sl16, vR ea, sl18, vR S, vI (Int32.ofNat N)] []))
    have hNi := own_ofNatI (k := N) (by omega)
    refine own_go (fun _ q => XS.aload Xq_.here hx rfl (hb hby at_691) rfl rfl (XS.ifnullNo Xq_.here hx rfl (hb hby at_693) rfl (XS.aload Xq_.here hx rfl (hb hby at_696) rfl rfl q))) ?_
    show OG (Tq.setTop (mkF m 698 _ [(.ref S)]))
    refine own_virtual Xq_ hx hZ hown (wd hw 267 rfl) (wd hw 82 rfl) (wd hw 84 rfl) (wd hw 83 rfl) (wd hw 10 rfl) (wd hw 85 rfl) (by decide) ehq (a := S) Esq (argsL := []) (rest := []) (rm15 l Z a0 hw [] S rS N g (Int32.ofNat N) zc hhq n0 Zhq SC hz0 Ohq Esq Csq Vsq Asq hNi) 0 (by decide) (by decide) (by decide) (by decide) (by rw [hml]; rfl) pd_5 rfl rfl (Nat.le_of_eq rfl) (hb hby at_698) rfl ?_
    intro v1 T1 L1 X1 hQ1
    obtain ⟨rfl, N1q, e1q⟩ := hQ1
    have N1 := Fr.app Nlq N1q
    show OG (T1.setTop (mkF m 701 _ [(.int (Int32.ofNat N))]))
    refine own_go (fun _ q => XS.iload X1.here hx rfl (hb hby at_701) rfl q) ?_
    show OG (T1.setTop (mkF m 703 #[sl0, sl1, sl2, sl3, sl4, sl5, sl6, sl7, sl8, sl9, sl10, sl11, sl12, sl13, sl14, sl15, sl16, vR ea, sl18, vR S, vI (Int32.ofNat N)] [(.int (Int32.ofNat N)), (.int (Int32.ofNat N))]))
    refine own_go (fun _ q => XS.icmpYes X1.here hx rfl (pc0 := 703) (pc' := 708) rfl (hb hby at_703) rfl (teq rfl).1 (by decide) (by decide) q) ?_
    show OG (T1.setTop (mkF m 708 _ []))
    refine own_go (fun _ q => XS.aload X1.here hx rfl (hb hby at_708) rfl rfl (XS.aload X1.here hx rfl (hb hby at_710) rfl rfl (XS.iload X1.here hx rfl (hb hby at_712) rfl (XS.iconst X1.here hx rfl (hb hby at_714) q)))) ?_
    show OG (T1.setTop (mkF m 715 _ [(.int (0 : Int32)), (.int (Int32.ofNat N)), (.ref ea), (.ref S)]))
    refine own_static X1 hx hZ hown (wd hw 268 rfl) (wd hw 269 rfl) (wd hw 6 rfl) (wd hw 270 rfl) (by decide) e1q (argsL := [(.ref S), (.ref ea), (.int (Int32.ofNat N)), (.int (0 : Int32))]) (rest := []) (rm52 l Z a0 hw [] S rS N g ea 0 g fv zc hhq n0 Zhq SC hz0 Ohq SF hfv Esq Csq Vsq Asq Beq hN (by decide) hE) 0 (by decide) (by decide) (by decide) (by decide) (by rw [hml]; rfl) pd_33 rfl rfl (Nat.le_of_eq rfl) (hb hby at_715) rfl ?_
    intro v2 T2 L2 X2 hQ2
    obtain ⟨rfl, N2q, e2q⟩ := hQ2
    have N2 := Fr.app N1 N2q
    show OG (T2.setTop (mkF m 718 _ [(.int (1 : Int32))]))
    refine own_go (fun _ q => XS.ifNo X2.here hx rfl (hb hby at_718) rfl ((if0 _ _).trans (feq (by decide : ¬ ((1 : Int32) = (0 : Int32)))).1) q) ?_
    show OG (T2.setTop (mkF m 721 _ []))
    refine own_go (fun _ q => XS.aload X2.here hx rfl (hb hby at_721) rfl rfl (XS.aload X2.here hx rfl (hb hby at_723) rfl rfl (XS.iload X2.here hx rfl (hb hby at_725) rfl (XS.iconst X2.here hx rfl (hb hby at_727) q)))) ?_
    show OG (T2.setTop (mkF m 728 #[sl0, sl1, sl2, sl3, sl4, sl5, sl6, sl7, sl8, sl9, sl10, sl11, sl12, sl13, sl14, sl15, sl16, vR ea, sl18, vR S, vI (Int32.ofNat N)] [(.int (1 : Int32)), (.int (Int32.ofNat N)), (.ref ea), (.ref S)]))
    refine own_static X2 hx hZ hown (wd hw 268 rfl) (wd hw 269 rfl) (wd hw 6 rfl) (wd hw 270 rfl) (by decide) e2q (argsL := [(.ref S), (.ref ea), (.int (Int32.ofNat N)), (.int (1 : Int32))]) (rest := []) (rm52 l Z a0 hw [] S rS N g ea 1 g fv zc hhq n0 Zhq SC hz0 Ohq SF hfv Esq Csq Vsq Asq Beq hN (by decide) hE) 0 (by decide) (by decide) (by decide) (by decide) (by rw [hml]; rfl) pd_33 rfl rfl (Nat.le_of_eq rfl) (hb hby at_728) rfl ?_
    intro v3 T3 L3 X3 hQ3
    obtain ⟨rfl, N3q, e3q⟩ := hQ3
    have N3 := Fr.app N2 N3q
    show OG (T3.setTop (mkF m 731 _ [(.int (1 : Int32))]))
    refine own_go (fun _ q => XS.ifNo X3.here hx rfl (hb hby at_731) rfl ((if0 _ _).trans (feq (by decide : ¬ ((1 : Int32) = (0 : Int32)))).1) q) ?_
    show OG (T3.setTop (mkF m 734 _ []))
    refine own_go (fun _ q => XS.aload X3.here hx rfl (hb hby at_734) rfl rfl (XS.aload X3.here hx rfl (hb hby at_736) rfl rfl (XS.iload X3.here hx rfl (hb hby at_738) rfl (XS.iconst X3.here hx rfl (hb hby at_740) q)))) ?_
    show OG (T3.setTop (mkF m 741 _ [(.int (2 : Int32)), (.int (Int32.ofNat N)), (.ref ea), (.ref S)]))
    refine own_static X3 hx hZ hown (wd hw 268 rfl) (wd hw 269 rfl) (wd hw 6 rfl) (wd hw 270 rfl) (by decide) e3q (argsL := [(.ref S), (.ref ea), (.int (Int32.ofNat N)), (.int (2 : Int32))]) (rest := []) (rm52 l Z a0 hw [] S rS N g ea 2 g fv zc hhq n0 Zhq SC hz0 Ohq SF hfv Esq Csq Vsq Asq Beq hN (by decide) hE) 0 (by decide) (by decide) (by decide) (by decide) (by rw [hml]; rfl) pd_33 rfl rfl (Nat.le_of_eq rfl) (hb hby at_741) rfl ?_
    intro v4 T4 L4 X4 hQ4
    obtain ⟨rfl, N4q, e4q⟩ := hQ4
    have N4 := Fr.app N3 N4q
    show OG (T4.setTop (mkF m 744 _ [(.int (1 : Int32))]))
    refine own_go (fun _ q => XS.ifNo X4.here hx rfl (hb hby at_744) rfl ((if0 _ _).trans (feq (by decide : ¬ ((1 : Int32) = (0 : Int32)))).1) q) ?_
    show OG (T4.setTop (mkF m 747 _ []))
    refine own_go (fun _ q => XS.aload X4.here hx rfl (hb hby at_747) rfl rfl (XS.aload X4.here hx rfl (hb hby at_749) rfl rfl (XS.iload X4.here hx rfl (hb hby at_751) rfl (XS.iconst X4.here hx rfl (hb hby at_753) q)))) ?_
    show OG (T4.setTop (mkF m 754 #[sl0, sl1, sl2, sl3, sl4, sl5, sl6, sl7, sl8, sl9, sl10, sl11, sl12, sl13, sl14, sl15, sl16, vR ea, sl18, vR S, vI (Int32.ofNat N)] [(.int (3 : Int32)), (.int (Int32.ofNat N)), (.ref ea), (.ref S)]))
    refine own_static X4 hx hZ hown (wd hw 268 rfl) (wd hw 269 rfl) (wd hw 6 rfl) (wd hw 270 rfl) (by decide) e4q (argsL := [(.ref S), (.ref ea), (.int (Int32.ofNat N)), (.int (3 : Int32))]) (rest := []) (rm52 l Z a0 hw [] S rS N g ea 3 g fv zc hhq n0 Zhq SC hz0 Ohq SF hfv Esq Csq Vsq Asq Beq hN (by decide) hE) 0 (by decide) (by decide) (by decide) (by decide) (by rw [hml]; rfl) pd_33 rfl rfl (Nat.le_of_eq rfl) (hb hby at_754) rfl ?_
    intro v5 T5 L5 X5 hQ5
    obtain ⟨rfl, N5q, e5q⟩ := hQ5
    have N5 := Fr.app N4 N5q
    show OG (T5.setTop (mkF m 757 _ [(.int (1 : Int32))]))
    refine own_go (fun _ q => XS.ifNo X5.here hx rfl (hb hby at_757) rfl ((if0 _ _).trans (feq (by decide : ¬ ((1 : Int32) = (0 : Int32)))).1) q) ?_
    show OG (T5.setTop (mkF m 760 _ []))
    refine own_go (fun _ q => XS.aload X5.here hx rfl (hb hby at_760) rfl rfl (XS.aload X5.here hx rfl (hb hby at_762) rfl rfl (XS.iload X5.here hx rfl (hb hby at_764) rfl (XS.iconst X5.here hx rfl (hb hby at_766) q)))) ?_
    show OG (T5.setTop (mkF m 767 _ [(.int (4 : Int32)), (.int (Int32.ofNat N)), (.ref ea), (.ref S)]))
    refine own_static X5 hx hZ hown (wd hw 268 rfl) (wd hw 269 rfl) (wd hw 6 rfl) (wd hw 270 rfl) (by decide) e5q (argsL := [(.ref S), (.ref ea), (.int (Int32.ofNat N)), (.int (4 : Int32))]) (rest := []) (rm52 l Z a0 hw [] S rS N g ea 4 g fv zc hhq n0 Zhq SC hz0 Ohq SF hfv Esq Csq Vsq Asq Beq hN (by decide) hE) 0 (by decide) (by decide) (by decide) (by decide) (by rw [hml]; rfl) pd_33 rfl rfl (Nat.le_of_eq rfl) (hb hby at_767) rfl ?_
    intro v6 T6 L6 X6 hQ6
    obtain ⟨rfl, N6q, e6q⟩ := hQ6
    have N6 := Fr.app N5 N6q
    show OG (T6.setTop (mkF m 770 _ [(.int (1 : Int32))]))
    refine own_go (fun _ q => XS.ifNo X6.here hx rfl (hb hby at_770) rfl ((if0 _ _).trans (feq (by decide : ¬ ((1 : Int32) = (0 : Int32)))).1) q) ?_
    show OG (T6.setTop (mkF m 773 _ []))
    refine own_go (fun _ q => XS.aload X6.here hx rfl (hb hby at_773) rfl rfl (XS.aload X6.here hx rfl (hb hby at_775) rfl rfl (XS.iload X6.here hx rfl (hb hby at_777) rfl (XS.iconst X6.here hx rfl (hb hby at_779) q)))) ?_
    show OG (T6.setTop (mkF m 780 #[sl0, sl1, sl2, sl3, sl4, sl5, sl6, sl7, sl8, sl9, sl10, sl11, sl12, sl13, sl14, sl15, sl16, vR ea, sl18, vR S, vI (Int32.ofNat N)] [(.int (5 : Int32)), (.int (Int32.ofNat N)), (.ref ea), (.ref S)]))
    refine own_static X6 hx hZ hown (wd hw 268 rfl) (wd hw 269 rfl) (wd hw 6 rfl) (wd hw 270 rfl) (by decide) e6q (argsL := [(.ref S), (.ref ea), (.int (Int32.ofNat N)), (.int (5 : Int32))]) (rest := []) (rm52 l Z a0 hw [] S rS N g ea 5 g fv zc hhq n0 Zhq SC hz0 Ohq SF hfv Esq Csq Vsq Asq Beq hN (by decide) hE) 0 (by decide) (by decide) (by decide) (by decide) (by rw [hml]; rfl) pd_33 rfl rfl (Nat.le_of_eq rfl) (hb hby at_780) rfl ?_
    intro v7 T7 L7 X7 hQ7
    obtain ⟨rfl, N7q, e7q⟩ := hQ7
    have N7 := Fr.app N6 N7q
    show OG (T7.setTop (mkF m 783 _ [(.int (1 : Int32))]))
    refine own_go (fun _ q => XS.ifNo X7.here hx rfl (hb hby at_783) rfl ((if0 _ _).trans (feq (by decide : ¬ ((1 : Int32) = (0 : Int32)))).1) q) ?_
    show OG (T7.setTop (mkF m 786 _ []))
    refine own_go (fun _ q => XS.aload X7.here hx rfl (hb hby at_786) rfl rfl (XS.aload X7.here hx rfl (hb hby at_788) rfl rfl (XS.iload X7.here hx rfl (hb hby at_790) rfl (XS.bipush X7.here hx rfl (hb hby at_792) q)))) ?_
    show OG (T7.setTop (mkF m 794 _ [(.int (6 : Int32)), (.int (Int32.ofNat N)), (.ref ea), (.ref S)]))
    refine own_static X7 hx hZ hown (wd hw 268 rfl) (wd hw 269 rfl) (wd hw 6 rfl) (wd hw 270 rfl) (by decide) e7q (argsL := [(.ref S), (.ref ea), (.int (Int32.ofNat N)), (.int (6 : Int32))]) (rest := []) (rm52 l Z a0 hw [] S rS N g ea 6 g fv zc hhq n0 Zhq SC hz0 Ohq SF hfv Esq Csq Vsq Asq Beq hN (by decide) hE) 0 (by decide) (by decide) (by decide) (by decide) (by rw [hml]; rfl) pd_33 rfl rfl (Nat.le_of_eq rfl) (hb hby at_794) rfl ?_
    intro v8 T8 L8 X8 hQ8
    obtain ⟨rfl, N8q, e8q⟩ := hQ8
    have N8 := Fr.app N7 N8q
    show OG (T8.setTop (mkF m 797 _ [(.int (1 : Int32))]))
    refine own_go (fun _ q => XS.ifNo X8.here hx rfl (hb hby at_797) rfl ((if0 _ _).trans (feq (by decide : ¬ ((1 : Int32) = (0 : Int32)))).1) q) ?_
    show OG (T8.setTop (mkF m 800 _ []))
    refine own_go (fun _ q => XS.aload X8.here hx rfl (hb hby at_800) rfl rfl (XS.aload X8.here hx rfl (hb hby at_802) rfl rfl (XS.iload X8.here hx rfl (hb hby at_804) rfl (XS.bipush X8.here hx rfl (hb hby at_806) q)))) ?_
    show OG (T8.setTop (mkF m 808 #[sl0, sl1, sl2, sl3, sl4, sl5, sl6, sl7, sl8, sl9, sl10, sl11, sl12, sl13, sl14, sl15, sl16, vR ea, sl18, vR S, vI (Int32.ofNat N)] [(.int (7 : Int32)), (.int (Int32.ofNat N)), (.ref ea), (.ref S)]))
    refine own_static X8 hx hZ hown (wd hw 268 rfl) (wd hw 269 rfl) (wd hw 6 rfl) (wd hw 270 rfl) (by decide) e8q (argsL := [(.ref S), (.ref ea), (.int (Int32.ofNat N)), (.int (7 : Int32))]) (rest := []) (rm52 l Z a0 hw [] S rS N g ea 7 g fv zc hhq n0 Zhq SC hz0 Ohq SF hfv Esq Csq Vsq Asq Beq hN (by decide) hE) 0 (by decide) (by decide) (by decide) (by decide) (by rw [hml]; rfl) pd_33 rfl rfl (Nat.le_of_eq rfl) (hb hby at_808) rfl ?_
    intro v9 T9 L9 X9 hQ9
    obtain ⟨rfl, N9q, e9q⟩ := hQ9
    have N9 := Fr.app N8 N9q
    show OG (T9.setTop (mkF m 811 _ [(.int (1 : Int32))]))
    refine own_go (fun _ q => XS.ifNo X9.here hx rfl (hb hby at_811) rfl ((if0 _ _).trans (feq (by decide : ¬ ((1 : Int32) = (0 : Int32)))).1) q) ?_
    show OG (T9.setTop (mkF m 814 _ []))
    refine own_go (fun _ q => XS.aload X9.here hx rfl (hb hby at_814) rfl rfl (XS.aload X9.here hx rfl (hb hby at_816) rfl rfl (XS.iload X9.here hx rfl (hb hby at_818) rfl (XS.bipush X9.here hx rfl (hb hby at_820) q)))) ?_
    show OG (T9.setTop (mkF m 822 _ [(.int (8 : Int32)), (.int (Int32.ofNat N)), (.ref ea), (.ref S)]))
    refine own_static X9 hx hZ hown (wd hw 268 rfl) (wd hw 269 rfl) (wd hw 6 rfl) (wd hw 270 rfl) (by decide) e9q (argsL := [(.ref S), (.ref ea), (.int (Int32.ofNat N)), (.int (8 : Int32))]) (rest := []) (rm52 l Z a0 hw [] S rS N g ea 8 g fv zc hhq n0 Zhq SC hz0 Ohq SF hfv Esq Csq Vsq Asq Beq hN (by decide) hE) 0 (by decide) (by decide) (by decide) (by decide) (by rw [hml]; rfl) pd_33 rfl rfl (Nat.le_of_eq rfl) (hb hby at_822) rfl ?_
    intro v10 T10 L10 X10 hQ10
    obtain ⟨rfl, N10q, e10q⟩ := hQ10
    have N10 := Fr.app N9 N10q
    show OG (T10.setTop (mkF m 825 _ [(.int (1 : Int32))]))
    refine own_go (fun _ q => XS.ifNo X10.here hx rfl (hb hby at_825) rfl ((if0 _ _).trans (feq (by decide : ¬ ((1 : Int32) = (0 : Int32)))).1) q) ?_
    show OG (T10.setTop (mkF m 828 _ []))
    refine own_go (fun _ q => XS.aload X10.here hx rfl (hb hby at_828) rfl rfl (XS.aload X10.here hx rfl (hb hby at_830) rfl rfl (XS.iload X10.here hx rfl (hb hby at_832) rfl (XS.bipush X10.here hx rfl (hb hby at_834) q)))) ?_
    show OG (T10.setTop (mkF m 836 #[sl0, sl1, sl2, sl3, sl4, sl5, sl6, sl7, sl8, sl9, sl10, sl11, sl12, sl13, sl14, sl15, sl16, vR ea, sl18, vR S, vI (Int32.ofNat N)] [(.int (9 : Int32)), (.int (Int32.ofNat N)), (.ref ea), (.ref S)]))
    refine own_static X10 hx hZ hown (wd hw 268 rfl) (wd hw 269 rfl) (wd hw 6 rfl) (wd hw 270 rfl) (by decide) e10q (argsL := [(.ref S), (.ref ea), (.int (Int32.ofNat N)), (.int (9 : Int32))]) (rest := []) (rm52 l Z a0 hw [] S rS N g ea 9 g fv zc hhq n0 Zhq SC hz0 Ohq SF hfv Esq Csq Vsq Asq Beq hN (by decide) hE) 0 (by decide) (by decide) (by decide) (by decide) (by rw [hml]; rfl) pd_33 rfl rfl (Nat.le_of_eq rfl) (hb hby at_836) rfl ?_
    intro v11 T11 L11 X11 hQ11
    obtain ⟨rfl, N11q, e11q⟩ := hQ11
    have N11 := Fr.app N10 N11q
    show OG (T11.setTop (mkF m 839 _ [(.int (1 : Int32))]))
    refine own_go (fun _ q => XS.ifNo X11.here hx rfl (hb hby at_839) rfl ((if0 _ _).trans (feq (by decide : ¬ ((1 : Int32) = (0 : Int32)))).1) q) ?_
    show OG (T11.setTop (mkF m 842 _ []))
    refine own_go (fun _ q => XS.aload X11.here hx rfl (hb hby at_842) rfl rfl (XS.aload X11.here hx rfl (hb hby at_844) rfl rfl (XS.iload X11.here hx rfl (hb hby at_846) rfl (XS.bipush X11.here hx rfl (hb hby at_848) q)))) ?_
    show OG (T11.setTop (mkF m 850 _ [(.int (10 : Int32)), (.int (Int32.ofNat N)), (.ref ea), (.ref S)]))
    refine own_static X11 hx hZ hown (wd hw 268 rfl) (wd hw 269 rfl) (wd hw 6 rfl) (wd hw 270 rfl) (by decide) e11q (argsL := [(.ref S), (.ref ea), (.int (Int32.ofNat N)), (.int (10 : Int32))]) (rest := []) (rm52 l Z a0 hw [] S rS N g ea 10 g fv zc hhq n0 Zhq SC hz0 Ohq SF hfv Esq Csq Vsq Asq Beq hN (by decide) hE) 0 (by decide) (by decide) (by decide) (by decide) (by rw [hml]; rfl) pd_33 rfl rfl (Nat.le_of_eq rfl) (hb hby at_850) rfl ?_
    intro v12 T12 L12 X12 hQ12
    obtain ⟨rfl, N12q, e12q⟩ := hQ12
    have N12 := Fr.app N11 N12q
    show OG (T12.setTop (mkF m 853 _ [(.int (1 : Int32))]))
    refine own_go (fun _ q => XS.ifNo X12.here hx rfl (hb hby at_853) rfl ((if0 _ _).trans (feq (by decide : ¬ ((1 : Int32) = (0 : Int32)))).1) q) ?_
    show OG (T12.setTop (mkF m 856 _ []))
    refine own_go (fun _ q => XS.aload X12.here hx rfl (hb hby at_856) rfl rfl (XS.aload X12.here hx rfl (hb hby at_858) rfl rfl (XS.iload X12.here hx rfl (hb hby at_860) rfl (XS.bipush X12.here hx rfl (hb hby at_862) q)))) ?_
    show OG (T12.setTop (mkF m 864 #[sl0, sl1, sl2, sl3, sl4, sl5, sl6, sl7, sl8, sl9, sl10, sl11, sl12, sl13, sl14, sl15, sl16, vR ea, sl18, vR S, vI (Int32.ofNat N)] [(.int (11 : Int32)), (.int (Int32.ofNat N)), (.ref ea), (.ref S)]))
    refine own_static X12 hx hZ hown (wd hw 268 rfl) (wd hw 269 rfl) (wd hw 6 rfl) (wd hw 270 rfl) (by decide) e12q (argsL := [(.ref S), (.ref ea), (.int (Int32.ofNat N)), (.int (11 : Int32))]) (rest := []) (rm52 l Z a0 hw [] S rS N g ea 11 g fv zc hhq n0 Zhq SC hz0 Ohq SF hfv Esq Csq Vsq Asq Beq hN (by decide) hE) 0 (by decide) (by decide) (by decide) (by decide) (by rw [hml]; rfl) pd_33 rfl rfl (Nat.le_of_eq rfl) (hb hby at_864) rfl ?_
    intro v13 T13 L13 X13 hQ13
    obtain ⟨rfl, N13q, e13q⟩ := hQ13
    have N13 := Fr.app N12 N13q
    show OG (T13.setTop (mkF m 867 _ [(.int (1 : Int32))]))
    refine own_go (fun _ q => XS.ifNo X13.here hx rfl (hb hby at_867) rfl ((if0 _ _).trans (feq (by decide : ¬ ((1 : Int32) = (0 : Int32)))).1) q) ?_
    show OG (T13.setTop (mkF m 870 _ []))
    refine own_go (fun _ q => XS.aload X13.here hx rfl (hb hby at_870) rfl rfl (XS.aload X13.here hx rfl (hb hby at_872) rfl rfl (XS.iload X13.here hx rfl (hb hby at_874) rfl (XS.bipush X13.here hx rfl (hb hby at_876) q)))) ?_
    show OG (T13.setTop (mkF m 878 _ [(.int (12 : Int32)), (.int (Int32.ofNat N)), (.ref ea), (.ref S)]))
    refine own_static X13 hx hZ hown (wd hw 268 rfl) (wd hw 269 rfl) (wd hw 6 rfl) (wd hw 270 rfl) (by decide) e13q (argsL := [(.ref S), (.ref ea), (.int (Int32.ofNat N)), (.int (12 : Int32))]) (rest := []) (rm52 l Z a0 hw [] S rS N g ea 12 g fv zc hhq n0 Zhq SC hz0 Ohq SF hfv Esq Csq Vsq Asq Beq hN (by decide) hE) 0 (by decide) (by decide) (by decide) (by decide) (by rw [hml]; rfl) pd_33 rfl rfl (Nat.le_of_eq rfl) (hb hby at_878) rfl ?_
    intro v14 T14 L14 X14 hQ14
    obtain ⟨rfl, N14q, e14q⟩ := hQ14
    have N14 := Fr.app N13 N14q
    show OG (T14.setTop (mkF m 881 _ [(.int (1 : Int32))]))
    refine own_go (fun _ q => XS.ifNo X14.here hx rfl (hb hby at_881) rfl ((if0 _ _).trans (feq (by decide : ¬ ((1 : Int32) = (0 : Int32)))).1) q) ?_
    show OG (T14.setTop (mkF m 884 _ []))
    refine own_go (fun _ q => XS.aload X14.here hx rfl (hb hby at_884) rfl rfl (XS.aload X14.here hx rfl (hb hby at_886) rfl rfl (XS.iload X14.here hx rfl (hb hby at_888) rfl (XS.bipush X14.here hx rfl (hb hby at_890) q)))) ?_
    show OG (T14.setTop (mkF m 892 #[sl0, sl1, sl2, sl3, sl4, sl5, sl6, sl7, sl8, sl9, sl10, sl11, sl12, sl13, sl14, sl15, sl16, vR ea, sl18, vR S, vI (Int32.ofNat N)] [(.int (13 : Int32)), (.int (Int32.ofNat N)), (.ref ea), (.ref S)]))
    refine own_static X14 hx hZ hown (wd hw 268 rfl) (wd hw 269 rfl) (wd hw 6 rfl) (wd hw 270 rfl) (by decide) e14q (argsL := [(.ref S), (.ref ea), (.int (Int32.ofNat N)), (.int (13 : Int32))]) (rest := []) (rm52 l Z a0 hw [] S rS N g ea 13 g fv zc hhq n0 Zhq SC hz0 Ohq SF hfv Esq Csq Vsq Asq Beq hN (by decide) hE) 0 (by decide) (by decide) (by decide) (by decide) (by rw [hml]; rfl) pd_33 rfl rfl (Nat.le_of_eq rfl) (hb hby at_892) rfl ?_
    intro v15 T15 L15 X15 hQ15
    obtain ⟨rfl, N15q, e15q⟩ := hQ15
    have N15 := Fr.app N14 N15q
    show OG (T15.setTop (mkF m 895 _ [(.int (1 : Int32))]))
    refine own_go (fun _ q => XS.ifNo X15.here hx rfl (hb hby at_895) rfl ((if0 _ _).trans (feq (by decide : ¬ ((1 : Int32) = (0 : Int32)))).1) q) ?_
    show OG (T15.setTop (mkF m 898 _ []))
    refine own_go (fun _ q => XS.aload X15.here hx rfl (hb hby at_898) rfl rfl (XS.aload X15.here hx rfl (hb hby at_900) rfl rfl (XS.iload X15.here hx rfl (hb hby at_902) rfl (XS.bipush X15.here hx rfl (hb hby at_904) q)))) ?_
    show OG (T15.setTop (mkF m 906 _ [(.int (14 : Int32)), (.int (Int32.ofNat N)), (.ref ea), (.ref S)]))
    refine own_static X15 hx hZ hown (wd hw 268 rfl) (wd hw 269 rfl) (wd hw 6 rfl) (wd hw 270 rfl) (by decide) e15q (argsL := [(.ref S), (.ref ea), (.int (Int32.ofNat N)), (.int (14 : Int32))]) (rest := []) (rm52 l Z a0 hw [] S rS N g ea 14 g fv zc hhq n0 Zhq SC hz0 Ohq SF hfv Esq Csq Vsq Asq Beq hN (by decide) hE) 0 (by decide) (by decide) (by decide) (by decide) (by rw [hml]; rfl) pd_33 rfl rfl (Nat.le_of_eq rfl) (hb hby at_906) rfl ?_
    intro v16 T16 L16 X16 hQ16
    obtain ⟨rfl, N16q, e16q⟩ := hQ16
    have N16 := Fr.app N15 N16q
    show OG (T16.setTop (mkF m 909 _ [(.int (1 : Int32))]))
    refine own_go (fun _ q => XS.ifNo X16.here hx rfl (hb hby at_909) rfl ((if0 _ _).trans (feq (by decide : ¬ ((1 : Int32) = (0 : Int32)))).1) q) ?_
    show OG (T16.setTop (mkF m 912 _ []))
    refine own_go (fun _ q => XS.aload X16.here hx rfl (hb hby at_912) rfl rfl (XS.aload X16.here hx rfl (hb hby at_914) rfl rfl (XS.iload X16.here hx rfl (hb hby at_916) rfl (XS.bipush X16.here hx rfl (hb hby at_918) q)))) ?_
    show OG (T16.setTop (mkF m 920 #[sl0, sl1, sl2, sl3, sl4, sl5, sl6, sl7, sl8, sl9, sl10, sl11, sl12, sl13, sl14, sl15, sl16, vR ea, sl18, vR S, vI (Int32.ofNat N)] [(.int (15 : Int32)), (.int (Int32.ofNat N)), (.ref ea), (.ref S)]))
    refine own_static X16 hx hZ hown (wd hw 268 rfl) (wd hw 269 rfl) (wd hw 6 rfl) (wd hw 270 rfl) (by decide) e16q (argsL := [(.ref S), (.ref ea), (.int (Int32.ofNat N)), (.int (15 : Int32))]) (rest := []) (rm52 l Z a0 hw [] S rS N g ea 15 g fv zc hhq n0 Zhq SC hz0 Ohq SF hfv Esq Csq Vsq Asq Beq hN (by decide) hE) 0 (by decide) (by decide) (by decide) (by decide) (by rw [hml]; rfl) pd_33 rfl rfl (Nat.le_of_eq rfl) (hb hby at_920) rfl ?_
    intro v17 T17 L17 X17 hQ17
    obtain ⟨rfl, N17q, e17q⟩ := hQ17
    have N17 := Fr.app N16 N17q
    show OG (T17.setTop (mkF m 923 _ [(.int (1 : Int32))]))
    refine own_go (fun _ q => XS.ifNo X17.here hx rfl (hb hby at_923) rfl ((if0 _ _).trans (feq (by decide : ¬ ((1 : Int32) = (0 : Int32)))).1) q) ?_
    show OG (T17.setTop (mkF m 926 _ []))
    refine own_go (fun _ q => XS.aload X17.here hx rfl (hb hby at_926) rfl rfl (XS.aload X17.here hx rfl (hb hby at_928) rfl rfl (XS.iload X17.here hx rfl (hb hby at_930) rfl (XS.bipush X17.here hx rfl (hb hby at_932) q)))) ?_
    show OG (T17.setTop (mkF m 934 _ [(.int (16 : Int32)), (.int (Int32.ofNat N)), (.ref ea), (.ref S)]))
    refine own_static X17 hx hZ hown (wd hw 268 rfl) (wd hw 269 rfl) (wd hw 6 rfl) (wd hw 270 rfl) (by decide) e17q (argsL := [(.ref S), (.ref ea), (.int (Int32.ofNat N)), (.int (16 : Int32))]) (rest := []) (rm52 l Z a0 hw [] S rS N g ea 16 g fv zc hhq n0 Zhq SC hz0 Ohq SF hfv Esq Csq Vsq Asq Beq hN (by decide) hE) 0 (by decide) (by decide) (by decide) (by decide) (by rw [hml]; rfl) pd_33 rfl rfl (Nat.le_of_eq rfl) (hb hby at_934) rfl ?_
    intro v18 T18 L18 X18 hQ18
    obtain ⟨rfl, N18q, e18q⟩ := hQ18
    have N18 := Fr.app N17 N18q
    show OG (T18.setTop (mkF m 937 _ [(.int (1 : Int32))]))
    refine own_go (fun _ q => XS.ifNo X18.here hx rfl (hb hby at_937) rfl ((if0 _ _).trans (feq (by decide : ¬ ((1 : Int32) = (0 : Int32)))).1) q) ?_
    show OG (T18.setTop (mkF m 940 _ []))
    refine own_go (fun _ q => XS.iconst X18.here hx rfl (hb hby at_940) (XS.goto X18.here hx rfl (pc0 := 941) (pc' := 945) rfl (hb hby at_941) (by decide) (by decide) q)) ?_
    show OG (T18.setTop (mkF m 945 #[sl0, sl1, sl2, sl3, sl4, sl5, sl6, sl7, sl8, sl9, sl10, sl11, sl12, sl13, sl14, sl15, sl16, vR ea, sl18, vR S, vI (Int32.ofNat N)] [(.int (1 : Int32))]))
    have hkf : k0 ≤ T18.heap.size := by rw [e18q]; exact hkq
    exact own_retWZ X18 hS0 hkf hx hlk hret (hb hby at_945) (Or.inr rfl) (by decide) (by decide) ⟨rfl, N18⟩
  refine own_go (fun _ q => XS.iloadN X0.here hx rfl (hb hby at_0) rfl (XS.iconst X0.here hx rfl (hb hby at_1) (XS.iand X0.here hx rfl (hb hby at_2) rfl (XS.istore X0.here hx rfl (hb hby at_3) rfl (l' := #[vI p0, vI p1, vI p2, vI p3, vI (p0 &&& (3 : Int32)), .unset, .unset, .unset, .unset, .unset, .unset, .unset, .unset, .unset, .unset, .unset, .unset, .unset, .unset, .unset, .unset]) rfl (XS.iload X0.here hx rfl (hb hby at_5) rfl q))))) ?_
  show OG (s₁.setTop (mkF m 7 #[vI p0, vI p1, vI p2, vI p3, vI (p0 &&& (3 : Int32)), .unset, .unset, .unset, .unset, .unset, .unset, .unset, .unset, .unset, .unset, .unset, .unset, .unset, .unset, .unset, .unset] [(.int (p0 &&& (3 : Int32)))]))
  have tail1 : ∀ (kd : Addr) (lt : Nat) (T : State), Exa Z Z.heap kd "com/example/interleave/interleave/core/Operation$Kind" ∧ Fld Z Z.heap kd "com/example/interleave/interleave/core/Operation$Kind" "onItem" "Z" (.int 1) ∧ Fld Z Z.heap kd "com/example/interleave/interleave/core/Operation$Kind" "letter" "C" (.int (Int32.ofNat lt)) → lt < 128 → Stand p l e room_1 s m #[(.int p0), (.int p1), (.int p2), (.int p3)] below meth c T [] 0 0 → T.heap = h0 → own_Go p e below (s, true) (Q0 Z p0 p1 p2 p3 kr kw kc ka d1 d2 fv zc h0 n0) room_1.cells room_1.slots (T.setTop (mkF m 80 #[vI p0, vI p1, vI p2, vI p3, vI (p0 &&& (3 : Int32)), vR kd, vI (Int32.ofNat lt), vI (1 : Int32), .unset, .unset, .unset, .unset, .unset, .unset, .unset, .unset, .unset, .unset, .unset, .unset, .unset] [])) := by
    intro kd lt T hK hlt X_ eh
    obtain ⟨Ek, Fk, Fl⟩ := hK
    show OG (T.setTop (mkF m 80 #[vI p0, vI p1, vI p2, vI p3, vI (p0 &&& (3 : Int32)), vR kd, vI (Int32.ofNat lt), vI (1 : Int32), .unset, .unset, .unset, .unset, .unset, .unset, .unset, .unset, .unset, .unset, .unset, .unset, .unset] []))
    refine own_go (fun _ q => XS.iloadN X_.here hx rfl (hb hby at_80) rfl q) ?_
    show OG (T.setTop (mkF m 81 _ [(.int p1)]))
    refine own_go (X_.ldcInt hx hown (mvT hZ (wd hw 3 rfl)) (g := (mkF m 81 #[vI p0, vI p1, vI p2, vI p3, vI (p0 &&& (3 : Int32)), vR kd, vI (Int32.ofNat lt), vI (1 : Int32), .unset, .unset, .unset, .unset, .unset, .unset, .unset, .unset, .unset, .unset, .unset, .unset, .unset] [(.int p1)])) rfl (hb hby at_81)) ?_
    show OG (T.setTop (mkF m 83 #[vI p0, vI p1, vI p2, vI p3, vI (p0 &&& (3 : Int32)), vR kd, vI (Int32.ofNat lt), vI (1 : Int32), .unset, .unset, .unset, .unset, .unset, .unset, .unset, .unset, .unset, .unset, .unset, .unset, .unset] [(.int (2147483647 : Int32)), (.int p1)]))
    refine own_go (fun _ q => XS.iand X_.here hx rfl (hb hby at_83) rfl (XS.istore X_.here hx rfl (hb hby at_84) rfl (l' := #[vI p0, vI p1, vI p2, vI p3, vI (p0 &&& (3 : Int32)), vR kd, vI (Int32.ofNat lt), vI (1 : Int32), vI (p1 &&& (2147483647 : Int32)), .unset, .unset, .unset, .unset, .unset, .unset, .unset, .unset, .unset, .unset, .unset, .unset]) rfl (XS.iload X_.here hx rfl (hb hby at_86) rfl q))) ?_
    show OG (T.setTop (mkF m 88 #[vI p0, vI p1, vI p2, vI p3, vI (p0 &&& (3 : Int32)), vR kd, vI (Int32.ofNat lt), vI (1 : Int32), vI (p1 &&& (2147483647 : Int32)), .unset, .unset, .unset, .unset, .unset, .unset, .unset, .unset, .unset, .unset, .unset, .unset] [(.int (p1 &&& (2147483647 : Int32)))]))
    have tx : ∀ (x : Int32) (X : Nat), x.toInt = (X : Int) → 1 ≤ X → own_Go p e below (s, true) (Q0 Z p0 p1 p2 p3 kr kw kc ka d1 d2 fv zc h0 n0) room_1.cells room_1.slots (T.setTop (mkF m 94 #[vI p0, vI p1, vI p2, vI p3, vI (p0 &&& (3 : Int32)), vR kd, vI (Int32.ofNat lt), vI (1 : Int32), vI x, .unset, .unset, .unset, .unset, .unset, .unset, .unset, .unset, .unset, .unset, .unset, .unset] [])) := by
      intro x X hX hX1
      show OG (T.setTop (mkF m 94 #[vI p0, vI p1, vI p2, vI p3, vI (p0 &&& (3 : Int32)), vR kd, vI (Int32.ofNat lt), vI (1 : Int32), vI x, .unset, .unset, .unset, .unset, .unset, .unset, .unset, .unset, .unset, .unset, .unset, .unset] []))
      refine own_go (fun _ q => XS.iloadN X_.here hx rfl (hb hby at_94) rfl (XS.iconst X_.here hx rfl (hb hby at_95) (XS.iand X_.here hx rfl (hb hby at_96) rfl (XS.iconst X_.here hx rfl (hb hby at_97) (XS.iadd X_.here hx rfl (hb hby at_98) rfl (XS.istore X_.here hx rfl (hb hby at_99) rfl (l' := #[vI p0, vI p1, vI p2, vI p3, vI (p0 &&& (3 : Int32)), vR kd, vI (Int32.ofNat lt), vI (1 : Int32), vI x, vI ((p2 &&& (3 : Int32)) + (1 : Int32)), .unset, .unset, .unset, .unset, .unset, .unset, .unset, .unset, .unset, .unset, .unset]) rfl (XS.iloadN X_.here hx rfl (hb hby at_101) rfl (XS.bipush X_.here hx rfl (hb hby at_102) q)))))))) ?_
      show OG (T.setTop (mkF m 104 #[vI p0, vI p1, vI p2, vI p3, vI (p0 &&& (3 : Int32)), vR kd, vI (Int32.ofNat lt), vI (1 : Int32), vI x, vI ((p2 &&& (3 : Int32)) + (1 : Int32)), .unset, .unset, .unset, .unset, .unset, .unset, .unset, .unset, .unset, .unset, .unset] [(.int (63 : Int32)), (.int p3)]))
      refine own_go (fun _ q => XS.iand X_.here hx rfl (hb hby at_104) rfl q) ?_
      show OG (T.setTop (mkF m 105 _ [(.int (p3 &&& (63 : Int32)))]))
      refine own_static X_ hx hZ hown (wd hw 4 rfl) (wd hw 5 rfl) (wd hw 6 rfl) (wd hw 7 rfl) (by decide) eh (argsL := [(.int (p3 &&& (63 : Int32)))]) (rest := []) (rm1 l Z a0 hw [] (p3 &&& (63 : Int32)) h0 n0 Z0 (own_m63 _).1 (own_m63 _).2) 0 (by decide) (by decide) (by decide) (by decide) (by rw [hml]; rfl) pd_6 rfl rfl (Nat.le_of_eq rfl) (hb hby at_105) rfl ?_
      intro v19 T19 L19 X19 hQ19
      obtain ⟨c0, rfl, N19q, e19q, hc0⟩ := hQ19
      have N19 := Fr.app N0 N19q
      show OG (T19.setTop (mkF m 108 _ [(.int (Int32.ofNat c0))]))
      refine own_go (fun _ q => XS.istore X19.here hx rfl (hb hby at_108) rfl (l' := #[vI p0, vI p1, vI p2, vI p3, vI (p0 &&& (3 : Int32)), vR kd, vI (Int32.ofNat lt), vI (1 : Int32), vI x, vI ((p2 &&& (3 : Int32)) + (1 : Int32)), vI (Int32.ofNat c0), .unset, .unset, .unset, .unset, .unset, .unset, .unset, .unset, .unset, .unset]) rfl (XS.iloadN X19.here hx rfl (hb hby at_110) rfl (XS.bipush X19.here hx rfl (hb hby at_111) (XS.iushr X19.here hx rfl (hb hby at_113) rfl (XS.bipush X19.here hx rfl (hb hby at_114) (XS.iand X19.here hx rfl (hb hby at_116) rfl q)))))) ?_
      show OG (T19.setTop (mkF m 117 #[vI p0, vI p1, vI p2, vI p3, vI (p0 &&& (3 : Int32)), vR kd, vI (Int32.ofNat lt), vI (1 : Int32), vI x, vI ((p2 &&& (3 : Int32)) + (1 : Int32)), vI (Int32.ofNat c0), .unset, .unset, .unset, .unset, .unset, .unset, .unset, .unset, .unset, .unset] [(.int (((p3.toUInt32 >>> ((6 : Int32) &&& 31).toUInt32).toInt32) &&& (63 : Int32)))]))
      refine own_static X19 hx hZ hown (wd hw 4 rfl) (wd hw 5 rfl) (wd hw 6 rfl) (wd hw 7 rfl) (by decide) e19q (argsL := [(.int (((p3.toUInt32 >>> ((6 : Int32) &&& 31).toUInt32).toInt32) &&& (63 : Int32)))]) (rest := []) (rm1 l Z a0 hw [] (((p3.toUInt32 >>> ((6 : Int32) &&& 31).toUInt32).toInt32) &&& (63 : Int32)) h0 n0 Z0 (own_m63 _).1 (own_m63 _).2) 0 (by decide) (by decide) (by decide) (by decide) (by rw [hml]; rfl) pd_6 rfl rfl (Nat.le_of_eq rfl) (hb hby at_117) rfl ?_
      intro v20 T20 L20 X20 hQ20
      obtain ⟨c1, rfl, N20q, e20q, hc1⟩ := hQ20
      have N20 := Fr.app N19 N20q
      show OG (T20.setTop (mkF m 120 _ [(.int (Int32.ofNat c1))]))
      refine own_go (fun _ q => XS.istore X20.here hx rfl (hb hby at_120) rfl (l' := #[vI p0, vI p1, vI p2, vI p3, vI (p0 &&& (3 : Int32)), vR kd, vI (Int32.ofNat lt), vI (1 : Int32), vI x, vI ((p2 &&& (3 : Int32)) + (1 : Int32)), vI (Int32.ofNat c0), vI (Int32.ofNat c1), .unset, .unset, .unset, .unset, .unset, .unset, .unset, .unset, .unset]) rfl (XS.iloadN X20.here hx rfl (hb hby at_122) rfl (XS.bipush X20.here hx rfl (hb hby at_123) (XS.iushr X20.here hx rfl (hb hby at_125) rfl (XS.bipush X20.here hx rfl (hb hby at_126) (XS.iand X20.here hx rfl (hb hby at_128) rfl q)))))) ?_
      show OG (T20.setTop (mkF m 129 #[vI p0, vI p1, vI p2, vI p3, vI (p0 &&& (3 : Int32)), vR kd, vI (Int32.ofNat lt), vI (1 : Int32), vI x, vI ((p2 &&& (3 : Int32)) + (1 : Int32)), vI (Int32.ofNat c0), vI (Int32.ofNat c1), .unset, .unset, .unset, .unset, .unset, .unset, .unset, .unset, .unset] [(.int (((p3.toUInt32 >>> ((12 : Int32) &&& 31).toUInt32).toInt32) &&& (63 : Int32)))]))
      refine own_static X20 hx hZ hown (wd hw 4 rfl) (wd hw 5 rfl) (wd hw 6 rfl) (wd hw 7 rfl) (by decide) e20q (argsL := [(.int (((p3.toUInt32 >>> ((12 : Int32) &&& 31).toUInt32).toInt32) &&& (63 : Int32)))]) (rest := []) (rm1 l Z a0 hw [] (((p3.toUInt32 >>> ((12 : Int32) &&& 31).toUInt32).toInt32) &&& (63 : Int32)) h0 n0 Z0 (own_m63 _).1 (own_m63 _).2) 0 (by decide) (by decide) (by decide) (by decide) (by rw [hml]; rfl) pd_6 rfl rfl (Nat.le_of_eq rfl) (hb hby at_129) rfl ?_
      intro v21 T21 L21 X21 hQ21
      obtain ⟨c2, rfl, N21q, e21q, hc2⟩ := hQ21
      have N21 := Fr.app N20 N21q
      show OG (T21.setTop (mkF m 132 _ [(.int (Int32.ofNat c2))]))
      refine own_go (fun _ q => XS.istore X21.here hx rfl (hb hby at_132) rfl (l' := #[vI p0, vI p1, vI p2, vI p3, vI (p0 &&& (3 : Int32)), vR kd, vI (Int32.ofNat lt), vI (1 : Int32), vI x, vI ((p2 &&& (3 : Int32)) + (1 : Int32)), vI (Int32.ofNat c0), vI (Int32.ofNat c1), vI (Int32.ofNat c2), .unset, .unset, .unset, .unset, .unset, .unset, .unset, .unset]) rfl (XS.iloadN X21.here hx rfl (hb hby at_134) rfl (XS.bipush X21.here hx rfl (hb hby at_135) (XS.iushr X21.here hx rfl (hb hby at_137) rfl (XS.bipush X21.here hx rfl (hb hby at_138) (XS.iand X21.here hx rfl (hb hby at_140) rfl q)))))) ?_
      show OG (T21.setTop (mkF m 141 #[vI p0, vI p1, vI p2, vI p3, vI (p0 &&& (3 : Int32)), vR kd, vI (Int32.ofNat lt), vI (1 : Int32), vI x, vI ((p2 &&& (3 : Int32)) + (1 : Int32)), vI (Int32.ofNat c0), vI (Int32.ofNat c1), vI (Int32.ofNat c2), .unset, .unset, .unset, .unset, .unset, .unset, .unset, .unset] [(.int (((p3.toUInt32 >>> ((18 : Int32) &&& 31).toUInt32).toInt32) &&& (63 : Int32)))]))
      refine own_static X21 hx hZ hown (wd hw 4 rfl) (wd hw 5 rfl) (wd hw 6 rfl) (wd hw 7 rfl) (by decide) e21q (argsL := [(.int (((p3.toUInt32 >>> ((18 : Int32) &&& 31).toUInt32).toInt32) &&& (63 : Int32)))]) (rest := []) (rm1 l Z a0 hw [] (((p3.toUInt32 >>> ((18 : Int32) &&& 31).toUInt32).toInt32) &&& (63 : Int32)) h0 n0 Z0 (own_m63 _).1 (own_m63 _).2) 0 (by decide) (by decide) (by decide) (by decide) (by rw [hml]; rfl) pd_6 rfl rfl (Nat.le_of_eq rfl) (hb hby at_141) rfl ?_
      intro v22 T22 L22 X22 hQ22
      obtain ⟨c3, rfl, N22q, e22q, hc3⟩ := hQ22
      have N22 := Fr.app N21 N22q
      show OG (T22.setTop (mkF m 144 _ [(.int (Int32.ofNat c3))]))
      refine own_go (fun _ q => XS.istore X22.here hx rfl (hb hby at_144) rfl (l' := #[vI p0, vI p1, vI p2, vI p3, vI (p0 &&& (3 : Int32)), vR kd, vI (Int32.ofNat lt), vI (1 : Int32), vI x, vI ((p2 &&& (3 : Int32)) + (1 : Int32)), vI (Int32.ofNat c0), vI (Int32.ofNat c1), vI (Int32.ofNat c2), vI (Int32.ofNat c3), .unset, .unset, .unset, .unset, .unset, .unset, .unset]) rfl (XS.aconstNull X22.here hx rfl (hb hby at_146) (XS.astore X22.here hx rfl (hb hby at_147) rfl rfl (l' := #[vI p0, vI p1, vI p2, vI p3, vI (p0 &&& (3 : Int32)), vR kd, vI (Int32.ofNat lt), vI (1 : Int32), vI x, vI ((p2 &&& (3 : Int32)) + (1 : Int32)), vI (Int32.ofNat c0), vI (Int32.ofNat c1), vI (Int32.ofNat c2), vI (Int32.ofNat c3), .val .null, .unset, .unset, .unset, .unset, .unset, .unset]) rfl (XS.iload X22.here hx rfl (hb hby at_149) rfl q)))) ?_
      show OG (T22.setTop (mkF m 151 #[vI p0, vI p1, vI p2, vI p3, vI (p0 &&& (3 : Int32)), vR kd, vI (Int32.ofNat lt), vI (1 : Int32), vI x, vI ((p2 &&& (3 : Int32)) + (1 : Int32)), vI (Int32.ofNat c0), vI (Int32.ofNat c1), vI (Int32.ofNat c2), vI (Int32.ofNat c3), .val .null, .unset, .unset, .unset, .unset, .unset, .unset] [(.int (1 : Int32))]))
      refine own_go (fun _ q => XS.ifNo X22.here hx rfl (hb hby at_151) rfl ((if0 _ _).trans (feq (by decide : ¬ ((1 : Int32) = (0 : Int32)))).1) q) ?_
      show OG (T22.setTop (mkF m 154 #[vI p0, vI p1, vI p2, vI p3, vI (p0 &&& (3 : Int32)), vR kd, vI (Int32.ofNat lt), vI (1 : Int32), vI x, vI ((p2 &&& (3 : Int32)) + (1 : Int32)), vI (Int32.ofNat c0), vI (Int32.ofNat c1), vI (Int32.ofNat c2), vI (Int32.ofNat c3), .val .null, .unset, .unset, .unset, .unset, .unset, .unset] []))
      refine own_go (fun _ q => XS.iload X22.here hx rfl (hb hby at_154) rfl (XS.iconst X22.here hx rfl (hb hby at_156) q)) ?_
      show OG (T22.setTop (mkF m 157 _ [(.int (1 : Int32)), (.int ((p2 &&& (3 : Int32)) + (1 : Int32)))]))
      have ts : ∀ (n : Nat) (cs : List Nat) (a v_ : Addr) (T : State) (hh : Heap) (locs : List Loc), cs.length = n → (((p2 &&& (3 : Int32)) + (1 : Int32))).toInt = (n : Int) → 1 ≤ n → n ≤ 4 → (∀ j, j < n → cs[j]? = [c0, c1, c2, c3][j]?) → Stand p l e room_1 s m #[(.int p0), (.int p1), (.int p2), (.int p3)] below meth c T locs 3 12 → T.heap = hh → Fr n0 locs → n0 ≤ hh.size → Old Z n0 hh → h0.size ≤ hh.size → Exa Z hh a "java/lang/String" → Fld Z hh a "java/lang/String" "coder" "B" (.int 0) → Fld Z hh a "java/lang/String" "value" "[B" (.ref v_) → own_By Z hh v_ .byte n (fun j => cs[j]?) → own_Go p e below (s, true) (Q0 Z p0 p1 p2 p3 kr kw kc ka d1 d2 fv zc h0 n0) room_1.cells room_1.slots (T.setTop (mkF m 279 #[vI p0, vI p1, vI p2, vI p3, vI (p0 &&& (3 : Int32)), vR kd, vI (Int32.ofNat lt), vI (1 : Int32), vI x, vI ((p2 &&& (3 : Int32)) + (1 : Int32)), vI (Int32.ofNat c0), vI (Int32.ofNat c1), vI (Int32.ofNat c2), vI (Int32.ofNat c3), vR a, .unset, .unset, .unset, .unset, .unset, .unset] [])) := by
        intro n cs a v_ T hh locs hcl hln hn1 hn4 hcs X_ eh Nl Zh Oh hsz0 Ea Fc Fv Av
        show OG (T.setTop (mkF m 279 #[vI p0, vI p1, vI p2, vI p3, vI (p0 &&& (3 : Int32)), vR kd, vI (Int32.ofNat lt), vI (1 : Int32), vI x, vI ((p2 &&& (3 : Int32)) + (1 : Int32)), vI (Int32.ofNat c0), vI (Int32.ofNat c1), vI (Int32.ofNat c2), vI (Int32.ofNat c3), vR a, .unset, .unset, .unset, .unset, .unset, .unset] []))
        refine own_go (fun _ q => XS.bipush X_.here hx rfl (hb hby at_279) q) ?_
        show OG (T.setTop (mkF m 281 _ [(.int (10 : Int32))]))
        obtain ⟨T23, h23, k23, X23, e23, E23, Aw23, st23⟩ := newP X_ hx hZ (wd hw 38 rfl) eh (g := (mkF m 281 #[vI p0, vI p1, vI p2, vI p3, vI (p0 &&& (3 : Int32)), vR kd, vI (Int32.ofNat lt), vI (1 : Int32), vI x, vI ((p2 &&& (3 : Int32)) + (1 : Int32)), vI (Int32.ofNat c0), vI (Int32.ofNat c1), vI (Int32.ofNat c2), vI (Int32.ofNat c3), vR a, .unset, .unset, .unset, .unset, .unset, .unset] [(.int (10 : Int32))])) rfl (hb hby at_281) rfl (by decide) (cap := 10) (by decide) (by decide) (by decide) (by decide)
        obtain ⟨b23, g23⟩ : ∃ z, z = hh.size := ⟨_, rfl⟩
        rw [← g23] at Aw23 st23
        have nq24 : a ≠ b23 := Nat.ne_of_lt (Nat.lt_of_lt_of_eq (Ea).lt g23.symm)
        have nq25 : v_ ≠ b23 := Nat.ne_of_lt (Nat.lt_of_lt_of_eq (Av).lt g23.symm)
        have A23 := own_Ar.new (nn := 10) Aw23 (by decide) rfl
        have G23 : n0 ≤ b23 := Nat.le_trans Zh (Nat.le_of_eq g23.symm)
        have Z23 : n0 ≤ h23.size := Nat.le_trans Zh E23.1
        refine own_go st23 ?_
        show OG (T23.setTop (mkF m 283 _ [(.ref b23)]))
        refine own_go (fun _ q => XS.dup X23.here hx rfl (hb hby at_283) rfl rfl (XS.iconst X23.here hx rfl (hb hby at_284) (XS.iconst X23.here hx rfl (hb hby at_285) q))) ?_
        show OG (T23.setTop (mkF m 286 #[vI p0, vI p1, vI p2, vI p3, vI (p0 &&& (3 : Int32)), vR kd, vI (Int32.ofNat lt), vI (1 : Int32), vI x, vI ((p2 &&& (3 : Int32)) + (1 : Int32)), vI (Int32.ofNat c0), vI (Int32.ofNat c1), vI (Int32.ofNat c2), vI (Int32.ofNat c3), vR a, .unset, .unset, .unset, .unset, .unset, .unset] [(.int (1 : Int32)), (.int (0 : Int32)), (.ref b23), (.ref b23)]))
        refine own_iastore X23 hx hZ e23 (i := 0) A23 rfl (by decide) (hb hby at_286) rfl ?_
        intro T26 h26 X26 e26 W26 A26
        have N26 := Fr.snoc X26 Nl G23
        have Z26 : n0 ≤ h26.size := by rw [W26.size]; exact Z23
        show OG (T26.setTop (mkF m 287 _ [(.ref b23)]))
        refine own_go (fun _ q => XS.dup X26.here hx rfl (hb hby at_287) rfl rfl (XS.iconst X26.here hx rfl (hb hby at_288) (XS.bipush X26.here hx rfl (hb hby at_289) q))) ?_
        show OG (T26.setTop (mkF m 291 _ [(.int (10 : Int32)), (.int (1 : Int32)), (.ref b23), (.ref b23)]))
        refine own_iastore X26 hx hZ e26 (i := 1) A26 rfl (by decide) (hb hby at_291) rfl ?_
        intro T27 h27 X27 e27 W27 A27
        have N27 := Fr.snoc X27 N26 G23
        have Z27 : n0 ≤ h27.size := by rw [W27.size]; exact Z26
        show OG (T27.setTop (mkF m 292 _ [(.ref b23)]))
        refine own_go (fun _ q => XS.dup X27.here hx rfl (hb hby at_292) rfl rfl (XS.iconst X27.here hx rfl (hb hby at_293) (XS.bipush X27.here hx rfl (hb hby at_294) q))) ?_
        show OG (T27.setTop (mkF m 296 #[vI p0, vI p1, vI p2, vI p3, vI (p0 &&& (3 : Int32)), vR kd, vI (Int32.ofNat lt), vI (1 : Int32), vI x, vI ((p2 &&& (3 : Int32)) + (1 : Int32)), vI (Int32.ofNat c0), vI (Int32.ofNat c1), vI (Int32.ofNat c2), vI (Int32.ofNat c3), vR a, .unset, .unset, .unset, .unset, .unset, .unset] [(.int (100 : Int32)), (.int (2 : Int32)), (.ref b23), (.ref b23)]))
        refine own_iastore X27 hx hZ e27 (i := 2) A27 rfl (by decide) (hb hby at_296) rfl ?_
        intro T28 h28 X28 e28 W28 A28
        have N28 := Fr.snoc X28 N27 G23
        have Z28 : n0 ≤ h28.size := by rw [W28.size]; exact Z27
        show OG (T28.setTop (mkF m 297 _ [(.ref b23)]))
        refine own_go (fun _ q => XS.dup X28.here hx rfl (hb hby at_297) rfl rfl (XS.iconst X28.here hx rfl (hb hby at_298) (XS.sipush X28.here hx rfl (hb hby at_299) q))) ?_
        show OG (T28.setTop (mkF m 302 _ [(.int (1000 : Int32)), (.int (3 : Int32)), (.ref b23), (.ref b23)]))
        refine own_iastore X28 hx hZ e28 (i := 3) A28 rfl (by decide) (hb hby at_302) rfl ?_
        intro T29 h29 X29 e29 W29 A29
        have N29 := Fr.snoc X29 N28 G23
        have Z29 : n0 ≤ h29.size := by rw [W29.size]; exact Z28
        show OG (T29.setTop (mkF m 303 _ [(.ref b23)]))
        refine own_go (fun _ q => XS.dup X29.here hx rfl (hb hby at_303) rfl rfl (XS.iconst X29.here hx rfl (hb hby at_304) (XS.sipush X29.here hx rfl (hb hby at_305) q))) ?_
        show OG (T29.setTop (mkF m 308 #[vI p0, vI p1, vI p2, vI p3, vI (p0 &&& (3 : Int32)), vR kd, vI (Int32.ofNat lt), vI (1 : Int32), vI x, vI ((p2 &&& (3 : Int32)) + (1 : Int32)), vI (Int32.ofNat c0), vI (Int32.ofNat c1), vI (Int32.ofNat c2), vI (Int32.ofNat c3), vR a, .unset, .unset, .unset, .unset, .unset, .unset] [(.int (10000 : Int32)), (.int (4 : Int32)), (.ref b23), (.ref b23)]))
        refine own_iastore X29 hx hZ e29 (i := 4) A29 rfl (by decide) (hb hby at_308) rfl ?_
        intro T30 h30 X30 e30 W30 A30
        have N30 := Fr.snoc X30 N29 G23
        have Z30 : n0 ≤ h30.size := by rw [W30.size]; exact Z29
        show OG (T30.setTop (mkF m 309 _ [(.ref b23)]))
        refine own_go (fun _ q => XS.dup X30.here hx rfl (hb hby at_309) rfl rfl (XS.iconst X30.here hx rfl (hb hby at_310) q)) ?_
        show OG (T30.setTop (mkF m 311 _ [(.int (5 : Int32)), (.ref b23), (.ref b23)]))
        refine own_go (X30.ldcInt hx hown (mvT hZ (wd hw 39 rfl)) (g := (mkF m 311 #[vI p0, vI p1, vI p2, vI p3, vI (p0 &&& (3 : Int32)), vR kd, vI (Int32.ofNat lt), vI (1 : Int32), vI x, vI ((p2 &&& (3 : Int32)) + (1 : Int32)), vI (Int32.ofNat c0), vI (Int32.ofNat c1), vI (Int32.ofNat c2), vI (Int32.ofNat c3), vR a, .unset, .unset, .unset, .unset, .unset, .unset] [(.int (5 : Int32)), (.ref b23), (.ref b23)])) rfl (hb hby at_311)) ?_
        show OG (T30.setTop (mkF m 313 #[vI p0, vI p1, vI p2, vI p3, vI (p0 &&& (3 : Int32)), vR kd, vI (Int32.ofNat lt), vI (1 : Int32), vI x, vI ((p2 &&& (3 : Int32)) + (1 : Int32)), vI (Int32.ofNat c0), vI (Int32.ofNat c1), vI (Int32.ofNat c2), vI (Int32.ofNat c3), vR a, .unset, .unset, .unset, .unset, .unset, .unset] [(.int (100000 : Int32)), (.int (5 : Int32)), (.ref b23), (.ref b23)]))
        refine own_iastore X30 hx hZ e30 (i := 5) A30 rfl (by decide) (hb hby at_313) rfl ?_
        intro T31 h31 X31 e31 W31 A31
        have N31 := Fr.snoc X31 N30 G23
        have Z31 : n0 ≤ h31.size := by rw [W31.size]; exact Z30
        show OG (T31.setTop (mkF m 314 _ [(.ref b23)]))
        refine own_go (fun _ q => XS.dup X31.here hx rfl (hb hby at_314) rfl rfl (XS.bipush X31.here hx rfl (hb hby at_315) q)) ?_
        show OG (T31.setTop (mkF m 317 _ [(.int (6 : Int32)), (.ref b23), (.ref b23)]))
        refine own_go (X31.ldcInt hx hown (mvT hZ (wd hw 40 rfl)) (g := (mkF m 317 #[vI p0, vI p1, vI p2, vI p3, vI (p0 &&& (3 : Int32)), vR kd, vI (Int32.ofNat lt), vI (1 : Int32), vI x, vI ((p2 &&& (3 : Int32)) + (1 : Int32)), vI (Int32.ofNat c0), vI (Int32.ofNat c1), vI (Int32.ofNat c2), vI (Int32.ofNat c3), vR a, .unset, .unset, .unset, .unset, .unset, .unset] [(.int (6 : Int32)), (.ref b23), (.ref b23)])) rfl (hb hby at_317)) ?_
        show OG (T31.setTop (mkF m 319 #[vI p0, vI p1, vI p2, vI p3, vI (p0 &&& (3 : Int32)), vR kd, vI (Int32.ofNat lt), vI (1 : Int32), vI x, vI ((p2 &&& (3 : Int32)) + (1 : Int32)), vI (Int32.ofNat c0), vI (Int32.ofNat c1), vI (Int32.ofNat c2), vI (Int32.ofNat c3), vR a, .unset, .unset, .unset, .unset, .unset, .unset] [(.int (1000000 : Int32)), (.int (6 : Int32)), (.ref b23), (.ref b23)]))
        refine own_iastore X31 hx hZ e31 (i := 6) A31 rfl (by decide) (hb hby at_319) rfl ?_
        intro T32 h32 X32 e32 W32 A32
        have N32 := Fr.snoc X32 N31 G23
        have Z32 : n0 ≤ h32.size := by rw [W32.size]; exact Z31
        show OG (T32.setTop (mkF m 320 _ [(.ref b23)]))
        refine own_go (fun _ q => XS.dup X32.here hx rfl (hb hby at_320) rfl rfl (XS.bipush X32.here hx rfl (hb hby at_321) q)) ?_
        show OG (T32.setTop (mkF m 323 _ [(.int (7 : Int32)), (.ref b23), (.ref b23)]))
        refine own_go (X32.ldcInt hx hown (mvT hZ (wd hw 41 rfl)) (g := (mkF m 323 #[vI p0, vI p1, vI p2, vI p3, vI (p0 &&& (3 : Int32)), vR kd, vI (Int32.ofNat lt), vI (1 : Int32), vI x, vI ((p2 &&& (3 : Int32)) + (1 : Int32)), vI (Int32.ofNat c0), vI (Int32.ofNat c1), vI (Int32.ofNat c2), vI (Int32.ofNat c3), vR a, .unset, .unset, .unset, .unset, .unset, .unset] [(.int (7 : Int32)), (.ref b23), (.ref b23)])) rfl (hb hby at_323)) ?_
        show OG (T32.setTop (mkF m 325 #[vI p0, vI p1, vI p2, vI p3, vI (p0 &&& (3 : Int32)), vR kd, vI (Int32.ofNat lt), vI (1 : Int32), vI x, vI ((p2 &&& (3 : Int32)) + (1 : Int32)), vI (Int32.ofNat c0), vI (Int32.ofNat c1), vI (Int32.ofNat c2), vI (Int32.ofNat c3), vR a, .unset, .unset, .unset, .unset, .unset, .unset] [(.int (10000000 : Int32)), (.int (7 : Int32)), (.ref b23), (.ref b23)]))
        refine own_iastore X32 hx hZ e32 (i := 7) A32 rfl (by decide) (hb hby at_325) rfl ?_
        intro T33 h33 X33 e33 W33 A33
        have N33 := Fr.snoc X33 N32 G23
        have Z33 : n0 ≤ h33.size := by rw [W33.size]; exact Z32
        show OG (T33.setTop (mkF m 326 _ [(.ref b23)]))
        refine own_go (fun _ q => XS.dup X33.here hx rfl (hb hby at_326) rfl rfl (XS.bipush X33.here hx rfl (hb hby at_327) q)) ?_
        show OG (T33.setTop (mkF m 329 _ [(.int (8 : Int32)), (.ref b23), (.ref b23)]))
        refine own_go (X33.ldcInt hx hown (mvT hZ (wd hw 42 rfl)) (g := (mkF m 329 #[vI p0, vI p1, vI p2, vI p3, vI (p0 &&& (3 : Int32)), vR kd, vI (Int32.ofNat lt), vI (1 : Int32), vI x, vI ((p2 &&& (3 : Int32)) + (1 : Int32)), vI (Int32.ofNat c0), vI (Int32.ofNat c1), vI (Int32.ofNat c2), vI (Int32.ofNat c3), vR a, .unset, .unset, .unset, .unset, .unset, .unset] [(.int (8 : Int32)), (.ref b23), (.ref b23)])) rfl (hb hby at_329)) ?_
        show OG (T33.setTop (mkF m 331 #[vI p0, vI p1, vI p2, vI p3, vI (p0 &&& (3 : Int32)), vR kd, vI (Int32.ofNat lt), vI (1 : Int32), vI x, vI ((p2 &&& (3 : Int32)) + (1 : Int32)), vI (Int32.ofNat c0), vI (Int32.ofNat c1), vI (Int32.ofNat c2), vI (Int32.ofNat c3), vR a, .unset, .unset, .unset, .unset, .unset, .unset] [(.int (100000000 : Int32)), (.int (8 : Int32)), (.ref b23), (.ref b23)]))
        refine own_iastore X33 hx hZ e33 (i := 8) A33 rfl (by decide) (hb hby at_331) rfl ?_
        intro T34 h34 X34 e34 W34 A34
        have N34 := Fr.snoc X34 N33 G23
        have Z34 : n0 ≤ h34.size := by rw [W34.size]; exact Z33
        show OG (T34.setTop (mkF m 332 _ [(.ref b23)]))
        refine own_go (fun _ q => XS.dup X34.here hx rfl (hb hby at_332) rfl rfl (XS.bipush X34.here hx rfl (hb hby at_333) q)) ?_
        show OG (T34.setTop (mkF m 335 _ [(.int (9 : Int32)), (.ref b23), (.ref b23)]))
        refine own_go (X34.ldcInt hx hown (mvT hZ (wd hw 43 rfl)) (g := (mkF m 335 #[vI p0, vI p1, vI p2, vI p3, vI (p0 &&& (3 : Int32)), vR kd, vI (Int32.ofNat lt), vI (1 : Int32), vI x, vI ((p2 &&& (3 : Int32)) + (1 : Int32)), vI (Int32.ofNat c0), vI (Int32.ofNat c1), vI (Int32.ofNat c2), vI (Int32.ofNat c3), vR a, .unset, .unset, .unset, .unset, .unset, .unset] [(.int (9 : Int32)), (.ref b23), (.ref b23)])) rfl (hb hby at_335)) ?_
        show OG (T34.setTop (mkF m 337 #[vI p0, vI p1, vI p2, vI p3, vI (p0 &&& (3 : Int32)), vR kd, vI (Int32.ofNat lt), vI (1 : Int32), vI x, vI ((p2 &&& (3 : Int32)) + (1 : Int32)), vI (Int32.ofNat c0), vI (Int32.ofNat c1), vI (Int32.ofNat c2), vI (Int32.ofNat c3), vR a, .unset, .unset, .unset, .unset, .unset, .unset] [(.int (1000000000 : Int32)), (.int (9 : Int32)), (.ref b23), (.ref b23)]))
        refine own_iastore X34 hx hZ e34 (i := 9) A34 rfl (by decide) (hb hby at_337) rfl ?_
        intro T35 h35 X35 e35 W35 A35
        have N35 := Fr.snoc X35 N34 G23
        have Z35 : n0 ≤ h35.size := by rw [W35.size]; exact Z34
        show OG (T35.setTop (mkF m 338 _ [(.ref b23)]))
        refine own_go (fun _ q => XS.astore X35.here hx rfl (hb hby at_338) rfl rfl (l' := #[vI p0, vI p1, vI p2, vI p3, vI (p0 &&& (3 : Int32)), vR kd, vI (Int32.ofNat lt), vI (1 : Int32), vI x, vI ((p2 &&& (3 : Int32)) + (1 : Int32)), vI (Int32.ofNat c0), vI (Int32.ofNat c1), vI (Int32.ofNat c2), vI (Int32.ofNat c3), vR a, vR b23, .unset, .unset, .unset, .unset, .unset]) rfl q) ?_
        show OG (T35.setTop (mkF m 340 #[vI p0, vI p1, vI p2, vI p3, vI (p0 &&& (3 : Int32)), vR kd, vI (Int32.ofNat lt), vI (1 : Int32), vI x, vI ((p2 &&& (3 : Int32)) + (1 : Int32)), vI (Int32.ofNat c0), vI (Int32.ofNat c1), vI (Int32.ofNat c2), vI (Int32.ofNat c3), vR a, vR b23, .unset, .unset, .unset, .unset, .unset] []))
        obtain ⟨Fp, hP, Ap⟩ : ∃ F : Nat → Value, (∀ k, k < 10 → F k = .int (Int32.ofNat (10 ^ k))) ∧ own_Ar Z h35 b23 .int 10 F := ⟨_, own_ten rfl rfl rfl rfl rfl rfl rfl rfl rfl rfl, A35⟩
        refine own_go (fun _ q => XS.iconst X35.here hx rfl (hb hby at_340) (XS.istore X35.here hx rfl (hb hby at_341) rfl (l' := #[vI p0, vI p1, vI p2, vI p3, vI (p0 &&& (3 : Int32)), vR kd, vI (Int32.ofNat lt), vI (1 : Int32), vI x, vI ((p2 &&& (3 : Int32)) + (1 : Int32)), vI (Int32.ofNat c0), vI (Int32.ofNat c1), vI (Int32.ofNat c2), vI (Int32.ofNat c3), vR a, vR b23, vI (1 : Int32), .unset, .unset, .unset, .unset]) rfl q)) ?_
        show OG (T35.setTop (mkF m 343 #[vI p0, vI p1, vI p2, vI p3, vI (p0 &&& (3 : Int32)), vR kd, vI (Int32.ofNat lt), vI (1 : Int32), vI x, vI ((p2 &&& (3 : Int32)) + (1 : Int32)), vI (Int32.ofNat c0), vI (Int32.ofNat c1), vI (Int32.ofNat c2), vI (Int32.ofNat c3), vR a, vR b23, vI (1 : Int32), .unset, .unset, .unset, .unset] []))
        show OG (T35.setTop (mkF m 343 #[vI p0, vI p1, vI p2, vI p3, vI (p0 &&& (3 : Int32)), vR kd, vI (Int32.ofNat lt), vI (1 : Int32), vI x, vI ((p2 &&& (3 : Int32)) + (1 : Int32)), vI (Int32.ofNat c0), vI (Int32.ofNat c1), vI (Int32.ofNat c2), vI (Int32.ofNat c3), vR a, vR b23, vI (own_ndf 1 x), .unset, .unset, .unset, .unset] []))
        refine own_go (fun _ q => XS.iload X35.here hx rfl (hb hby at_343) rfl (XS.bipush X35.here hx rfl (hb hby at_345) q)) ?_
        show OG (T35.setTop (mkF m 347 _ [(.int (10 : Int32)), (.int x)]))
        refine own_via (t' := T35.setTop (mkF m 353 #[vI p0, vI p1, vI p2, vI p3, vI (p0 &&& (3 : Int32)), vR kd, vI (Int32.ofNat lt), vI (1 : Int32), vI x, vI ((p2 &&& (3 : Int32)) + (1 : Int32)), vI (Int32.ofNat c0), vI (Int32.ofNat c1), vI (Int32.ofNat c2), vI (Int32.ofNat c3), vR a, vR b23, vI (own_ndf 2 x), .unset, .unset, .unset, .unset] [])) ?_ (fun tl1 => ?_)
        · show OG (T35.setTop (mkF m 353 #[vI p0, vI p1, vI p2, vI p3, vI (p0 &&& (3 : Int32)), vR kd, vI (Int32.ofNat lt), vI (1 : Int32), vI x, vI ((p2 &&& (3 : Int32)) + (1 : Int32)), vI (Int32.ofNat c0), vI (Int32.ofNat c1), vI (Int32.ofNat c2), vI (Int32.ofNat c3), vR a, vR b23, vI (own_ndf 2 x), .unset, .unset, .unset, .unset] []))
          refine own_go (fun _ q => XS.iload X35.here hx rfl (hb hby at_353) rfl (XS.bipush X35.here hx rfl (hb hby at_355) q)) ?_
          show OG (T35.setTop (mkF m 357 _ [(.int (100 : Int32)), (.int x)]))
          refine own_via (t' := T35.setTop (mkF m 363 #[vI p0, vI p1, vI p2, vI p3, vI (p0 &&& (3 : Int32)), vR kd, vI (Int32.ofNat lt), vI (1 : Int32), vI x, vI ((p2 &&& (3 : Int32)) + (1 : Int32)), vI (Int32.ofNat c0), vI (Int32.ofNat c1), vI (Int32.ofNat c2), vI (Int32.ofNat c3), vR a, vR b23, vI (own_ndf 3 x), .unset, .unset, .unset, .unset] [])) ?_ (fun tl2 => ?_)
          · show OG (T35.setTop (mkF m 363 #[vI p0, vI p1, vI p2, vI p3, vI (p0 &&& (3 : Int32)), vR kd, vI (Int32.ofNat lt), vI (1 : Int32), vI x, vI ((p2 &&& (3 : Int32)) + (1 : Int32)), vI (Int32.ofNat c0), vI (Int32.ofNat c1), vI (Int32.ofNat c2), vI (Int32.ofNat c3), vR a, vR b23, vI (own_ndf 3 x), .unset, .unset, .unset, .unset] []))
            refine own_go (fun _ q => XS.iload X35.here hx rfl (hb hby at_363) rfl (XS.sipush X35.here hx rfl (hb hby at_365) q)) ?_
            show OG (T35.setTop (mkF m 368 _ [(.int (1000 : Int32)), (.int x)]))
            refine own_via (t' := T35.setTop (mkF m 374 #[vI p0, vI p1, vI p2, vI p3, vI (p0 &&& (3 : Int32)), vR kd, vI (Int32.ofNat lt), vI (1 : Int32), vI x, vI ((p2 &&& (3 : Int32)) + (1 : Int32)), vI (Int32.ofNat c0), vI (Int32.ofNat c1), vI (Int32.ofNat c2), vI (Int32.ofNat c3), vR a, vR b23, vI (own_ndf 4 x), .unset, .unset, .unset, .unset] [])) ?_ (fun tl3 => ?_)
            · show OG (T35.setTop (mkF m 374 #[vI p0, vI p1, vI p2, vI p3, vI (p0 &&& (3 : Int32)), vR kd, vI (Int32.ofNat lt), vI (1 : Int32), vI x, vI ((p2 &&& (3 : Int32)) + (1 : Int32)), vI (Int32.ofNat c0), vI (Int32.ofNat c1), vI (Int32.ofNat c2), vI (Int32.ofNat c3), vR a, vR b23, vI (own_ndf 4 x), .unset, .unset, .unset, .unset] []))
              refine own_go (fun _ q => XS.iload X35.here hx rfl (hb hby at_374) rfl (XS.sipush X35.here hx rfl (hb hby at_376) q)) ?_
              show OG (T35.setTop (mkF m 379 _ [(.int (10000 : Int32)), (.int x)]))
              refine own_via (t' := T35.setTop (mkF m 385 #[vI p0, vI p1, vI p2, vI p3, vI (p0 &&& (3 : Int32)), vR kd, vI (Int32.ofNat lt), vI (1 : Int32), vI x, vI ((p2 &&& (3 : Int32)) + (1 : Int32)), vI (Int32.ofNat c0), vI (Int32.ofNat c1), vI (Int32.ofNat c2), vI (Int32.ofNat c3), vR a, vR b23, vI (own_ndf 5 x), .unset, .unset, .unset, .unset] [])) ?_ (fun tl4 => ?_)
              · show OG (T35.setTop (mkF m 385 #[vI p0, vI p1, vI p2, vI p3, vI (p0 &&& (3 : Int32)), vR kd, vI (Int32.ofNat lt), vI (1 : Int32), vI x, vI ((p2 &&& (3 : Int32)) + (1 : Int32)), vI (Int32.ofNat c0), vI (Int32.ofNat c1), vI (Int32.ofNat c2), vI (Int32.ofNat c3), vR a, vR b23, vI (own_ndf 5 x), .unset, .unset, .unset, .unset] []))
                refine own_go (fun _ q => XS.iload X35.here hx rfl (hb hby at_385) rfl q) ?_
                show OG (T35.setTop (mkF m 387 _ [(.int x)]))
                refine own_go (X35.ldcInt hx hown (mvT hZ (wd hw 39 rfl)) (g := (mkF m 387 #[vI p0, vI p1, vI p2, vI p3, vI (p0 &&& (3 : Int32)), vR kd, vI (Int32.ofNat lt), vI (1 : Int32), vI x, vI ((p2 &&& (3 : Int32)) + (1 : Int32)), vI (Int32.ofNat c0), vI (Int32.ofNat c1), vI (Int32.ofNat c2), vI (Int32.ofNat c3), vR a, vR b23, vI (own_ndf 5 x), .unset, .unset, .unset, .unset] [(.int x)])) rfl (hb hby at_387)) ?_
                show OG (T35.setTop (mkF m 389 #[vI p0, vI p1, vI p2, vI p3, vI (p0 &&& (3 : Int32)), vR kd, vI (Int32.ofNat lt), vI (1 : Int32), vI x, vI ((p2 &&& (3 : Int32)) + (1 : Int32)), vI (Int32.ofNat c0), vI (Int32.ofNat c1), vI (Int32.ofNat c2), vI (Int32.ofNat c3), vR a, vR b23, vI (own_ndf 5 x), .unset, .unset, .unset, .unset] [(.int (100000 : Int32)), (.int x)]))
                refine own_via (t' := T35.setTop (mkF m 396 #[vI p0, vI p1, vI p2, vI p3, vI (p0 &&& (3 : Int32)), vR kd, vI (Int32.ofNat lt), vI (1 : Int32), vI x, vI ((p2 &&& (3 : Int32)) + (1 : Int32)), vI (Int32.ofNat c0), vI (Int32.ofNat c1), vI (Int32.ofNat c2), vI (Int32.ofNat c3), vR a, vR b23, vI (own_ndf 6 x), .unset, .unset, .unset, .unset] [])) ?_ (fun tl5 => ?_)
                · show OG (T35.setTop (mkF m 396 #[vI p0, vI p1, vI p2, vI p3, vI (p0 &&& (3 : Int32)), vR kd, vI (Int32.ofNat lt), vI (1 : Int32), vI x, vI ((p2 &&& (3 : Int32)) + (1 : Int32)), vI (Int32.ofNat c0), vI (Int32.ofNat c1), vI (Int32.ofNat c2), vI (Int32.ofNat c3), vR a, vR b23, vI (own_ndf 6 x), .unset, .unset, .unset, .unset] []))
                  refine own_go (fun _ q => XS.iload X35.here hx rfl (hb hby at_396) rfl q) ?_
                  show OG (T35.setTop (mkF m 398 _ [(.int x)]))
                  refine own_go (X35.ldcInt hx hown (mvT hZ (wd hw 40 rfl)) (g := (mkF m 398 #[vI p0, vI p1, vI p2, vI p3, vI (p0 &&& (3 : Int32)), vR kd, vI (Int32.ofNat lt), vI (1 : Int32), vI x, vI ((p2 &&& (3 : Int32)) + (1 : Int32)), vI (Int32.ofNat c0), vI (Int32.ofNat c1), vI (Int32.ofNat c2), vI (Int32.ofNat c3), vR a, vR b23, vI (own_ndf 6 x), .unset, .unset, .unset, .unset] [(.int x)])) rfl (hb hby at_398)) ?_
                  show OG (T35.setTop (mkF m 400 #[vI p0, vI p1, vI p2, vI p3, vI (p0 &&& (3 : Int32)), vR kd, vI (Int32.ofNat lt), vI (1 : Int32), vI x, vI ((p2 &&& (3 : Int32)) + (1 : Int32)), vI (Int32.ofNat c0), vI (Int32.ofNat c1), vI (Int32.ofNat c2), vI (Int32.ofNat c3), vR a, vR b23, vI (own_ndf 6 x), .unset, .unset, .unset, .unset] [(.int (1000000 : Int32)), (.int x)]))
                  refine own_via (t' := T35.setTop (mkF m 407 #[vI p0, vI p1, vI p2, vI p3, vI (p0 &&& (3 : Int32)), vR kd, vI (Int32.ofNat lt), vI (1 : Int32), vI x, vI ((p2 &&& (3 : Int32)) + (1 : Int32)), vI (Int32.ofNat c0), vI (Int32.ofNat c1), vI (Int32.ofNat c2), vI (Int32.ofNat c3), vR a, vR b23, vI (own_ndf 7 x), .unset, .unset, .unset, .unset] [])) ?_ (fun tl6 => ?_)
                  · show OG (T35.setTop (mkF m 407 #[vI p0, vI p1, vI p2, vI p3, vI (p0 &&& (3 : Int32)), vR kd, vI (Int32.ofNat lt), vI (1 : Int32), vI x, vI ((p2 &&& (3 : Int32)) + (1 : Int32)), vI (Int32.ofNat c0), vI (Int32.ofNat c1), vI (Int32.ofNat c2), vI (Int32.ofNat c3), vR a, vR b23, vI (own_ndf 7 x), .unset, .unset, .unset, .unset] []))
                    refine own_go (fun _ q => XS.iload X35.here hx rfl (hb hby at_407) rfl q) ?_
                    show OG (T35.setTop (mkF m 409 _ [(.int x)]))
                    refine own_go (X35.ldcInt hx hown (mvT hZ (wd hw 41 rfl)) (g := (mkF m 409 #[vI p0, vI p1, vI p2, vI p3, vI (p0 &&& (3 : Int32)), vR kd, vI (Int32.ofNat lt), vI (1 : Int32), vI x, vI ((p2 &&& (3 : Int32)) + (1 : Int32)), vI (Int32.ofNat c0), vI (Int32.ofNat c1), vI (Int32.ofNat c2), vI (Int32.ofNat c3), vR a, vR b23, vI (own_ndf 7 x), .unset, .unset, .unset, .unset] [(.int x)])) rfl (hb hby at_409)) ?_
                    show OG (T35.setTop (mkF m 411 #[vI p0, vI p1, vI p2, vI p3, vI (p0 &&& (3 : Int32)), vR kd, vI (Int32.ofNat lt), vI (1 : Int32), vI x, vI ((p2 &&& (3 : Int32)) + (1 : Int32)), vI (Int32.ofNat c0), vI (Int32.ofNat c1), vI (Int32.ofNat c2), vI (Int32.ofNat c3), vR a, vR b23, vI (own_ndf 7 x), .unset, .unset, .unset, .unset] [(.int (10000000 : Int32)), (.int x)]))
                    refine own_via (t' := T35.setTop (mkF m 418 #[vI p0, vI p1, vI p2, vI p3, vI (p0 &&& (3 : Int32)), vR kd, vI (Int32.ofNat lt), vI (1 : Int32), vI x, vI ((p2 &&& (3 : Int32)) + (1 : Int32)), vI (Int32.ofNat c0), vI (Int32.ofNat c1), vI (Int32.ofNat c2), vI (Int32.ofNat c3), vR a, vR b23, vI (own_ndf 8 x), .unset, .unset, .unset, .unset] [])) ?_ (fun tl7 => ?_)
                    · show OG (T35.setTop (mkF m 418 #[vI p0, vI p1, vI p2, vI p3, vI (p0 &&& (3 : Int32)), vR kd, vI (Int32.ofNat lt), vI (1 : Int32), vI x, vI ((p2 &&& (3 : Int32)) + (1 : Int32)), vI (Int32.ofNat c0), vI (Int32.ofNat c1), vI (Int32.ofNat c2), vI (Int32.ofNat c3), vR a, vR b23, vI (own_ndf 8 x), .unset, .unset, .unset, .unset] []))
                      refine own_go (fun _ q => XS.iload X35.here hx rfl (hb hby at_418) rfl q) ?_
                      show OG (T35.setTop (mkF m 420 _ [(.int x)]))
                      refine own_go (X35.ldcInt hx hown (mvT hZ (wd hw 42 rfl)) (g := (mkF m 420 #[vI p0, vI p1, vI p2, vI p3, vI (p0 &&& (3 : Int32)), vR kd, vI (Int32.ofNat lt), vI (1 : Int32), vI x, vI ((p2 &&& (3 : Int32)) + (1 : Int32)), vI (Int32.ofNat c0), vI (Int32.ofNat c1), vI (Int32.ofNat c2), vI (Int32.ofNat c3), vR a, vR b23, vI (own_ndf 8 x), .unset, .unset, .unset, .unset] [(.int x)])) rfl (hb hby at_420)) ?_
                      show OG (T35.setTop (mkF m 422 #[vI p0, vI p1, vI p2, vI p3, vI (p0 &&& (3 : Int32)), vR kd, vI (Int32.ofNat lt), vI (1 : Int32), vI x, vI ((p2 &&& (3 : Int32)) + (1 : Int32)), vI (Int32.ofNat c0), vI (Int32.ofNat c1), vI (Int32.ofNat c2), vI (Int32.ofNat c3), vR a, vR b23, vI (own_ndf 8 x), .unset, .unset, .unset, .unset] [(.int (100000000 : Int32)), (.int x)]))
                      refine own_via (t' := T35.setTop (mkF m 429 #[vI p0, vI p1, vI p2, vI p3, vI (p0 &&& (3 : Int32)), vR kd, vI (Int32.ofNat lt), vI (1 : Int32), vI x, vI ((p2 &&& (3 : Int32)) + (1 : Int32)), vI (Int32.ofNat c0), vI (Int32.ofNat c1), vI (Int32.ofNat c2), vI (Int32.ofNat c3), vR a, vR b23, vI (own_ndf 9 x), .unset, .unset, .unset, .unset] [])) ?_ (fun tl8 => ?_)
                      · show OG (T35.setTop (mkF m 429 #[vI p0, vI p1, vI p2, vI p3, vI (p0 &&& (3 : Int32)), vR kd, vI (Int32.ofNat lt), vI (1 : Int32), vI x, vI ((p2 &&& (3 : Int32)) + (1 : Int32)), vI (Int32.ofNat c0), vI (Int32.ofNat c1), vI (Int32.ofNat c2), vI (Int32.ofNat c3), vR a, vR b23, vI (own_ndf 9 x), .unset, .unset, .unset, .unset] []))
                        refine own_go (fun _ q => XS.iload X35.here hx rfl (hb hby at_429) rfl q) ?_
                        show OG (T35.setTop (mkF m 431 _ [(.int x)]))
                        refine own_go (X35.ldcInt hx hown (mvT hZ (wd hw 43 rfl)) (g := (mkF m 431 #[vI p0, vI p1, vI p2, vI p3, vI (p0 &&& (3 : Int32)), vR kd, vI (Int32.ofNat lt), vI (1 : Int32), vI x, vI ((p2 &&& (3 : Int32)) + (1 : Int32)), vI (Int32.ofNat c0), vI (Int32.ofNat c1), vI (Int32.ofNat c2), vI (Int32.ofNat c3), vR a, vR b23, vI (own_ndf 9 x), .unset, .unset, .unset, .unset] [(.int x)])) rfl (hb hby at_431)) ?_
                        show OG (T35.setTop (mkF m 433 #[vI p0, vI p1, vI p2, vI p3, vI (p0 &&& (3 : Int32)), vR kd, vI (Int32.ofNat lt), vI (1 : Int32), vI x, vI ((p2 &&& (3 : Int32)) + (1 : Int32)), vI (Int32.ofNat c0), vI (Int32.ofNat c1), vI (Int32.ofNat c2), vI (Int32.ofNat c3), vR a, vR b23, vI (own_ndf 9 x), .unset, .unset, .unset, .unset] [(.int (1000000000 : Int32)), (.int x)]))
                        refine own_via (t' := T35.setTop (mkF m 440 #[vI p0, vI p1, vI p2, vI p3, vI (p0 &&& (3 : Int32)), vR kd, vI (Int32.ofNat lt), vI (1 : Int32), vI x, vI ((p2 &&& (3 : Int32)) + (1 : Int32)), vI (Int32.ofNat c0), vI (Int32.ofNat c1), vI (Int32.ofNat c2), vI (Int32.ofNat c3), vR a, vR b23, vI (own_ndf 10 x), .unset, .unset, .unset, .unset] [])) ?_ (fun tl9 => ?_)
                        · show OG (T35.setTop (mkF m 440 #[vI p0, vI p1, vI p2, vI p3, vI (p0 &&& (3 : Int32)), vR kd, vI (Int32.ofNat lt), vI (1 : Int32), vI x, vI ((p2 &&& (3 : Int32)) + (1 : Int32)), vI (Int32.ofNat c0), vI (Int32.ofNat c1), vI (Int32.ofNat c2), vI (Int32.ofNat c3), vR a, vR b23, vI (own_ndf 10 x), .unset, .unset, .unset, .unset] []))
                          refine own_go (fun _ q => XS.bipush X35.here hx rfl (hb hby at_440) q) ?_
                          show OG (T35.setTop (mkF m 442 _ [(.int (17 : Int32))]))
                          obtain ⟨T36, h36, k36, X36, e36, E36, Aw36, Ex36, st36⟩ := newPE X35 hx hZ (wd hw 11 rfl) e35 (g := (mkF m 442 #[vI p0, vI p1, vI p2, vI p3, vI (p0 &&& (3 : Int32)), vR kd, vI (Int32.ofNat lt), vI (1 : Int32), vI x, vI ((p2 &&& (3 : Int32)) + (1 : Int32)), vI (Int32.ofNat c0), vI (Int32.ofNat c1), vI (Int32.ofNat c2), vI (Int32.ofNat c3), vR a, vR b23, vI (own_ndf 10 x), .unset, .unset, .unset, .unset] [(.int (17 : Int32))])) rfl (hb hby at_442) rfl (by decide) (cap := 17) (by decide) (by decide) (by decide) (by decide) (ad := "[C") (by decide)
                          obtain ⟨b36, g36⟩ : ∃ z, z = h35.size := ⟨_, rfl⟩
                          rw [← g36] at Aw36 Ex36 st36
                          have A36 := own_By.new (nn := 17) Aw36 (by decide) rfl rfl
                          have f37 := (((((((((((Ea.ext E23).wr W26).wr W27).wr W28).wr W29).wr W30).wr W31).wr W32).wr W33).wr W34).wr W35)
                          have nq38 : a ≠ b36 := Nat.ne_of_lt (Nat.lt_of_lt_of_eq (f37).lt g36.symm)
                          have nq39 : b23 ≠ b36 := Nat.ne_of_lt (Nat.lt_of_lt_of_eq (Ap).lt g36.symm)
                          have f40 := (((((((((((Av.ext E23).other W26 nq25).other W27 nq25).other W28 nq25).other W29 nq25).other W30 nq25).other W31 nq25).other W32 nq25).other W33 nq25).other W34 nq25).other W35 nq25)
                          have nq41 : v_ ≠ b36 := Nat.ne_of_lt (Nat.lt_of_lt_of_eq (f40).lt g36.symm)
                          have y36 : h0.size ≤ b36 := Nat.le_trans (Nat.le_trans (Nat.le_trans (Nat.le_trans (Nat.le_trans (Nat.le_trans (Nat.le_trans (Nat.le_trans (Nat.le_trans (Nat.le_trans (Nat.le_trans (Nat.le_trans hsz0 E23.1) (Nat.le_of_eq W26.size.symm)) (Nat.le_of_eq W27.size.symm)) (Nat.le_of_eq W28.size.symm)) (Nat.le_of_eq W29.size.symm)) (Nat.le_of_eq W30.size.symm)) (Nat.le_of_eq W31.size.symm)) (Nat.le_of_eq W32.size.symm)) (Nat.le_of_eq W33.size.symm)) (Nat.le_of_eq W34.size.symm)) (Nat.le_of_eq W35.size.symm)) (Nat.le_of_eq g36.symm)
                          have G36 : n0 ≤ b36 := Nat.le_trans Z35 (Nat.le_of_eq g36.symm)
                          have Z36 : n0 ≤ h36.size := Nat.le_trans Z35 E36.1
                          refine own_go st36 ?_
                          show OG (T36.setTop (mkF m 444 _ [(.ref b36)]))
                          refine own_go (fun _ q => XS.astore X36.here hx rfl (hb hby at_444) rfl rfl (l' := #[vI p0, vI p1, vI p2, vI p3, vI (p0 &&& (3 : Int32)), vR kd, vI (Int32.ofNat lt), vI (1 : Int32), vI x, vI ((p2 &&& (3 : Int32)) + (1 : Int32)), vI (Int32.ofNat c0), vI (Int32.ofNat c1), vI (Int32.ofNat c2), vI (Int32.ofNat c3), vR a, vR b23, vI (own_ndf 10 x), vR b36, .unset, .unset, .unset]) rfl q) ?_
                          show OG (T36.setTop (mkF m 446 #[vI p0, vI p1, vI p2, vI p3, vI (p0 &&& (3 : Int32)), vR kd, vI (Int32.ofNat lt), vI (1 : Int32), vI x, vI ((p2 &&& (3 : Int32)) + (1 : Int32)), vI (Int32.ofNat c0), vI (Int32.ofNat c1), vI (Int32.ofNat c2), vI (Int32.ofNat c3), vR a, vR b23, vI (own_ndf 10 x), vR b36, .unset, .unset, .unset] []))
                          obtain ⟨T42, h42, X42, e42, E42, A42, D42, -, st42⟩ := newO X36 hx hZ hown (wd hw 44 rfl) (wd hw 45 rfl) (wd hw 46 rfl) e36 (g := (mkF m 446 #[vI p0, vI p1, vI p2, vI p3, vI (p0 &&& (3 : Int32)), vR kd, vI (Int32.ofNat lt), vI (1 : Int32), vI x, vI ((p2 &&& (3 : Int32)) + (1 : Int32)), vI (Int32.ofNat c0), vI (Int32.ofNat c1), vI (Int32.ofNat c2), vI (Int32.ofNat c3), vR a, vR b23, vI (own_ndf 10 x), vR b36, .unset, .unset, .unset] [])) rfl (hb hby at_446) (by decide) (by decide)
                          obtain ⟨b42, g42⟩ : ∃ z, z = h36.size := ⟨_, rfl⟩
                          rw [← g42] at A42 D42 st42
                          have f43 := (f37.ext E36)
                          have nq44 : a ≠ b42 := Nat.ne_of_lt (Nat.lt_of_lt_of_eq (f43).lt g42.symm)
                          have f45 := (Ap.ext E36)
                          have nq46 : b23 ≠ b42 := Nat.ne_of_lt (Nat.lt_of_lt_of_eq (f45).lt g42.symm)
                          have nq47 : b36 ≠ b42 := Nat.ne_of_lt (Nat.lt_of_lt_of_eq (A36).lt g42.symm)
                          have f48 := (f40.ext E36)
                          have nq49 : v_ ≠ b42 := Nat.ne_of_lt (Nat.lt_of_lt_of_eq (f48).lt g42.symm)
                          have G42 : n0 ≤ b42 := Nat.le_trans Z36 (Nat.le_of_eq g42.symm)
                          have Z42 : n0 ≤ h42.size := Nat.le_trans Z36 E42.1
                          have Fn42_kind : Fld Z h42 b42 "com/example/interleave/interleave/core/Operation" "kind" "Lcom/example/interleave/interleave/core/Operation$Kind;" .null := D42 (Or.inr (wd hw 117 rfl)) (ty := (.object "com/example/interleave/interleave/core/Operation$Kind")) (by decide)
                          have Fn42_transaction : Fld Z h42 b42 "com/example/interleave/interleave/core/Operation" "transaction" "I" (.int (0 : Int32)) := D42 (Or.inr (wd hw 119 rfl)) (ty := .int) (by decide)
                          have Fn42_item : Fld Z h42 b42 "com/example/interleave/interleave/core/Operation" "item" "Ljava/lang/String;" .null := D42 (Or.inr (wd hw 121 rfl)) (ty := (.object "java/lang/String")) (by decide)
                          have y42 : h0.size ≤ b42 := Nat.le_trans (Nat.le_trans (Nat.le_trans (Nat.le_trans (Nat.le_trans (Nat.le_trans (Nat.le_trans (Nat.le_trans (Nat.le_trans (Nat.le_trans (Nat.le_trans (Nat.le_trans (Nat.le_trans hsz0 E23.1) (Nat.le_of_eq W26.size.symm)) (Nat.le_of_eq W27.size.symm)) (Nat.le_of_eq W28.size.symm)) (Nat.le_of_eq W29.size.symm)) (Nat.le_of_eq W30.size.symm)) (Nat.le_of_eq W31.size.symm)) (Nat.le_of_eq W32.size.symm)) (Nat.le_of_eq W33.size.symm)) (Nat.le_of_eq W34.size.symm)) (Nat.le_of_eq W35.size.symm)) E36.1) (Nat.le_of_eq g42.symm)
                          refine own_go st42 ?_
                          show OG (T42.setTop (mkF m 449 _ [(.ref b42)]))
                          refine own_go (fun _ q => XS.dup X42.here hx rfl (hb hby at_449) rfl rfl (XS.aload X42.here hx rfl (hb hby at_450) rfl rfl (XS.iload X42.here hx rfl (hb hby at_452) rfl (XS.aload X42.here hx rfl (hb hby at_454) rfl rfl q)))) ?_
                          show OG (T42.setTop (mkF m 456 _ [(.ref a), (.int x), (.ref kd), (.ref b42), (.ref b42)]))
                          have hx1 : (1 : Int32).toInt ≤ x.toInt := by have e1 : (1 : Int32).toInt = 1 := rfl; omega
                          have hg := own_hg hcs hn4 hc0 hc1 hc2 hc3
                          have f50 := (f43.ext E42)
                          have f51 := (((((((((((((Fc.ext E23).other W26 (Or.inl nq24)).other W27 (Or.inl nq24)).other W28 (Or.inl nq24)).other W29 (Or.inl nq24)).other W30 (Or.inl nq24)).other W31 (Or.inl nq24)).other W32 (Or.inl nq24)).other W33 (Or.inl nq24)).other W34 (Or.inl nq24)).other W35 (Or.inl nq24)).ext E36).ext E42)
                          have f52 := (((((((((((((Fv.ext E23).other W26 (Or.inl nq24)).other W27 (Or.inl nq24)).other W28 (Or.inl nq24)).other W29 (Or.inl nq24)).other W30 (Or.inl nq24)).other W31 (Or.inl nq24)).other W32 (Or.inl nq24)).other W33 (Or.inl nq24)).other W34 (Or.inl nq24)).other W35 (Or.inl nq24)).ext E36).ext E42)
                          have f53 := (f48.ext E42)
                          have f54 := (((((((((((((Oh.ext E23).wr W26 G23).wr W27 G23).wr W28 G23).wr W29 G23).wr W30 G23).wr W31 G23).wr W32 G23).wr W33 G23).wr W34 G23).wr W35 G23).ext E36).ext E42)
                          refine own_initW X42 hx hZ rfl hown (wd hw 47 rfl) (wd hw 48 rfl) (wd hw 46 rfl) (wd hw 49 rfl) (by decide) e42 (a := b42) (argsL := [(.ref kd), (.int x), (.ref a)]) (rest := [(.ref b42)]) (rm8 l Z a0 hw [] b42 kd x a v_ n (fun j => cs[j]?) ((p2 &&& (3 : Int32)) + (1 : Int32)) fv zc h42 n0 Z42 SC hz0 f54 A42 Fn42_kind Fn42_transaction Fn42_item G42 Ek Fk hx1 SF hfv hln (by omega) hg f50 f51 f52 f53 nq44 nq49) 1 (by decide) (by decide) (by decide) (by decide) (by rw [hml]; rfl) pd_34 rfl rfl (Nat.le_of_eq rfl) (hb hby at_456) rfl ?_
                          intro v55 T55 L55 X55 hS hZ hown hQ55
                          obtain ⟨rfl, N55q, K55, Eo2, Fk1, Fk2, Fk3⟩ := hQ55
                          have N55 := Fr.app N35 N55q
                          show OG (T55.setTop (mkF m 459 _ [(.ref b42)]))
                          have Z55 : n0 ≤ T55.heap.size := Nat.le_trans Z42 K55.1
                          have hS0 : s.Since T55.vm T55.heap.size := hS
                          refine own_go (fun _ q => XS.astore X55.here hx rfl (hb hby at_459) rfl rfl (l' := #[vI p0, vI p1, vI p2, vI p3, vI (p0 &&& (3 : Int32)), vR kd, vI (Int32.ofNat lt), vI (1 : Int32), vI x, vI ((p2 &&& (3 : Int32)) + (1 : Int32)), vI (Int32.ofNat c0), vI (Int32.ofNat c1), vI (Int32.ofNat c2), vI (Int32.ofNat c3), vR a, vR b23, vI (own_ndf 10 x), vR b36, vR b42, .unset, .unset]) rfl (XS.aload X55.here hx rfl (hb hby at_461) rfl rfl q)) ?_
                          show OG (T55.setTop (mkF m 463 #[vI p0, vI p1, vI p2, vI p3, vI (p0 &&& (3 : Int32)), vR kd, vI (Int32.ofNat lt), vI (1 : Int32), vI x, vI ((p2 &&& (3 : Int32)) + (1 : Int32)), vI (Int32.ofNat c0), vI (Int32.ofNat c1), vI (Int32.ofNat c2), vI (Int32.ofNat c3), vR a, vR b23, vI (own_ndf 10 x), vR b36, vR b42, .unset, .unset] [(.ref b42)]))
                          have f57 := (f50.keep K55)
                          have lt56 := f57.lt
                          have f59 := ((f45.ext E42).keep K55 (ninS nq46 nin0))
                          have lt58 := f59.lt
                          have f61 := ((A36.ext E42).keep K55 (ninS nq47 nin0))
                          have lt60 := f61.lt
                          have lt62 := Eo2.lt
                          have f64 := (f53.keep K55 (ninS nq49 nin0))
                          have lt63 := f64.lt
                          have f65 := (f51.keep K55 (ninS nq44 nin0))
                          have f66 := (f52.keep K55 (ninS nq44 nin0))
                          have f67 := (f54.keep K55 (allS G42 all0))
                          refine own_virtual X55 hx hZ hown (wd hw 122 rfl) (wd hw 123 rfl) (wd hw 125 rfl) (wd hw 124 rfl) (wd hw 46 rfl) (wd hw 126 rfl) (by decide) rfl (a := b42) Eo2 (argsL := []) (rest := []) (rm23 l Z a0 hw [] b42 kd x X lt d1 d2 a v_ n (fun j => cs[j]?) zc T55.heap n0 Z55 SC hz0 f67 Eo2 Fk1 Fk2 Ek Fk Fl hlt D1 B1 D2 B2 hX hX1 Fk3 hn4 f57 f65 f66 f64) 0 (by decide) (by decide) (by decide) (by decide) (by rw [hml]; rfl) pd_32 rfl rfl (Nat.le_of_eq rfl) (hb hby at_463) rfl ?_
                          intro v68 T68 L68 X68 hQ68
                          obtain ⟨nd, S, rfl, N68q, hdg, K68, GS, yS0, J1, J2, rS, GrS, yrS0, J5, J6⟩ := hQ68
                          have N68 := Fr.app N55 N68q
                          show OG (T68.setTop (mkF m 466 _ [(.ref S)]))
                          have Z68 : n0 ≤ T68.heap.size := Nat.le_trans Z55 K68.1
                          have nq69 : a ≠ S := fun q => absurd (q ▸ lt56) (Nat.not_lt.mpr yS0)
                          have nq70 : b23 ≠ S := fun q => absurd (q ▸ lt58) (Nat.not_lt.mpr yS0)
                          have nq71 : b36 ≠ S := fun q => absurd (q ▸ lt60) (Nat.not_lt.mpr yS0)
                          have nq72 : b42 ≠ S := fun q => absurd (q ▸ lt62) (Nat.not_lt.mpr yS0)
                          have nq73 : v_ ≠ S := fun q => absurd (q ▸ lt63) (Nat.not_lt.mpr yS0)
                          have nq74 : a ≠ rS := fun q => absurd (q ▸ lt56) (Nat.not_lt.mpr yrS0)
                          have nq75 : b23 ≠ rS := fun q => absurd (q ▸ lt58) (Nat.not_lt.mpr yrS0)
                          have nq76 : b36 ≠ rS := fun q => absurd (q ▸ lt60) (Nat.not_lt.mpr yrS0)
                          have nq77 : b42 ≠ rS := fun q => absurd (q ▸ lt62) (Nat.not_lt.mpr yrS0)
                          have nq78 : v_ ≠ rS := fun q => absurd (q ▸ lt63) (Nat.not_lt.mpr yrS0)
                          have hdg' := hdg
                          obtain ⟨q1, q2, q3, q4⟩ := hdg'
                          have hnd := own_ndeq hX hdg
                          rw [hnd]
                          show OG (T68.setTop (mkF m 466 #[vI p0, vI p1, vI p2, vI p3, vI (p0 &&& (3 : Int32)), vR kd, vI (Int32.ofNat lt), vI (1 : Int32), vI x, vI ((p2 &&& (3 : Int32)) + (1 : Int32)), vI (Int32.ofNat c0), vI (Int32.ofNat c1), vI (Int32.ofNat c2), vI (Int32.ofNat c3), vR a, vR b23, vI (Int32.ofNat nd), vR b36, vR b42, .unset, .unset] [(.ref S)]))
                          refine own_go (fun _ q => XS.astore X68.here hx rfl (hb hby at_466) rfl rfl (l' := #[vI p0, vI p1, vI p2, vI p3, vI (p0 &&& (3 : Int32)), vR kd, vI (Int32.ofNat lt), vI (1 : Int32), vI x, vI ((p2 &&& (3 : Int32)) + (1 : Int32)), vI (Int32.ofNat c0), vI (Int32.ofNat c1), vI (Int32.ofNat c2), vI (Int32.ofNat c3), vR a, vR b23, vI (Int32.ofNat nd), vR b36, vR b42, vR S, .unset]) rfl (XS.aload X68.here hx rfl (hb hby at_468) rfl rfl (XS.iconst X68.here hx rfl (hb hby at_470) (XS.iload X68.here hx rfl (hb hby at_471) rfl q)))) ?_
                          show OG (T68.setTop (mkF m 473 #[vI p0, vI p1, vI p2, vI p3, vI (p0 &&& (3 : Int32)), vR kd, vI (Int32.ofNat lt), vI (1 : Int32), vI x, vI ((p2 &&& (3 : Int32)) + (1 : Int32)), vI (Int32.ofNat c0), vI (Int32.ofNat c1), vI (Int32.ofNat c2), vI (Int32.ofNat c3), vR a, vR b23, vI (Int32.ofNat nd), vR b36, vR b42, vR S, .unset] [(.int (Int32.ofNat lt)), (.int (0 : Int32)), (.ref b36)]))
                          have f80 := (f61.keep K68 nin0)
                          refine own_cstore (i := 0) (v := lt) X68 hx hZ rfl f80 hlt rfl rfl (by decide) (hb hby at_473) rfl ?_
                          intro T79 h79 X79 e79 W79 A79
                          have N79 := Fr.snoc X79 N68 G36
                          have Z79 : n0 ≤ h79.size := by rw [W79.size]; exact Z68
                          show OG (T79.setTop (mkF m 474 _ []))
                          refine own_go (fun _ q => XS.aload X79.here hx rfl (hb hby at_474) rfl rfl (XS.iload X79.here hx rfl (hb hby at_476) rfl (XS.iload X79.here hx rfl (hb hby at_478) rfl (XS.aload X79.here hx rfl (hb hby at_480) rfl rfl (XS.iconst X79.here hx rfl (hb hby at_482) q))))) ?_
                          show OG (T79.setTop (mkF m 483 _ [(.int (0 : Int32)), (.ref b23), (.int (Int32.ofNat nd)), (.int x), (.ref b36)]))
                          have f81 := ((f59.keep K68 nin0).other W79 nq39)
                          refine own_static X79 hx hZ hown (wd hw 264 rfl) (wd hw 265 rfl) (wd hw 6 rfl) (wd hw 266 rfl) (by decide) e79 (argsL := [(.ref b36), (.int x), (.int (Int32.ofNat nd)), (.ref b23), (.int (0 : Int32))]) (rest := []) (rm51 l Z a0 hw [] b36 x X nd b23 0 _ Fp h79 n0 Z79 A79 G36 f81 hP hX q2 (by decide)) 0 (by decide) (by decide) (by decide) (by decide) (by rw [hml]; rfl) pd_35 rfl rfl (Nat.le_of_eq rfl) (hb hby at_483) rfl ?_
                          intro v82 T82 L82 X82 hQ82
                          obtain ⟨rfl, N82q, K82, A82⟩ := hQ82
                          have N82 := Fr.app N79 N82q
                          show OG (T82.setTop (mkF m 486 _ []))
                          have Z82 : n0 ≤ T82.heap.size := Nat.le_trans Z79 K82.1
                          refine own_go (fun _ q => XS.aload X82.here hx rfl (hb hby at_486) rfl rfl (XS.iload X82.here hx rfl (hb hby at_488) rfl (XS.iload X82.here hx rfl (hb hby at_490) rfl (XS.aload X82.here hx rfl (hb hby at_492) rfl rfl (XS.iconst X82.here hx rfl (hb hby at_494) q))))) ?_
                          show OG (T82.setTop (mkF m 495 #[vI p0, vI p1, vI p2, vI p3, vI (p0 &&& (3 : Int32)), vR kd, vI (Int32.ofNat lt), vI (1 : Int32), vI x, vI ((p2 &&& (3 : Int32)) + (1 : Int32)), vI (Int32.ofNat c0), vI (Int32.ofNat c1), vI (Int32.ofNat c2), vI (Int32.ofNat c3), vR a, vR b23, vI (Int32.ofNat nd), vR b36, vR b42, vR S, .unset] [(.int (1 : Int32)), (.ref b23), (.int (Int32.ofNat nd)), (.int x), (.ref b36)]))
                          have f83 := (f81.keep K82 (ninS nq39 nin0))
                          refine own_static X82 hx hZ hown (wd hw 264 rfl) (wd hw 265 rfl) (wd hw 6 rfl) (wd hw 266 rfl) (by decide) rfl (argsL := [(.ref b36), (.int x), (.int (Int32.ofNat nd)), (.ref b23), (.int (1 : Int32))]) (rest := []) (rm51 l Z a0 hw [] b36 x X nd b23 1 _ Fp T82.heap n0 Z82 A82 G36 f83 hP hX q2 (by decide)) 0 (by decide) (by decide) (by decide) (by decide) (by rw [hml]; rfl) pd_35 rfl rfl (Nat.le_of_eq rfl) (hb hby at_495) rfl ?_
                          intro v84 T84 L84 X84 hQ84
                          obtain ⟨rfl, N84q, K84, A84⟩ := hQ84
                          have N84 := Fr.app N82 N84q
                          show OG (T84.setTop (mkF m 498 _ []))
                          have Z84 : n0 ≤ T84.heap.size := Nat.le_trans Z82 K84.1
                          refine own_go (fun _ q => XS.aload X84.here hx rfl (hb hby at_498) rfl rfl (XS.iload X84.here hx rfl (hb hby at_500) rfl (XS.iload X84.here hx rfl (hb hby at_502) rfl (XS.aload X84.here hx rfl (hb hby at_504) rfl rfl (XS.iconst X84.here hx rfl (hb hby at_506) q))))) ?_
                          show OG (T84.setTop (mkF m 507 _ [(.int (2 : Int32)), (.ref b23), (.int (Int32.ofNat nd)), (.int x), (.ref b36)]))
                          have f85 := (f83.keep K84 (ninS nq39 nin0))
                          refine own_static X84 hx hZ hown (wd hw 264 rfl) (wd hw 265 rfl) (wd hw 6 rfl) (wd hw 266 rfl) (by decide) rfl (argsL := [(.ref b36), (.int x), (.int (Int32.ofNat nd)), (.ref b23), (.int (2 : Int32))]) (rest := []) (rm51 l Z a0 hw [] b36 x X nd b23 2 _ Fp T84.heap n0 Z84 A84 G36 f85 hP hX q2 (by decide)) 0 (by decide) (by decide) (by decide) (by decide) (by rw [hml]; rfl) pd_35 rfl rfl (Nat.le_of_eq rfl) (hb hby at_507) rfl ?_
                          intro v86 T86 L86 X86 hQ86
                          obtain ⟨rfl, N86q, K86, A86⟩ := hQ86
                          have N86 := Fr.app N84 N86q
                          show OG (T86.setTop (mkF m 510 _ []))
                          have Z86 : n0 ≤ T86.heap.size := Nat.le_trans Z84 K86.1
                          refine own_go (fun _ q => XS.aload X86.here hx rfl (hb hby at_510) rfl rfl (XS.iload X86.here hx rfl (hb hby at_512) rfl (XS.iload X86.here hx rfl (hb hby at_514) rfl (XS.aload X86.here hx rfl (hb hby at_516) rfl rfl (XS.iconst X86.here hx rfl (hb hby at_518) q))))) ?_
                          show OG (T86.setTop (mkF m 519 #[vI p0, vI p1, vI p2, vI p3, vI (p0 &&& (3 : Int32)), vR kd, vI (Int32.ofNat lt), vI (1 : Int32), vI x, vI ((p2 &&& (3 : Int32)) + (1 : Int32)), vI (Int32.ofNat c0), vI (Int32.ofNat c1), vI (Int32.ofNat c2), vI (Int32.ofNat c3), vR a, vR b23, vI (Int32.ofNat nd), vR b36, vR b42, vR S, .unset] [(.int (3 : Int32)), (.ref b23), (.int (Int32.ofNat nd)), (.int x), (.ref b36)]))
                          have f87 := (f85.keep K86 (ninS nq39 nin0))
                          refine own_static X86 hx hZ hown (wd hw 264 rfl) (wd hw 265 rfl) (wd hw 6 rfl) (wd hw 266 rfl) (by decide) rfl (argsL := [(.ref b36), (.int x), (.int (Int32.ofNat nd)), (.ref b23), (.int (3 : Int32))]) (rest := []) (rm51 l Z a0 hw [] b36 x X nd b23 3 _ Fp T86.heap n0 Z86 A86 G36 f87 hP hX q2 (by decide)) 0 (by decide) (by decide) (by decide) (by decide) (by rw [hml]; rfl) pd_35 rfl rfl (Nat.le_of_eq rfl) (hb hby at_519) rfl ?_
                          intro v88 T88 L88 X88 hQ88
                          obtain ⟨rfl, N88q, K88, A88⟩ := hQ88
                          have N88 := Fr.app N86 N88q
                          show OG (T88.setTop (mkF m 522 _ []))
                          have Z88 : n0 ≤ T88.heap.size := Nat.le_trans Z86 K88.1
                          refine own_go (fun _ q => XS.aload X88.here hx rfl (hb hby at_522) rfl rfl (XS.iload X88.here hx rfl (hb hby at_524) rfl (XS.iload X88.here hx rfl (hb hby at_526) rfl (XS.aload X88.here hx rfl (hb hby at_528) rfl rfl (XS.iconst X88.here hx rfl (hb hby at_530) q))))) ?_
                          show OG (T88.setTop (mkF m 531 _ [(.int (4 : Int32)), (.ref b23), (.int (Int32.ofNat nd)), (.int x), (.ref b36)]))
                          have f89 := (f87.keep K88 (ninS nq39 nin0))
                          refine own_static X88 hx hZ hown (wd hw 264 rfl) (wd hw 265 rfl) (wd hw 6 rfl) (wd hw 266 rfl) (by decide) rfl (argsL := [(.ref b36), (.int x), (.int (Int32.ofNat nd)), (.ref b23), (.int (4 : Int32))]) (rest := []) (rm51 l Z a0 hw [] b36 x X nd b23 4 _ Fp T88.heap n0 Z88 A88 G36 f89 hP hX q2 (by decide)) 0 (by decide) (by decide) (by decide) (by decide) (by rw [hml]; rfl) pd_35 rfl rfl (Nat.le_of_eq rfl) (hb hby at_531) rfl ?_
                          intro v90 T90 L90 X90 hQ90
                          obtain ⟨rfl, N90q, K90, A90⟩ := hQ90
                          have N90 := Fr.app N88 N90q
                          show OG (T90.setTop (mkF m 534 _ []))
                          have Z90 : n0 ≤ T90.heap.size := Nat.le_trans Z88 K90.1
                          refine own_go (fun _ q => XS.aload X90.here hx rfl (hb hby at_534) rfl rfl (XS.iload X90.here hx rfl (hb hby at_536) rfl (XS.iload X90.here hx rfl (hb hby at_538) rfl (XS.aload X90.here hx rfl (hb hby at_540) rfl rfl (XS.iconst X90.here hx rfl (hb hby at_542) q))))) ?_
                          show OG (T90.setTop (mkF m 543 #[vI p0, vI p1, vI p2, vI p3, vI (p0 &&& (3 : Int32)), vR kd, vI (Int32.ofNat lt), vI (1 : Int32), vI x, vI ((p2 &&& (3 : Int32)) + (1 : Int32)), vI (Int32.ofNat c0), vI (Int32.ofNat c1), vI (Int32.ofNat c2), vI (Int32.ofNat c3), vR a, vR b23, vI (Int32.ofNat nd), vR b36, vR b42, vR S, .unset] [(.int (5 : Int32)), (.ref b23), (.int (Int32.ofNat nd)), (.int x), (.ref b36)]))
                          have f91 := (f89.keep K90 (ninS nq39 nin0))
                          refine own_static X90 hx hZ hown (wd hw 264 rfl) (wd hw 265 rfl) (wd hw 6 rfl) (wd hw 266 rfl) (by decide) rfl (argsL := [(.ref b36), (.int x), (.int (Int32.ofNat nd)), (.ref b23), (.int (5 : Int32))]) (rest := []) (rm51 l Z a0 hw [] b36 x X nd b23 5 _ Fp T90.heap n0 Z90 A90 G36 f91 hP hX q2 (by decide)) 0 (by decide) (by decide) (by decide) (by decide) (by rw [hml]; rfl) pd_35 rfl rfl (Nat.le_of_eq rfl) (hb hby at_543) rfl ?_
                          intro v92 T92 L92 X92 hQ92
                          obtain ⟨rfl, N92q, K92, A92⟩ := hQ92
                          have N92 := Fr.app N90 N92q
                          show OG (T92.setTop (mkF m 546 _ []))
                          have Z92 : n0 ≤ T92.heap.size := Nat.le_trans Z90 K92.1
                          refine own_go (fun _ q => XS.aload X92.here hx rfl (hb hby at_546) rfl rfl (XS.iload X92.here hx rfl (hb hby at_548) rfl (XS.iload X92.here hx rfl (hb hby at_550) rfl (XS.aload X92.here hx rfl (hb hby at_552) rfl rfl (XS.bipush X92.here hx rfl (hb hby at_554) q))))) ?_
                          show OG (T92.setTop (mkF m 556 _ [(.int (6 : Int32)), (.ref b23), (.int (Int32.ofNat nd)), (.int x), (.ref b36)]))
                          have f93 := (f91.keep K92 (ninS nq39 nin0))
                          refine own_static X92 hx hZ hown (wd hw 264 rfl) (wd hw 265 rfl) (wd hw 6 rfl) (wd hw 266 rfl) (by decide) rfl (argsL := [(.ref b36), (.int x), (.int (Int32.ofNat nd)), (.ref b23), (.int (6 : Int32))]) (rest := []) (rm51 l Z a0 hw [] b36 x X nd b23 6 _ Fp T92.heap n0 Z92 A92 G36 f93 hP hX q2 (by decide)) 0 (by decide) (by decide) (by decide) (by decide) (by rw [hml]; rfl) pd_35 rfl rfl (Nat.le_of_eq rfl) (hb hby at_556) rfl ?_
                          intro v94 T94 L94 X94 hQ94
                          obtain ⟨rfl, N94q, K94, A94⟩ := hQ94
                          have N94 := Fr.app N92 N94q
                          show OG (T94.setTop (mkF m 559 _ []))
                          have Z94 : n0 ≤ T94.heap.size := Nat.le_trans Z92 K94.1
                          refine own_go (fun _ q => XS.aload X94.here hx rfl (hb hby at_559) rfl rfl (XS.iload X94.here hx rfl (hb hby at_561) rfl (XS.iload X94.here hx rfl (hb hby at_563) rfl (XS.aload X94.here hx rfl (hb hby at_565) rfl rfl (XS.bipush X94.here hx rfl (hb hby at_567) q))))) ?_
                          show OG (T94.setTop (mkF m 569 #[vI p0, vI p1, vI p2, vI p3, vI (p0 &&& (3 : Int32)), vR kd, vI (Int32.ofNat lt), vI (1 : Int32), vI x, vI ((p2 &&& (3 : Int32)) + (1 : Int32)), vI (Int32.ofNat c0), vI (Int32.ofNat c1), vI (Int32.ofNat c2), vI (Int32.ofNat c3), vR a, vR b23, vI (Int32.ofNat nd), vR b36, vR b42, vR S, .unset] [(.int (7 : Int32)), (.ref b23), (.int (Int32.ofNat nd)), (.int x), (.ref b36)]))
                          have f95 := (f93.keep K94 (ninS nq39 nin0))
                          refine own_static X94 hx hZ hown (wd hw 264 rfl) (wd hw 265 rfl) (wd hw 6 rfl) (wd hw 266 rfl) (by decide) rfl (argsL := [(.ref b36), (.int x), (.int (Int32.ofNat nd)), (.ref b23), (.int (7 : Int32))]) (rest := []) (rm51 l Z a0 hw [] b36 x X nd b23 7 _ Fp T94.heap n0 Z94 A94 G36 f95 hP hX q2 (by decide)) 0 (by decide) (by decide) (by decide) (by decide) (by rw [hml]; rfl) pd_35 rfl rfl (Nat.le_of_eq rfl) (hb hby at_569) rfl ?_
                          intro v96 T96 L96 X96 hQ96
                          obtain ⟨rfl, N96q, K96, A96⟩ := hQ96
                          have N96 := Fr.app N94 N96q
                          show OG (T96.setTop (mkF m 572 _ []))
                          have Z96 : n0 ≤ T96.heap.size := Nat.le_trans Z94 K96.1
                          refine own_go (fun _ q => XS.aload X96.here hx rfl (hb hby at_572) rfl rfl (XS.iload X96.here hx rfl (hb hby at_574) rfl (XS.iload X96.here hx rfl (hb hby at_576) rfl (XS.aload X96.here hx rfl (hb hby at_578) rfl rfl (XS.bipush X96.here hx rfl (hb hby at_580) q))))) ?_
                          show OG (T96.setTop (mkF m 582 _ [(.int (8 : Int32)), (.ref b23), (.int (Int32.ofNat nd)), (.int x), (.ref b36)]))
                          have f97 := (f95.keep K96 (ninS nq39 nin0))
                          refine own_static X96 hx hZ hown (wd hw 264 rfl) (wd hw 265 rfl) (wd hw 6 rfl) (wd hw 266 rfl) (by decide) rfl (argsL := [(.ref b36), (.int x), (.int (Int32.ofNat nd)), (.ref b23), (.int (8 : Int32))]) (rest := []) (rm51 l Z a0 hw [] b36 x X nd b23 8 _ Fp T96.heap n0 Z96 A96 G36 f97 hP hX q2 (by decide)) 0 (by decide) (by decide) (by decide) (by decide) (by rw [hml]; rfl) pd_35 rfl rfl (Nat.le_of_eq rfl) (hb hby at_582) rfl ?_
                          intro v98 T98 L98 X98 hQ98
                          obtain ⟨rfl, N98q, K98, A98⟩ := hQ98
                          have N98 := Fr.app N96 N98q
                          show OG (T98.setTop (mkF m 585 _ []))
                          have Z98 : n0 ≤ T98.heap.size := Nat.le_trans Z96 K98.1
                          refine own_go (fun _ q => XS.aload X98.here hx rfl (hb hby at_585) rfl rfl (XS.iload X98.here hx rfl (hb hby at_587) rfl (XS.iload X98.here hx rfl (hb hby at_589) rfl (XS.aload X98.here hx rfl (hb hby at_591) rfl rfl (XS.bipush X98.here hx rfl (hb hby at_593) q))))) ?_
                          show OG (T98.setTop (mkF m 595 #[vI p0, vI p1, vI p2, vI p3, vI (p0 &&& (3 : Int32)), vR kd, vI (Int32.ofNat lt), vI (1 : Int32), vI x, vI ((p2 &&& (3 : Int32)) + (1 : Int32)), vI (Int32.ofNat c0), vI (Int32.ofNat c1), vI (Int32.ofNat c2), vI (Int32.ofNat c3), vR a, vR b23, vI (Int32.ofNat nd), vR b36, vR b42, vR S, .unset] [(.int (9 : Int32)), (.ref b23), (.int (Int32.ofNat nd)), (.int x), (.ref b36)]))
                          have f99 := (f97.keep K98 (ninS nq39 nin0))
                          refine own_static X98 hx hZ hown (wd hw 264 rfl) (wd hw 265 rfl) (wd hw 6 rfl) (wd hw 266 rfl) (by decide) rfl (argsL := [(.ref b36), (.int x), (.int (Int32.ofNat nd)), (.ref b23), (.int (9 : Int32))]) (rest := []) (rm51 l Z a0 hw [] b36 x X nd b23 9 _ Fp T98.heap n0 Z98 A98 G36 f99 hP hX q2 (by decide)) 0 (by decide) (by decide) (by decide) (by decide) (by rw [hml]; rfl) pd_35 rfl rfl (Nat.le_of_eq rfl) (hb hby at_595) rfl ?_
                          intro v100 T100 L100 X100 hQ100
                          obtain ⟨rfl, N100q, K100, A100⟩ := hQ100
                          have N100 := Fr.app N98 N100q
                          show OG (T100.setTop (mkF m 598 _ []))
                          have Z100 : n0 ≤ T100.heap.size := Nat.le_trans Z98 K100.1
                          refine own_go (fun _ q => XS.iconst X100.here hx rfl (hb hby at_598) (XS.iload X100.here hx rfl (hb hby at_599) rfl (XS.iadd X100.here hx rfl (hb hby at_601) rfl q))) ?_
                          show OG (T100.setTop (mkF m 602 _ [(.int ((1 : Int32) + (Int32.ofNat nd)))]))
                          rw [own_1nd]
                          show OG (T100.setTop (mkF m 602 #[vI p0, vI p1, vI p2, vI p3, vI (p0 &&& (3 : Int32)), vR kd, vI (Int32.ofNat lt), vI (1 : Int32), vI x, vI ((p2 &&& (3 : Int32)) + (1 : Int32)), vI (Int32.ofNat c0), vI (Int32.ofNat c1), vI (Int32.ofNat c2), vI (Int32.ofNat c3), vR a, vR b23, vI (Int32.ofNat nd), vR b36, vR b42, vR S, .unset] [(.int (Int32.ofNat (1 + nd)))]))
                          refine own_go (fun _ q => XS.istore X100.here hx rfl (hb hby at_602) rfl (l' := #[vI p0, vI p1, vI p2, vI p3, vI (p0 &&& (3 : Int32)), vR kd, vI (Int32.ofNat lt), vI (1 : Int32), vI x, vI ((p2 &&& (3 : Int32)) + (1 : Int32)), vI (Int32.ofNat c0), vI (Int32.ofNat c1), vI (Int32.ofNat c2), vI (Int32.ofNat c3), vR a, vR b23, vI (Int32.ofNat nd), vR b36, vR b42, vR S, vI (Int32.ofNat (1 + nd))]) rfl (XS.iload X100.here hx rfl (hb hby at_604) rfl q)) ?_
                          show OG (T100.setTop (mkF m 606 #[vI p0, vI p1, vI p2, vI p3, vI (p0 &&& (3 : Int32)), vR kd, vI (Int32.ofNat lt), vI (1 : Int32), vI x, vI ((p2 &&& (3 : Int32)) + (1 : Int32)), vI (Int32.ofNat c0), vI (Int32.ofNat c1), vI (Int32.ofNat c2), vI (Int32.ofNat c3), vR a, vR b23, vI (Int32.ofNat nd), vR b36, vR b42, vR S, vI (Int32.ofNat (1 + nd))] [(.int (1 : Int32))]))
                          refine own_go (fun _ q => XS.ifNo X100.here hx rfl (hb hby at_606) rfl ((if0 _ _).trans (feq (by decide : ¬ ((1 : Int32) = (0 : Int32)))).1) q) ?_
                          show OG (T100.setTop (mkF m 609 #[vI p0, vI p1, vI p2, vI p3, vI (p0 &&& (3 : Int32)), vR kd, vI (Int32.ofNat lt), vI (1 : Int32), vI x, vI ((p2 &&& (3 : Int32)) + (1 : Int32)), vI (Int32.ofNat c0), vI (Int32.ofNat c1), vI (Int32.ofNat c2), vI (Int32.ofNat c3), vR a, vR b23, vI (Int32.ofNat nd), vR b36, vR b42, vR S, vI (Int32.ofNat (1 + nd))] []))
                          have Ag : own_By Z T100.heap b36 .char 17 (own_txt lt nd X none) := A100.weak (own_puts q2)
                          refine own_go (fun _ q => XS.aload X100.here hx rfl (hb hby at_609) rfl rfl (XS.iload X100.here hx rfl (hb hby at_611) rfl (XS.bipush X100.here hx rfl (hb hby at_613) q))) ?_
                          show OG (T100.setTop (mkF m 615 _ [(.int (91 : Int32)), (.int (Int32.ofNat (1 + nd))), (.ref b36)]))
                          refine own_cstore (i := (1 + nd)) (v := 91) X100 hx hZ rfl Ag (by decide) (by decide) (own_ofNatI (by omega)) (by omega) (hb hby at_615) rfl ?_
                          intro T101 h101 X101 e101 W101 A101
                          have N101 := Fr.snoc X101 N100 G36
                          have Z101 : n0 ≤ h101.size := by rw [W101.size]; exact Z100
                          show OG (T101.setTop (mkF m 616 _ []))
                          refine own_go (fun _ q => XS.aload X101.here hx rfl (hb hby at_616) rfl rfl (XS.iload X101.here hx rfl (hb hby at_618) rfl (XS.iconst X101.here hx rfl (hb hby at_620) (XS.iadd X101.here hx rfl (hb hby at_621) rfl (XS.iload X101.here hx rfl (hb hby at_622) rfl q))))) ?_
                          show OG (T101.setTop (mkF m 624 #[vI p0, vI p1, vI p2, vI p3, vI (p0 &&& (3 : Int32)), vR kd, vI (Int32.ofNat lt), vI (1 : Int32), vI x, vI ((p2 &&& (3 : Int32)) + (1 : Int32)), vI (Int32.ofNat c0), vI (Int32.ofNat c1), vI (Int32.ofNat c2), vI (Int32.ofNat c3), vR a, vR b23, vI (Int32.ofNat nd), vR b36, vR b42, vR S, vI (Int32.ofNat (1 + nd))] [(.int (Int32.ofNat c0)), (.int ((Int32.ofNat (1 + nd)) + (1 : Int32))), (.ref b36)]))
                          refine own_cstore (i := (1 + nd + 1)) (v := c0) X101 hx hZ e101 A101 (own_okc_lt hc0) rfl (own_pk (k := 1 + nd) (r := 1) (by omega)) (by omega) (hb hby at_624) rfl ?_
                          intro T102 h102 X102 e102 W102 A102
                          have N102 := Fr.snoc X102 N101 G36
                          have Z102 : n0 ≤ h102.size := by rw [W102.size]; exact Z101
                          show OG (T102.setTop (mkF m 625 _ []))
                          refine own_go (fun _ q => XS.iload X102.here hx rfl (hb hby at_625) rfl (XS.iconst X102.here hx rfl (hb hby at_627) q)) ?_
                          show OG (T102.setTop (mkF m 628 _ [(.int (1 : Int32)), (.int ((p2 &&& (3 : Int32)) + (1 : Int32)))]))
                          have t670 : ∀ (ge : Nat → Option Nat) (Tq : State) (hhq : Heap) (locsq : List Loc), Stand p l e room_1 (s.setVm T55.vm) m #[(.int p0), (.int p1), (.int p2), (.int p3)] below meth c Tq locsq 40 1408 → Tq.heap = hhq → Fr n0 locsq → n0 ≤ hhq.size → T55.heap.size ≤ hhq.size → Old Z n0 hhq → Exa Z hhq S "java/lang/String" → Fld Z hhq S "java/lang/String" "coder" "B" (.int 0) → Fld Z hhq S "java/lang/String" "value" "[B" (.ref rS) → own_By Z hhq rS .byte (1 + nd + 1 + n + 1) (own_txt lt nd X (some (n, fun j => cs[j]?))) → own_By Z hhq b36 .char 17 ge → (∀ j v, j < 1 + nd + 1 + n → (own_txt lt nd X (some (n, fun j => cs[j]?))) j = some v → ge j = some v) → own_Go p e below (s, true) (Q0 Z p0 p1 p2 p3 kr kw kc ka d1 d2 fv zc h0 n0) room_1.cells room_1.slots (Tq.setTop (mkF m 670 #[vI p0, vI p1, vI p2, vI p3, vI (p0 &&& (3 : Int32)), vR kd, vI (Int32.ofNat lt), vI (1 : Int32), vI x, vI ((p2 &&& (3 : Int32)) + (1 : Int32)), vI (Int32.ofNat c0), vI (Int32.ofNat c1), vI (Int32.ofNat c2), vI (Int32.ofNat c3), vR a, vR b23, vI (Int32.ofNat nd), vR b36, vR b42, vR S, vI (Int32.ofNat (1 + nd))] [])) := by
                            intro ge Tq hhq locsq Xq_ ehq Nlq Zhq hkq Ohq Esq Csq Vsq Asq Beq hge
                            show OG (Tq.setTop (mkF m 670 #[vI p0, vI p1, vI p2, vI p3, vI (p0 &&& (3 : Int32)), vR kd, vI (Int32.ofNat lt), vI (1 : Int32), vI x, vI ((p2 &&& (3 : Int32)) + (1 : Int32)), vI (Int32.ofNat c0), vI (Int32.ofNat c1), vI (Int32.ofNat c2), vI (Int32.ofNat c3), vR a, vR b23, vI (Int32.ofNat nd), vR b36, vR b42, vR S, vI (Int32.ofNat (1 + nd))] []))
                            refine own_go (fun _ q => XS.aload Xq_.here hx rfl (hb hby at_670) rfl rfl (XS.iload Xq_.here hx rfl (hb hby at_672) rfl (XS.iconst Xq_.here hx rfl (hb hby at_674) (XS.iadd Xq_.here hx rfl (hb hby at_675) rfl (XS.iload Xq_.here hx rfl (hb hby at_676) rfl (XS.iadd Xq_.here hx rfl (hb hby at_678) rfl (XS.bipush Xq_.here hx rfl (hb hby at_679) q))))))) ?_
                            show OG (Tq.setTop (mkF m 681 _ [(.int (93 : Int32)), (.int (((Int32.ofNat (1 + nd)) + (1 : Int32)) + ((p2 &&& (3 : Int32)) + (1 : Int32)))), (.ref b36)]))
                            refine own_cstore (i := (1 + nd + 1 + n)) (v := 93) Xq_ hx hZ ehq Beq (by decide) (by decide) (own_pkn hln (by omega)) (by omega) (hb hby at_681) rfl ?_
                            intro T103 h103 X103 e103 W103 A103
                            have N103 := Fr.snoc X103 Nlq G36
                            have Z103 : n0 ≤ h103.size := by rw [W103.size]; exact Zhq
                            show OG (T103.setTop (mkF m 682 _ []))
                            refine own_go (fun _ q => XS.iload X103.here hx rfl (hb hby at_682) rfl (XS.iconst X103.here hx rfl (hb hby at_684) (XS.iadd X103.here hx rfl (hb hby at_685) rfl (XS.iload X103.here hx rfl (hb hby at_686) rfl (XS.iadd X103.here hx rfl (hb hby at_688) rfl q))))) ?_
                            show OG (T103.setTop (mkF m 689 #[vI p0, vI p1, vI p2, vI p3, vI (p0 &&& (3 : Int32)), vR kd, vI (Int32.ofNat lt), vI (1 : Int32), vI x, vI ((p2 &&& (3 : Int32)) + (1 : Int32)), vI (Int32.ofNat c0), vI (Int32.ofNat c1), vI (Int32.ofNat c2), vI (Int32.ofNat c3), vR a, vR b23, vI (Int32.ofNat nd), vR b36, vR b42, vR S, vI (Int32.ofNat (1 + nd))] [(.int (((Int32.ofNat (1 + nd)) + (2 : Int32)) + ((p2 &&& (3 : Int32)) + (1 : Int32))))]))
                            rw [own_pk2 (k := 1 + nd) hln (by omega)]
                            show OG (T103.setTop (mkF m 689 #[vI p0, vI p1, vI p2, vI p3, vI (p0 &&& (3 : Int32)), vR kd, vI (Int32.ofNat lt), vI (1 : Int32), vI x, vI ((p2 &&& (3 : Int32)) + (1 : Int32)), vI (Int32.ofNat c0), vI (Int32.ofNat c1), vI (Int32.ofNat c2), vI (Int32.ofNat c3), vR a, vR b23, vI (Int32.ofNat nd), vR b36, vR b42, vR S, vI (Int32.ofNat (1 + nd))] [(.int (Int32.ofNat (1 + nd + 1 + n + 1)))]))
                            have Ah : own_By Z h103 b36 .char 17 (own_txt lt nd X (some (n, fun j => cs[j]?))) := A103.weak (own_we1 hge)
                            refine own_go (fun _ q => XS.istore X103.here hx rfl (hb hby at_689) rfl (l' := #[vI p0, vI p1, vI p2, vI p3, vI (p0 &&& (3 : Int32)), vR kd, vI (Int32.ofNat lt), vI (1 : Int32), vI x, vI ((p2 &&& (3 : Int32)) + (1 : Int32)), vI (Int32.ofNat c0), vI (Int32.ofNat c1), vI (Int32.ofNat c2), vI (Int32.ofNat c3), vR a, vR b23, vI (Int32.ofNat nd), vR b36, vR b42, vR S, vI (Int32.ofNat (1 + nd + 1 + n + 1))]) rfl q) ?_
                            show OG (T103.setTop (mkF m 691 #[vI p0, vI p1, vI p2, vI p3, vI (p0 &&& (3 : Int32)), vR kd, vI (Int32.ofNat lt), vI (1 : Int32), vI x, vI ((p2 &&& (3 : Int32)) + (1 : Int32)), vI (Int32.ofNat c0), vI (Int32.ofNat c1), vI (Int32.ofNat c2), vI (Int32.ofNat c3), vR a, vR b23, vI (Int32.ofNat nd), vR b36, vR b42, vR S, vI (Int32.ofNat (1 + nd + 1 + n + 1))] []))
                            show OG (T103.setTop (mkF m 691 #[vI p0, vI p1, vI p2, vI p3, vI (p0 &&& (3 : Int32)), vR kd, vI (Int32.ofNat lt), vI (1 : Int32), vI x, vI ((p2 &&& (3 : Int32)) + (1 : Int32)), vI (Int32.ofNat c0), vI (Int32.ofNat c1), vI (Int32.ofNat c2), vI (Int32.ofNat c3), vR a, vR b23, vI (Int32.ofNat nd), vR b36, vR b42, vR S, vI (Int32.ofNat (1 + nd + 1 + n + 1))] []))
                            have f104 := (Ohq.wr W103 G36)
                            have f105 := (Esq.wr W103)
                            have f106 := (Csq.other W103 (Or.inl (Ne.symm nq71)))
                            have f107 := (Vsq.other W103 (Or.inl (Ne.symm nq71)))
                            have f108 := (Asq.other W103 (Ne.symm nq76))
                            exact t691 _ _ S rS b36 (1 + nd + 1 + n + 1) (own_txt lt nd X (some (n, fun j => cs[j]?))) _ _ _ _ _ _ _ _ _ _ _ _ _ _ _ _ _ _ _ _ _ (X103.more (by decide) (by decide)) hS0 hZ hown e103 N103 Z103 (Nat.le_trans hkq (Nat.le_trans (Nat.le_refl _) (Nat.le_of_eq W103.size.symm))) f104 f105 f106 f107 f108 Ah (by omega) (own_txtE1 hlt hg)
                          by_cases hm1 : (1 : Int32) < ((p2 &&& (3 : Int32)) + (1 : Int32))
                          · refine own_go (fun _ q => XS.icmpNo X102.here hx rfl (hb hby at_628) rfl (tlt hm1).2.2.2 q) ?_
                            show OG (T102.setTop (mkF m 631 #[vI p0, vI p1, vI p2, vI p3, vI (p0 &&& (3 : Int32)), vR kd, vI (Int32.ofNat lt), vI (1 : Int32), vI x, vI ((p2 &&& (3 : Int32)) + (1 : Int32)), vI (Int32.ofNat c0), vI (Int32.ofNat c1), vI (Int32.ofNat c2), vI (Int32.ofNat c3), vR a, vR b23, vI (Int32.ofNat nd), vR b36, vR b42, vR S, vI (Int32.ofNat (1 + nd))] []))
                            refine own_go (fun _ q => XS.aload X102.here hx rfl (hb hby at_631) rfl rfl (XS.iload X102.here hx rfl (hb hby at_633) rfl (XS.iconst X102.here hx rfl (hb hby at_635) (XS.iadd X102.here hx rfl (hb hby at_636) rfl (XS.iload X102.here hx rfl (hb hby at_637) rfl q))))) ?_
                            show OG (T102.setTop (mkF m 639 _ [(.int (Int32.ofNat c1)), (.int ((Int32.ofNat (1 + nd)) + (2 : Int32))), (.ref b36)]))
                            refine own_cstore (i := (1 + nd + 2)) (v := c1) X102 hx hZ e102 A102 (own_okc_lt hc1) rfl (own_pk (k := 1 + nd) (r := 2) (by omega)) (by omega) (hb hby at_639) rfl ?_
                            intro T109 h109 X109 e109 W109 A109
                            have N109 := Fr.snoc X109 N102 G36
                            have Z109 : n0 ≤ h109.size := by rw [W109.size]; exact Z102
                            show OG (T109.setTop (mkF m 640 _ []))
                            refine own_go (fun _ q => XS.iload X109.here hx rfl (hb hby at_640) rfl (XS.iconst X109.here hx rfl (hb hby at_642) q)) ?_
                            show OG (T109.setTop (mkF m 643 #[vI p0, vI p1, vI p2, vI p3, vI (p0 &&& (3 : Int32)), vR kd, vI (Int32.ofNat lt), vI (1 : Int32), vI x, vI ((p2 &&& (3 : Int32)) + (1 : Int32)), vI (Int32.ofNat c0), vI (Int32.ofNat c1), vI (Int32.ofNat c2), vI (Int32.ofNat c3), vR a, vR b23, vI (Int32.ofNat nd), vR b36, vR b42, vR S, vI (Int32.ofNat (1 + nd))] [(.int (2 : Int32)), (.int ((p2 &&& (3 : Int32)) + (1 : Int32)))]))
                            by_cases hm2 : (2 : Int32) < ((p2 &&& (3 : Int32)) + (1 : Int32))
                            · refine own_go (fun _ q => XS.icmpNo X109.here hx rfl (hb hby at_643) rfl (tlt hm2).2.2.2 q) ?_
                              show OG (T109.setTop (mkF m 646 #[vI p0, vI p1, vI p2, vI p3, vI (p0 &&& (3 : Int32)), vR kd, vI (Int32.ofNat lt), vI (1 : Int32), vI x, vI ((p2 &&& (3 : Int32)) + (1 : Int32)), vI (Int32.ofNat c0), vI (Int32.ofNat c1), vI (Int32.ofNat c2), vI (Int32.ofNat c3), vR a, vR b23, vI (Int32.ofNat nd), vR b36, vR b42, vR S, vI (Int32.ofNat (1 + nd))] []))
                              refine own_go (fun _ q => XS.aload X109.here hx rfl (hb hby at_646) rfl rfl (XS.iload X109.here hx rfl (hb hby at_648) rfl (XS.iconst X109.here hx rfl (hb hby at_650) (XS.iadd X109.here hx rfl (hb hby at_651) rfl (XS.iload X109.here hx rfl (hb hby at_652) rfl q))))) ?_
                              show OG (T109.setTop (mkF m 654 _ [(.int (Int32.ofNat c2)), (.int ((Int32.ofNat (1 + nd)) + (3 : Int32))), (.ref b36)]))
                              refine own_cstore (i := (1 + nd + 3)) (v := c2) X109 hx hZ e109 A109 (own_okc_lt hc2) rfl (own_pk (k := 1 + nd) (r := 3) (by omega)) (by omega) (hb hby at_654) rfl ?_
                              intro T110 h110 X110 e110 W110 A110
                              have N110 := Fr.snoc X110 N109 G36
                              have Z110 : n0 ≤ h110.size := by rw [W110.size]; exact Z109
                              show OG (T110.setTop (mkF m 655 _ []))
                              refine own_go (fun _ q => XS.iload X110.here hx rfl (hb hby at_655) rfl (XS.iconst X110.here hx rfl (hb hby at_657) q)) ?_
                              show OG (T110.setTop (mkF m 658 #[vI p0, vI p1, vI p2, vI p3, vI (p0 &&& (3 : Int32)), vR kd, vI (Int32.ofNat lt), vI (1 : Int32), vI x, vI ((p2 &&& (3 : Int32)) + (1 : Int32)), vI (Int32.ofNat c0), vI (Int32.ofNat c1), vI (Int32.ofNat c2), vI (Int32.ofNat c3), vR a, vR b23, vI (Int32.ofNat nd), vR b36, vR b42, vR S, vI (Int32.ofNat (1 + nd))] [(.int (3 : Int32)), (.int ((p2 &&& (3 : Int32)) + (1 : Int32)))]))
                              by_cases hm3 : (3 : Int32) < ((p2 &&& (3 : Int32)) + (1 : Int32))
                              · refine own_go (fun _ q => XS.icmpNo X110.here hx rfl (hb hby at_658) rfl (tlt hm3).2.2.2 q) ?_
                                show OG (T110.setTop (mkF m 661 #[vI p0, vI p1, vI p2, vI p3, vI (p0 &&& (3 : Int32)), vR kd, vI (Int32.ofNat lt), vI (1 : Int32), vI x, vI ((p2 &&& (3 : Int32)) + (1 : Int32)), vI (Int32.ofNat c0), vI (Int32.ofNat c1), vI (Int32.ofNat c2), vI (Int32.ofNat c3), vR a, vR b23, vI (Int32.ofNat nd), vR b36, vR b42, vR S, vI (Int32.ofNat (1 + nd))] []))
                                refine own_go (fun _ q => XS.aload X110.here hx rfl (hb hby at_661) rfl rfl (XS.iload X110.here hx rfl (hb hby at_663) rfl (XS.iconst X110.here hx rfl (hb hby at_665) (XS.iadd X110.here hx rfl (hb hby at_666) rfl (XS.iload X110.here hx rfl (hb hby at_667) rfl q))))) ?_
                                show OG (T110.setTop (mkF m 669 _ [(.int (Int32.ofNat c3)), (.int ((Int32.ofNat (1 + nd)) + (4 : Int32))), (.ref b36)]))
                                refine own_cstore (i := (1 + nd + 4)) (v := c3) X110 hx hZ e110 A110 (own_okc_lt hc3) rfl (own_pk (k := 1 + nd) (r := 4) (by omega)) (by omega) (hb hby at_669) rfl ?_
                                intro T111 h111 X111 e111 W111 A111
                                have N111 := Fr.snoc X111 N110 G36
                                have Z111 : n0 ≤ h111.size := by rw [W111.size]; exact Z110
                                show OG (T111.setTop (mkF m 670 _ []))
                                have f112 := (((((((((((((((((f67.keep K68 all0).wr W79 G36).keep K82 (allS G36 all0)).keep K84 (allS G36 all0)).keep K86 (allS G36 all0)).keep K88 (allS G36 all0)).keep K90 (allS G36 all0)).keep K92 (allS G36 all0)).keep K94 (allS G36 all0)).keep K96 (allS G36 all0)).keep K98 (allS G36 all0)).keep K100 (allS G36 all0)).wr W101 G36).wr W102 G36).wr W109 G36).wr W110 G36).wr W111 G36)
                                have f113 := ((((((((((((((((J1.wr W79).keep K82).keep K84).keep K86).keep K88).keep K90).keep K92).keep K94).keep K96).keep K98).keep K100).wr W101).wr W102).wr W109).wr W110).wr W111)
                                have f114 := ((((((((((((((((J2.other W79 (Or.inl (Ne.symm nq71))).keep K82 (ninS (Ne.symm nq71) nin0)).keep K84 (ninS (Ne.symm nq71) nin0)).keep K86 (ninS (Ne.symm nq71) nin0)).keep K88 (ninS (Ne.symm nq71) nin0)).keep K90 (ninS (Ne.symm nq71) nin0)).keep K92 (ninS (Ne.symm nq71) nin0)).keep K94 (ninS (Ne.symm nq71) nin0)).keep K96 (ninS (Ne.symm nq71) nin0)).keep K98 (ninS (Ne.symm nq71) nin0)).keep K100 (ninS (Ne.symm nq71) nin0)).other W101 (Or.inl (Ne.symm nq71))).other W102 (Or.inl (Ne.symm nq71))).other W109 (Or.inl (Ne.symm nq71))).other W110 (Or.inl (Ne.symm nq71))).other W111 (Or.inl (Ne.symm nq71)))
                                have f115 := ((((((((((((((((J5.other W79 (Or.inl (Ne.symm nq71))).keep K82 (ninS (Ne.symm nq71) nin0)).keep K84 (ninS (Ne.symm nq71) nin0)).keep K86 (ninS (Ne.symm nq71) nin0)).keep K88 (ninS (Ne.symm nq71) nin0)).keep K90 (ninS (Ne.symm nq71) nin0)).keep K92 (ninS (Ne.symm nq71) nin0)).keep K94 (ninS (Ne.symm nq71) nin0)).keep K96 (ninS (Ne.symm nq71) nin0)).keep K98 (ninS (Ne.symm nq71) nin0)).keep K100 (ninS (Ne.symm nq71) nin0)).other W101 (Or.inl (Ne.symm nq71))).other W102 (Or.inl (Ne.symm nq71))).other W109 (Or.inl (Ne.symm nq71))).other W110 (Or.inl (Ne.symm nq71))).other W111 (Or.inl (Ne.symm nq71)))
                                have f116 := ((((((((((((((((J6.other W79 (Ne.symm nq76)).keep K82 (ninS (Ne.symm nq76) nin0)).keep K84 (ninS (Ne.symm nq76) nin0)).keep K86 (ninS (Ne.symm nq76) nin0)).keep K88 (ninS (Ne.symm nq76) nin0)).keep K90 (ninS (Ne.symm nq76) nin0)).keep K92 (ninS (Ne.symm nq76) nin0)).keep K94 (ninS (Ne.symm nq76) nin0)).keep K96 (ninS (Ne.symm nq76) nin0)).keep K98 (ninS (Ne.symm nq76) nin0)).keep K100 (ninS (Ne.symm nq76) nin0)).other W101 (Ne.symm nq76)).other W102 (Ne.symm nq76)).other W109 (Ne.symm nq76)).other W110 (Ne.symm nq76)).other W111 (Ne.symm nq76))
                                exact t670 _ _ _ _ (X111.more (by decide) (by decide)) e111 N111 Z111 (Nat.le_trans (Nat.le_trans (Nat.le_trans (Nat.le_trans (Nat.le_trans (Nat.le_trans (Nat.le_trans (Nat.le_trans (Nat.le_trans (Nat.le_trans (Nat.le_trans (Nat.le_trans (Nat.le_trans (Nat.le_trans (Nat.le_trans (Nat.le_trans (Nat.le_trans (Nat.le_refl _) K68.1) (Nat.le_of_eq W79.size.symm)) K82.1) K84.1) K86.1) K88.1) K90.1) K92.1) K94.1) K96.1) K98.1) K100.1) (Nat.le_of_eq W101.size.symm)) (Nat.le_of_eq W102.size.symm)) (Nat.le_of_eq W109.size.symm)) (Nat.le_of_eq W110.size.symm)) (Nat.le_of_eq W111.size.symm)) f112 f113 f114 f115 f116 A111 (own_wc4 (by have a3 := own_ltI hm3; have e1_ : (1 : Int32).toInt = 1 := rfl; have e2_ : (2 : Int32).toInt = 2 := rfl; have e3_ : (3 : Int32).toInt = 3 := rfl; omega) hcs)
                              · refine own_go (fun _ q => XS.icmpYes X110.here hx rfl (pc0 := 658) (pc' := 670) rfl (hb hby at_658) rfl (flt hm3).2.2.2 (by decide) (by decide) q) ?_
                                show OG (T110.setTop (mkF m 670 #[vI p0, vI p1, vI p2, vI p3, vI (p0 &&& (3 : Int32)), vR kd, vI (Int32.ofNat lt), vI (1 : Int32), vI x, vI ((p2 &&& (3 : Int32)) + (1 : Int32)), vI (Int32.ofNat c0), vI (Int32.ofNat c1), vI (Int32.ofNat c2), vI (Int32.ofNat c3), vR a, vR b23, vI (Int32.ofNat nd), vR b36, vR b42, vR S, vI (Int32.ofNat (1 + nd))] []))
                                have f117 := ((((((((((((((((f67.keep K68 all0).wr W79 G36).keep K82 (allS G36 all0)).keep K84 (allS G36 all0)).keep K86 (allS G36 all0)).keep K88 (allS G36 all0)).keep K90 (allS G36 all0)).keep K92 (allS G36 all0)).keep K94 (allS G36 all0)).keep K96 (allS G36 all0)).keep K98 (allS G36 all0)).keep K100 (allS G36 all0)).wr W101 G36).wr W102 G36).wr W109 G36).wr W110 G36)
                                have f118 := (((((((((((((((J1.wr W79).keep K82).keep K84).keep K86).keep K88).keep K90).keep K92).keep K94).keep K96).keep K98).keep K100).wr W101).wr W102).wr W109).wr W110)
                                have f119 := (((((((((((((((J2.other W79 (Or.inl (Ne.symm nq71))).keep K82 (ninS (Ne.symm nq71) nin0)).keep K84 (ninS (Ne.symm nq71) nin0)).keep K86 (ninS (Ne.symm nq71) nin0)).keep K88 (ninS (Ne.symm nq71) nin0)).keep K90 (ninS (Ne.symm nq71) nin0)).keep K92 (ninS (Ne.symm nq71) nin0)).keep K94 (ninS (Ne.symm nq71) nin0)).keep K96 (ninS (Ne.symm nq71) nin0)).keep K98 (ninS (Ne.symm nq71) nin0)).keep K100 (ninS (Ne.symm nq71) nin0)).other W101 (Or.inl (Ne.symm nq71))).other W102 (Or.inl (Ne.symm nq71))).other W109 (Or.inl (Ne.symm nq71))).other W110 (Or.inl (Ne.symm nq71)))
                                have f120 := (((((((((((((((J5.other W79 (Or.inl (Ne.symm nq71))).keep K82 (ninS (Ne.symm nq71) nin0)).keep K84 (ninS (Ne.symm nq71) nin0)).keep K86 (ninS (Ne.symm nq71) nin0)).keep K88 (ninS (Ne.symm nq71) nin0)).keep K90 (ninS (Ne.symm nq71) nin0)).keep K92 (ninS (Ne.symm nq71) nin0)).keep K94 (ninS (Ne.symm nq71) nin0)).keep K96 (ninS (Ne.symm nq71) nin0)).keep K98 (ninS (Ne.symm nq71) nin0)).keep K100 (ninS (Ne.symm nq71) nin0)).other W101 (Or.inl (Ne.symm nq71))).other W102 (Or.inl (Ne.symm nq71))).other W109 (Or.inl (Ne.symm nq71))).other W110 (Or.inl (Ne.symm nq71)))
                                have f121 := (((((((((((((((J6.other W79 (Ne.symm nq76)).keep K82 (ninS (Ne.symm nq76) nin0)).keep K84 (ninS (Ne.symm nq76) nin0)).keep K86 (ninS (Ne.symm nq76) nin0)).keep K88 (ninS (Ne.symm nq76) nin0)).keep K90 (ninS (Ne.symm nq76) nin0)).keep K92 (ninS (Ne.symm nq76) nin0)).keep K94 (ninS (Ne.symm nq76) nin0)).keep K96 (ninS (Ne.symm nq76) nin0)).keep K98 (ninS (Ne.symm nq76) nin0)).keep K100 (ninS (Ne.symm nq76) nin0)).other W101 (Ne.symm nq76)).other W102 (Ne.symm nq76)).other W109 (Ne.symm nq76)).other W110 (Ne.symm nq76))
                                exact t670 _ _ _ _ (X110.more (by decide) (by decide)) e110 N110 Z110 (Nat.le_trans (Nat.le_trans (Nat.le_trans (Nat.le_trans (Nat.le_trans (Nat.le_trans (Nat.le_trans (Nat.le_trans (Nat.le_trans (Nat.le_trans (Nat.le_trans (Nat.le_trans (Nat.le_trans (Nat.le_trans (Nat.le_trans (Nat.le_trans (Nat.le_refl _) K68.1) (Nat.le_of_eq W79.size.symm)) K82.1) K84.1) K86.1) K88.1) K90.1) K92.1) K94.1) K96.1) K98.1) K100.1) (Nat.le_of_eq W101.size.symm)) (Nat.le_of_eq W102.size.symm)) (Nat.le_of_eq W109.size.symm)) (Nat.le_of_eq W110.size.symm)) f117 f118 f119 f120 f121 A110 (own_wc3 (by have a3 := own_ltI hm2; have b3 := own_nltI hm3; have e1_ : (1 : Int32).toInt = 1 := rfl; have e2_ : (2 : Int32).toInt = 2 := rfl; have e3_ : (3 : Int32).toInt = 3 := rfl; omega) hcs)
                            · refine own_go (fun _ q => XS.icmpYes X109.here hx rfl (pc0 := 643) (pc' := 655) rfl (hb hby at_643) rfl (flt hm2).2.2.2 (by decide) (by decide) q) ?_
                              show OG (T109.setTop (mkF m 655 #[vI p0, vI p1, vI p2, vI p3, vI (p0 &&& (3 : Int32)), vR kd, vI (Int32.ofNat lt), vI (1 : Int32), vI x, vI ((p2 &&& (3 : Int32)) + (1 : Int32)), vI (Int32.ofNat c0), vI (Int32.ofNat c1), vI (Int32.ofNat c2), vI (Int32.ofNat c3), vR a, vR b23, vI (Int32.ofNat nd), vR b36, vR b42, vR S, vI (Int32.ofNat (1 + nd))] []))
                              refine own_go (fun _ q => XS.iload X109.here hx rfl (hb hby at_655) rfl (XS.iconst X109.here hx rfl (hb hby at_657) q)) ?_
                              show OG (T109.setTop (mkF m 658 _ [(.int (3 : Int32)), (.int ((p2 &&& (3 : Int32)) + (1 : Int32)))]))
                              refine own_go (fun _ q => XS.icmpYes X109.here hx rfl (pc0 := 658) (pc' := 670) rfl (hb hby at_658) rfl (flt (own_nlt (x := (3 : Int32)) (by have b3 := own_nltI hm2; have e1_ : (1 : Int32).toInt = 1 := rfl; have e2_ : (2 : Int32).toInt = 2 := rfl; have e3_ : (3 : Int32).toInt = 3 := rfl; omega))).2.2.2 (by decide) (by decide) q) ?_
                              show OG (T109.setTop (mkF m 670 #[vI p0, vI p1, vI p2, vI p3, vI (p0 &&& (3 : Int32)), vR kd, vI (Int32.ofNat lt), vI (1 : Int32), vI x, vI ((p2 &&& (3 : Int32)) + (1 : Int32)), vI (Int32.ofNat c0), vI (Int32.ofNat c1), vI (Int32.ofNat c2), vI (Int32.ofNat c3), vR a, vR b23, vI (Int32.ofNat nd), vR b36, vR b42, vR S, vI (Int32.ofNat (1 + nd))] []))
                              have f122 := (((((((((((((((f67.keep K68 all0).wr W79 G36).keep K82 (allS G36 all0)).keep K84 (allS G36 all0)).keep K86 (allS G36 all0)).keep K88 (allS G36 all0)).keep K90 (allS G36 all0)).keep K92 (allS G36 all0)).keep K94 (allS G36 all0)).keep K96 (allS G36 all0)).keep K98 (allS G36 all0)).keep K100 (allS G36 all0)).wr W101 G36).wr W102 G36).wr W109 G36)
                              have f123 := ((((((((((((((J1.wr W79).keep K82).keep K84).keep K86).keep K88).keep K90).keep K92).keep K94).keep K96).keep K98).keep K100).wr W101).wr W102).wr W109)
                              have f124 := ((((((((((((((J2.other W79 (Or.inl (Ne.symm nq71))).keep K82 (ninS (Ne.symm nq71) nin0)).keep K84 (ninS (Ne.symm nq71) nin0)).keep K86 (ninS (Ne.symm nq71) nin0)).keep K88 (ninS (Ne.symm nq71) nin0)).keep K90 (ninS (Ne.symm nq71) nin0)).keep K92 (ninS (Ne.symm nq71) nin0)).keep K94 (ninS (Ne.symm nq71) nin0)).keep K96 (ninS (Ne.symm nq71) nin0)).keep K98 (ninS (Ne.symm nq71) nin0)).keep K100 (ninS (Ne.symm nq71) nin0)).other W101 (Or.inl (Ne.symm nq71))).other W102 (Or.inl (Ne.symm nq71))).other W109 (Or.inl (Ne.symm nq71)))
                              have f125 := ((((((((((((((J5.other W79 (Or.inl (Ne.symm nq71))).keep K82 (ninS (Ne.symm nq71) nin0)).keep K84 (ninS (Ne.symm nq71) nin0)).keep K86 (ninS (Ne.symm nq71) nin0)).keep K88 (ninS (Ne.symm nq71) nin0)).keep K90 (ninS (Ne.symm nq71) nin0)).keep K92 (ninS (Ne.symm nq71) nin0)).keep K94 (ninS (Ne.symm nq71) nin0)).keep K96 (ninS (Ne.symm nq71) nin0)).keep K98 (ninS (Ne.symm nq71) nin0)).keep K100 (ninS (Ne.symm nq71) nin0)).other W101 (Or.inl (Ne.symm nq71))).other W102 (Or.inl (Ne.symm nq71))).other W109 (Or.inl (Ne.symm nq71)))
                              have f126 := ((((((((((((((J6.other W79 (Ne.symm nq76)).keep K82 (ninS (Ne.symm nq76) nin0)).keep K84 (ninS (Ne.symm nq76) nin0)).keep K86 (ninS (Ne.symm nq76) nin0)).keep K88 (ninS (Ne.symm nq76) nin0)).keep K90 (ninS (Ne.symm nq76) nin0)).keep K92 (ninS (Ne.symm nq76) nin0)).keep K94 (ninS (Ne.symm nq76) nin0)).keep K96 (ninS (Ne.symm nq76) nin0)).keep K98 (ninS (Ne.symm nq76) nin0)).keep K100 (ninS (Ne.symm nq76) nin0)).other W101 (Ne.symm nq76)).other W102 (Ne.symm nq76)).other W109 (Ne.symm nq76))
                              exact t670 _ _ _ _ (X109.more (by decide) (by decide)) e109 N109 Z109 (Nat.le_trans (Nat.le_trans (Nat.le_trans (Nat.le_trans (Nat.le_trans (Nat.le_trans (Nat.le_trans (Nat.le_trans (Nat.le_trans (Nat.le_trans (Nat.le_trans (Nat.le_trans (Nat.le_trans (Nat.le_trans (Nat.le_trans (Nat.le_refl _) K68.1) (Nat.le_of_eq W79.size.symm)) K82.1) K84.1) K86.1) K88.1) K90.1) K92.1) K94.1) K96.1) K98.1) K100.1) (Nat.le_of_eq W101.size.symm)) (Nat.le_of_eq W102.size.symm)) (Nat.le_of_eq W109.size.symm)) f122 f123 f124 f125 f126 A109 (own_wc2 (by have a3 := own_ltI hm1; have b3 := own_nltI hm2; have e1_ : (1 : Int32).toInt = 1 := rfl; have e2_ : (2 : Int32).toInt = 2 := rfl; have e3_ : (3 : Int32).toInt = 3 := rfl; omega) hcs)
                          · refine own_go (fun _ q => XS.icmpYes X102.here hx rfl (pc0 := 628) (pc' := 640) rfl (hb hby at_628) rfl (flt hm1).2.2.2 (by decide) (by decide) q) ?_
                            show OG (T102.setTop (mkF m 640 #[vI p0, vI p1, vI p2, vI p3, vI (p0 &&& (3 : Int32)), vR kd, vI (Int32.ofNat lt), vI (1 : Int32), vI x, vI ((p2 &&& (3 : Int32)) + (1 : Int32)), vI (Int32.ofNat c0), vI (Int32.ofNat c1), vI (Int32.ofNat c2), vI (Int32.ofNat c3), vR a, vR b23, vI (Int32.ofNat nd), vR b36, vR b42, vR S, vI (Int32.ofNat (1 + nd))] []))
                            refine own_go (fun _ q => XS.iload X102.here hx rfl (hb hby at_640) rfl (XS.iconst X102.here hx rfl (hb hby at_642) q)) ?_
                            show OG (T102.setTop (mkF m 643 _ [(.int (2 : Int32)), (.int ((p2 &&& (3 : Int32)) + (1 : Int32)))]))
                            refine own_go (fun _ q => XS.icmpYes X102.here hx rfl (pc0 := 643) (pc' := 655) rfl (hb hby at_643) rfl (flt (own_nlt (x := (2 : Int32)) (by have b3 := own_nltI hm1; have e1_ : (1 : Int32).toInt = 1 := rfl; have e2_ : (2 : Int32).toInt = 2 := rfl; have e3_ : (3 : Int32).toInt = 3 := rfl; omega))).2.2.2 (by decide) (by decide) q) ?_
                            show OG (T102.setTop (mkF m 655 #[vI p0, vI p1, vI p2, vI p3, vI (p0 &&& (3 : Int32)), vR kd, vI (Int32.ofNat lt), vI (1 : Int32), vI x, vI ((p2 &&& (3 : Int32)) + (1 : Int32)), vI (Int32.ofNat c0), vI (Int32.ofNat c1), vI (Int32.ofNat c2), vI (Int32.ofNat c3), vR a, vR b23, vI (Int32.ofNat nd), vR b36, vR b42, vR S, vI (Int32.ofNat (1 + nd))] []))
                            refine own_go (fun _ q => XS.iload X102.here hx rfl (hb hby at_655) rfl (XS.iconst X102.here hx rfl (hb hby at_657) q)) ?_
                            show OG (T102.setTop (mkF m 658 _ [(.int (3 : Int32)), (.int ((p2 &&& (3 : Int32)) + (1 : Int32)))]))
                            refine own_go (fun _ q => XS.icmpYes X102.here hx rfl (pc0 := 658) (pc' := 670) rfl (hb hby at_658) rfl (flt (own_nlt (x := (3 : Int32)) (by have b3 := own_nltI hm1; have e1_ : (1 : Int32).toInt = 1 := rfl; have e2_ : (2 : Int32).toInt = 2 := rfl; have e3_ : (3 : Int32).toInt = 3 := rfl; omega))).2.2.2 (by decide) (by decide) q) ?_
                            show OG (T102.setTop (mkF m 670 #[vI p0, vI p1, vI p2, vI p3, vI (p0 &&& (3 : Int32)), vR kd, vI (Int32.ofNat lt), vI (1 : Int32), vI x, vI ((p2 &&& (3 : Int32)) + (1 : Int32)), vI (Int32.ofNat c0), vI (Int32.ofNat c1), vI (Int32.ofNat c2), vI (Int32.ofNat c3), vR a, vR b23, vI (Int32.ofNat nd), vR b36, vR b42, vR S, vI (Int32.ofNat (1 + nd))] []))
                            have f127 := ((((((((((((((f67.keep K68 all0).wr W79 G36).keep K82 (allS G36 all0)).keep K84 (allS G36 all0)).keep K86 (allS G36 all0)).keep K88 (allS G36 all0)).keep K90 (allS G36 all0)).keep K92 (allS G36 all0)).keep K94 (allS G36 all0)).keep K96 (allS G36 all0)).keep K98 (allS G36 all0)).keep K100 (allS G36 all0)).wr W101 G36).wr W102 G36)
                            have f128 := (((((((((((((J1.wr W79).keep K82).keep K84).keep K86).keep K88).keep K90).keep K92).keep K94).keep K96).keep K98).keep K100).wr W101).wr W102)
                            have f129 := (((((((((((((J2.other W79 (Or.inl (Ne.symm nq71))).keep K82 (ninS (Ne.symm nq71) nin0)).keep K84 (ninS (Ne.symm nq71) nin0)).keep K86 (ninS (Ne.symm nq71) nin0)).keep K88 (ninS (Ne.symm nq71) nin0)).keep K90 (ninS (Ne.symm nq71) nin0)).keep K92 (ninS (Ne.symm nq71) nin0)).keep K94 (ninS (Ne.symm nq71) nin0)).keep K96 (ninS (Ne.symm nq71) nin0)).keep K98 (ninS (Ne.symm nq71) nin0)).keep K100 (ninS (Ne.symm nq71) nin0)).other W101 (Or.inl (Ne.symm nq71))).other W102 (Or.inl (Ne.symm nq71)))
                            have f130 := (((((((((((((J5.other W79 (Or.inl (Ne.symm nq71))).keep K82 (ninS (Ne.symm nq71) nin0)).keep K84 (ninS (Ne.symm nq71) nin0)).keep K86 (ninS (Ne.symm nq71) nin0)).keep K88 (ninS (Ne.symm nq71) nin0)).keep K90 (ninS (Ne.symm nq71) nin0)).keep K92 (ninS (Ne.symm nq71) nin0)).keep K94 (ninS (Ne.symm nq71) nin0)).keep K96 (ninS (Ne.symm nq71) nin0)).keep K98 (ninS (Ne.symm nq71) nin0)).keep K100 (ninS (Ne.symm nq71) nin0)).other W101 (Or.inl (Ne.symm nq71))).other W102 (Or.inl (Ne.symm nq71)))
                            have f131 := (((((((((((((J6.other W79 (Ne.symm nq76)).keep K82 (ninS (Ne.symm nq76) nin0)).keep K84 (ninS (Ne.symm nq76) nin0)).keep K86 (ninS (Ne.symm nq76) nin0)).keep K88 (ninS (Ne.symm nq76) nin0)).keep K90 (ninS (Ne.symm nq76) nin0)).keep K92 (ninS (Ne.symm nq76) nin0)).keep K94 (ninS (Ne.symm nq76) nin0)).keep K96 (ninS (Ne.symm nq76) nin0)).keep K98 (ninS (Ne.symm nq76) nin0)).keep K100 (ninS (Ne.symm nq76) nin0)).other W101 (Ne.symm nq76)).other W102 (Ne.symm nq76))
                            exact t670 _ _ _ _ (X102.more (by decide) (by decide)) e102 N102 Z102 (Nat.le_trans (Nat.le_trans (Nat.le_trans (Nat.le_trans (Nat.le_trans (Nat.le_trans (Nat.le_trans (Nat.le_trans (Nat.le_trans (Nat.le_trans (Nat.le_trans (Nat.le_trans (Nat.le_trans (Nat.le_trans (Nat.le_refl _) K68.1) (Nat.le_of_eq W79.size.symm)) K82.1) K84.1) K86.1) K88.1) K90.1) K92.1) K94.1) K96.1) K98.1) K100.1) (Nat.le_of_eq W101.size.symm)) (Nat.le_of_eq W102.size.symm)) f127 f128 f129 f130 f131 A102 (own_wc1 (by have b3 := own_nltI hm1; have e1_ : (1 : Int32).toInt = 1 := rfl; have e2_ : (2 : Int32).toInt = 2 := rfl; have e3_ : (3 : Int32).toInt = 3 := rfl; omega) hcs)
                        · show OG (T35.setTop (mkF m 433 #[vI p0, vI p1, vI p2, vI p3, vI (p0 &&& (3 : Int32)), vR kd, vI (Int32.ofNat lt), vI (1 : Int32), vI x, vI ((p2 &&& (3 : Int32)) + (1 : Int32)), vI (Int32.ofNat c0), vI (Int32.ofNat c1), vI (Int32.ofNat c2), vI (Int32.ofNat c3), vR a, vR b23, vI (own_ndf 9 x), .unset, .unset, .unset, .unset] [(.int (1000000000 : Int32)), (.int x)]))
                          by_cases hn9 : x < (1000000000 : Int32)
                          · refine own_go (fun _ q => XS.icmpYes X35.here hx rfl (pc0 := 433) (pc' := 440) rfl (hb hby at_433) rfl (tlt hn9).1 (by decide) (by decide) q) ?_
                            show OG (T35.setTop (mkF m 440 #[vI p0, vI p1, vI p2, vI p3, vI (p0 &&& (3 : Int32)), vR kd, vI (Int32.ofNat lt), vI (1 : Int32), vI x, vI ((p2 &&& (3 : Int32)) + (1 : Int32)), vI (Int32.ofNat c0), vI (Int32.ofNat c1), vI (Int32.ofNat c2), vI (Int32.ofNat c3), vR a, vR b23, vI (own_ndf 9 x), .unset, .unset, .unset, .unset] []))
                            exact own_cast (by rw [own_ndfY9 hn9]) tl9
                          · refine own_go (fun _ q => XS.icmpNo X35.here hx rfl (hb hby at_433) rfl (flt hn9).1 q) ?_
                            show OG (T35.setTop (mkF m 436 #[vI p0, vI p1, vI p2, vI p3, vI (p0 &&& (3 : Int32)), vR kd, vI (Int32.ofNat lt), vI (1 : Int32), vI x, vI ((p2 &&& (3 : Int32)) + (1 : Int32)), vI (Int32.ofNat c0), vI (Int32.ofNat c1), vI (Int32.ofNat c2), vI (Int32.ofNat c3), vR a, vR b23, vI (own_ndf 9 x), .unset, .unset, .unset, .unset] []))
                            refine own_go (fun _ q => XS.bipush X35.here hx rfl (hb hby at_436) (XS.istore X35.here hx rfl (hb hby at_438) rfl (l' := #[vI p0, vI p1, vI p2, vI p3, vI (p0 &&& (3 : Int32)), vR kd, vI (Int32.ofNat lt), vI (1 : Int32), vI x, vI ((p2 &&& (3 : Int32)) + (1 : Int32)), vI (Int32.ofNat c0), vI (Int32.ofNat c1), vI (Int32.ofNat c2), vI (Int32.ofNat c3), vR a, vR b23, vI (10 : Int32), .unset, .unset, .unset, .unset]) rfl q)) ?_
                            show OG (T35.setTop (mkF m 440 #[vI p0, vI p1, vI p2, vI p3, vI (p0 &&& (3 : Int32)), vR kd, vI (Int32.ofNat lt), vI (1 : Int32), vI x, vI ((p2 &&& (3 : Int32)) + (1 : Int32)), vI (Int32.ofNat c0), vI (Int32.ofNat c1), vI (Int32.ofNat c2), vI (Int32.ofNat c3), vR a, vR b23, vI (10 : Int32), .unset, .unset, .unset, .unset] []))
                            exact own_cast (by rw [own_ndfN9 hn9]) tl9
                      · show OG (T35.setTop (mkF m 422 #[vI p0, vI p1, vI p2, vI p3, vI (p0 &&& (3 : Int32)), vR kd, vI (Int32.ofNat lt), vI (1 : Int32), vI x, vI ((p2 &&& (3 : Int32)) + (1 : Int32)), vI (Int32.ofNat c0), vI (Int32.ofNat c1), vI (Int32.ofNat c2), vI (Int32.ofNat c3), vR a, vR b23, vI (own_ndf 8 x), .unset, .unset, .unset, .unset] [(.int (100000000 : Int32)), (.int x)]))
                        by_cases hn8 : x < (100000000 : Int32)
                        · refine own_go (fun _ q => XS.icmpYes X35.here hx rfl (pc0 := 422) (pc' := 429) rfl (hb hby at_422) rfl (tlt hn8).1 (by decide) (by decide) q) ?_
                          show OG (T35.setTop (mkF m 429 #[vI p0, vI p1, vI p2, vI p3, vI (p0 &&& (3 : Int32)), vR kd, vI (Int32.ofNat lt), vI (1 : Int32), vI x, vI ((p2 &&& (3 : Int32)) + (1 : Int32)), vI (Int32.ofNat c0), vI (Int32.ofNat c1), vI (Int32.ofNat c2), vI (Int32.ofNat c3), vR a, vR b23, vI (own_ndf 8 x), .unset, .unset, .unset, .unset] []))
                          exact own_cast (by rw [own_ndfY8 hn8]) tl8
                        · refine own_go (fun _ q => XS.icmpNo X35.here hx rfl (hb hby at_422) rfl (flt hn8).1 q) ?_
                          show OG (T35.setTop (mkF m 425 #[vI p0, vI p1, vI p2, vI p3, vI (p0 &&& (3 : Int32)), vR kd, vI (Int32.ofNat lt), vI (1 : Int32), vI x, vI ((p2 &&& (3 : Int32)) + (1 : Int32)), vI (Int32.ofNat c0), vI (Int32.ofNat c1), vI (Int32.ofNat c2), vI (Int32.ofNat c3), vR a, vR b23, vI (own_ndf 8 x), .unset, .unset, .unset, .unset] []))
                          refine own_go (fun _ q => XS.bipush X35.here hx rfl (hb hby at_425) (XS.istore X35.here hx rfl (hb hby at_427) rfl (l' := #[vI p0, vI p1, vI p2, vI p3, vI (p0 &&& (3 : Int32)), vR kd, vI (Int32.ofNat lt), vI (1 : Int32), vI x, vI ((p2 &&& (3 : Int32)) + (1 : Int32)), vI (Int32.ofNat c0), vI (Int32.ofNat c1), vI (Int32.ofNat c2), vI (Int32.ofNat c3), vR a, vR b23, vI (9 : Int32), .unset, .unset, .unset, .unset]) rfl q)) ?_
                          show OG (T35.setTop (mkF m 429 #[vI p0, vI p1, vI p2, vI p3, vI (p0 &&& (3 : Int32)), vR kd, vI (Int32.ofNat lt), vI (1 : Int32), vI x, vI ((p2 &&& (3 : Int32)) + (1 : Int32)), vI (Int32.ofNat c0), vI (Int32.ofNat c1), vI (Int32.ofNat c2), vI (Int32.ofNat c3), vR a, vR b23, vI (9 : Int32), .unset, .unset, .unset, .unset] []))
                          exact own_cast (by rw [own_ndfN8 hn8]) tl8
                    · show OG (T35.setTop (mkF m 411 #[vI p0, vI p1, vI p2, vI p3, vI (p0 &&& (3 : Int32)), vR kd, vI (Int32.ofNat lt), vI (1 : Int32), vI x, vI ((p2 &&& (3 : Int32)) + (1 : Int32)), vI (Int32.ofNat c0), vI (Int32.ofNat c1), vI (Int32.ofNat c2), vI (Int32.ofNat c3), vR a, vR b23, vI (own_ndf 7 x), .unset, .unset, .unset, .unset] [(.int (10000000 : Int32)), (.int x)]))
                      by_cases hn7 : x < (10000000 : Int32)
                      · refine own_go (fun _ q => XS.icmpYes X35.here hx rfl (pc0 := 411) (pc' := 418) rfl (hb hby at_411) rfl (tlt hn7).1 (by decide) (by decide) q) ?_
                        show OG (T35.setTop (mkF m 418 #[vI p0, vI p1, vI p2, vI p3, vI (p0 &&& (3 : Int32)), vR kd, vI (Int32.ofNat lt), vI (1 : Int32), vI x, vI ((p2 &&& (3 : Int32)) + (1 : Int32)), vI (Int32.ofNat c0), vI (Int32.ofNat c1), vI (Int32.ofNat c2), vI (Int32.ofNat c3), vR a, vR b23, vI (own_ndf 7 x), .unset, .unset, .unset, .unset] []))
                        exact own_cast (by rw [own_ndfY7 hn7]) tl7
                      · refine own_go (fun _ q => XS.icmpNo X35.here hx rfl (hb hby at_411) rfl (flt hn7).1 q) ?_
                        show OG (T35.setTop (mkF m 414 #[vI p0, vI p1, vI p2, vI p3, vI (p0 &&& (3 : Int32)), vR kd, vI (Int32.ofNat lt), vI (1 : Int32), vI x, vI ((p2 &&& (3 : Int32)) + (1 : Int32)), vI (Int32.ofNat c0), vI (Int32.ofNat c1), vI (Int32.ofNat c2), vI (Int32.ofNat c3), vR a, vR b23, vI (own_ndf 7 x), .unset, .unset, .unset, .unset] []))
                        refine own_go (fun _ q => XS.bipush X35.here hx rfl (hb hby at_414) (XS.istore X35.here hx rfl (hb hby at_416) rfl (l' := #[vI p0, vI p1, vI p2, vI p3, vI (p0 &&& (3 : Int32)), vR kd, vI (Int32.ofNat lt), vI (1 : Int32), vI x, vI ((p2 &&& (3 : Int32)) + (1 : Int32)), vI (Int32.ofNat c0), vI (Int32.ofNat c1), vI (Int32.ofNat c2), vI (Int32.ofNat c3), vR a, vR b23, vI (8 : Int32), .unset, .unset, .unset, .unset]) rfl q)) ?_
                        show OG (T35.setTop (mkF m 418 #[vI p0, vI p1, vI p2, vI p3, vI (p0 &&& (3 : Int32)), vR kd, vI (Int32.ofNat lt), vI (1 : Int32), vI x, vI ((p2 &&& (3 : Int32)) + (1 : Int32)), vI (Int32.ofNat c0), vI (Int32.ofNat c1), vI (Int32.ofNat c2), vI (Int32.ofNat c3), vR a, vR b23, vI (8 : Int32), .unset, .unset, .unset, .unset] []))
                        exact own_cast (by rw [own_ndfN7 hn7]) tl7
                  · show OG (T35.setTop (mkF m 400 #[vI p0, vI p1, vI p2, vI p3, vI (p0 &&& (3 : Int32)), vR kd, vI (Int32.ofNat lt), vI (1 : Int32), vI x, vI ((p2 &&& (3 : Int32)) + (1 : Int32)), vI (Int32.ofNat c0), vI (Int32.ofNat c1), vI (Int32.ofNat c2), vI (Int32.ofNat c3), vR a, vR b23, vI (own_ndf 6 x), .unset, .unset, .unset, .unset] [(.int (1000000 : Int32)), (.int x)]))
                    by_cases hn6 : x < (1000000 : Int32)
                    · refine own_go (fun _ q => XS.icmpYes X35.here hx rfl (pc0 := 400) (pc' := 407) rfl (hb hby at_400) rfl (tlt hn6).1 (by decide) (by decide) q) ?_
                      show OG (T35.setTop (mkF m 407 #[vI p0, vI p1, vI p2, vI p3, vI (p0 &&& (3 : Int32)), vR kd, vI (Int32.ofNat lt), vI (1 : Int32), vI x, vI ((p2 &&& (3 : Int32)) + (1 : Int32)), vI (Int32.ofNat c0), vI (Int32.ofNat c1), vI (Int32.ofNat c2), vI (Int32.ofNat c3), vR a, vR b23, vI (own_ndf 6 x), .unset, .unset, .unset, .unset] []))
                      exact own_cast (by rw [own_ndfY6 hn6]) tl6
                    · refine own_go (fun _ q => XS.icmpNo X35.here hx rfl (hb hby at_400) rfl (flt hn6).1 q) ?_
                      show OG (T35.setTop (mkF m 403 #[vI p0, vI p1, vI p2, vI p3, vI (p0 &&& (3 : Int32)), vR kd, vI (Int32.ofNat lt), vI (1 : Int32), vI x, vI ((p2 &&& (3 : Int32)) + (1 : Int32)), vI (Int32.ofNat c0), vI (Int32.ofNat c1), vI (Int32.ofNat c2), vI (Int32.ofNat c3), vR a, vR b23, vI (own_ndf 6 x), .unset, .unset, .unset, .unset] []))
                      refine own_go (fun _ q => XS.bipush X35.here hx rfl (hb hby at_403) (XS.istore X35.here hx rfl (hb hby at_405) rfl (l' := #[vI p0, vI p1, vI p2, vI p3, vI (p0 &&& (3 : Int32)), vR kd, vI (Int32.ofNat lt), vI (1 : Int32), vI x, vI ((p2 &&& (3 : Int32)) + (1 : Int32)), vI (Int32.ofNat c0), vI (Int32.ofNat c1), vI (Int32.ofNat c2), vI (Int32.ofNat c3), vR a, vR b23, vI (7 : Int32), .unset, .unset, .unset, .unset]) rfl q)) ?_
                      show OG (T35.setTop (mkF m 407 #[vI p0, vI p1, vI p2, vI p3, vI (p0 &&& (3 : Int32)), vR kd, vI (Int32.ofNat lt), vI (1 : Int32), vI x, vI ((p2 &&& (3 : Int32)) + (1 : Int32)), vI (Int32.ofNat c0), vI (Int32.ofNat c1), vI (Int32.ofNat c2), vI (Int32.ofNat c3), vR a, vR b23, vI (7 : Int32), .unset, .unset, .unset, .unset] []))
                      exact own_cast (by rw [own_ndfN6 hn6]) tl6
                · show OG (T35.setTop (mkF m 389 #[vI p0, vI p1, vI p2, vI p3, vI (p0 &&& (3 : Int32)), vR kd, vI (Int32.ofNat lt), vI (1 : Int32), vI x, vI ((p2 &&& (3 : Int32)) + (1 : Int32)), vI (Int32.ofNat c0), vI (Int32.ofNat c1), vI (Int32.ofNat c2), vI (Int32.ofNat c3), vR a, vR b23, vI (own_ndf 5 x), .unset, .unset, .unset, .unset] [(.int (100000 : Int32)), (.int x)]))
                  by_cases hn5 : x < (100000 : Int32)
                  · refine own_go (fun _ q => XS.icmpYes X35.here hx rfl (pc0 := 389) (pc' := 396) rfl (hb hby at_389) rfl (tlt hn5).1 (by decide) (by decide) q) ?_
                    show OG (T35.setTop (mkF m 396 #[vI p0, vI p1, vI p2, vI p3, vI (p0 &&& (3 : Int32)), vR kd, vI (Int32.ofNat lt), vI (1 : Int32), vI x, vI ((p2 &&& (3 : Int32)) + (1 : Int32)), vI (Int32.ofNat c0), vI (Int32.ofNat c1), vI (Int32.ofNat c2), vI (Int32.ofNat c3), vR a, vR b23, vI (own_ndf 5 x), .unset, .unset, .unset, .unset] []))
                    exact own_cast (by rw [own_ndfY5 hn5]) tl5
                  · refine own_go (fun _ q => XS.icmpNo X35.here hx rfl (hb hby at_389) rfl (flt hn5).1 q) ?_
                    show OG (T35.setTop (mkF m 392 #[vI p0, vI p1, vI p2, vI p3, vI (p0 &&& (3 : Int32)), vR kd, vI (Int32.ofNat lt), vI (1 : Int32), vI x, vI ((p2 &&& (3 : Int32)) + (1 : Int32)), vI (Int32.ofNat c0), vI (Int32.ofNat c1), vI (Int32.ofNat c2), vI (Int32.ofNat c3), vR a, vR b23, vI (own_ndf 5 x), .unset, .unset, .unset, .unset] []))
                    refine own_go (fun _ q => XS.bipush X35.here hx rfl (hb hby at_392) (XS.istore X35.here hx rfl (hb hby at_394) rfl (l' := #[vI p0, vI p1, vI p2, vI p3, vI (p0 &&& (3 : Int32)), vR kd, vI (Int32.ofNat lt), vI (1 : Int32), vI x, vI ((p2 &&& (3 : Int32)) + (1 : Int32)), vI (Int32.ofNat c0), vI (Int32.ofNat c1), vI (Int32.ofNat c2), vI (Int32.ofNat c3), vR a, vR b23, vI (6 : Int32), .unset, .unset, .unset, .unset]) rfl q)) ?_
                    show OG (T35.setTop (mkF m 396 #[vI p0, vI p1, vI p2, vI p3, vI (p0 &&& (3 : Int32)), vR kd, vI (Int32.ofNat lt), vI (1 : Int32), vI x, vI ((p2 &&& (3 : Int32)) + (1 : Int32)), vI (Int32.ofNat c0), vI (Int32.ofNat c1), vI (Int32.ofNat c2), vI (Int32.ofNat c3), vR a, vR b23, vI (6 : Int32), .unset, .unset, .unset, .unset] []))
                    exact own_cast (by rw [own_ndfN5 hn5]) tl5
              · show OG (T35.setTop (mkF m 379 #[vI p0, vI p1, vI p2, vI p3, vI (p0 &&& (3 : Int32)), vR kd, vI (Int32.ofNat lt), vI (1 : Int32), vI x, vI ((p2 &&& (3 : Int32)) + (1 : Int32)), vI (Int32.ofNat c0), vI (Int32.ofNat c1), vI (Int32.ofNat c2), vI (Int32.ofNat c3), vR a, vR b23, vI (own_ndf 4 x), .unset, .unset, .unset, .unset] [(.int (10000 : Int32)), (.int x)]))
                by_cases hn4 : x < (10000 : Int32)
                · refine own_go (fun _ q => XS.icmpYes X35.here hx rfl (pc0 := 379) (pc' := 385) rfl (hb hby at_379) rfl (tlt hn4).1 (by decide) (by decide) q) ?_
                  show OG (T35.setTop (mkF m 385 #[vI p0, vI p1, vI p2, vI p3, vI (p0 &&& (3 : Int32)), vR kd, vI (Int32.ofNat lt), vI (1 : Int32), vI x, vI ((p2 &&& (3 : Int32)) + (1 : Int32)), vI (Int32.ofNat c0), vI (Int32.ofNat c1), vI (Int32.ofNat c2), vI (Int32.ofNat c3), vR a, vR b23, vI (own_ndf 4 x), .unset, .unset, .unset, .unset] []))
                  exact own_cast (by rw [own_ndfY4 hn4]) tl4
                · refine own_go (fun _ q => XS.icmpNo X35.here hx rfl (hb hby at_379) rfl (flt hn4).1 q) ?_
                  show OG (T35.setTop (mkF m 382 #[vI p0, vI p1, vI p2, vI p3, vI (p0 &&& (3 : Int32)), vR kd, vI (Int32.ofNat lt), vI (1 : Int32), vI x, vI ((p2 &&& (3 : Int32)) + (1 : Int32)), vI (Int32.ofNat c0), vI (Int32.ofNat c1), vI (Int32.ofNat c2), vI (Int32.ofNat c3), vR a, vR b23, vI (own_ndf 4 x), .unset, .unset, .unset, .unset] []))
                  refine own_go (fun _ q => XS.iconst X35.here hx rfl (hb hby at_382) (XS.istore X35.here hx rfl (hb hby at_383) rfl (l' := #[vI p0, vI p1, vI p2, vI p3, vI (p0 &&& (3 : Int32)), vR kd, vI (Int32.ofNat lt), vI (1 : Int32), vI x, vI ((p2 &&& (3 : Int32)) + (1 : Int32)), vI (Int32.ofNat c0), vI (Int32.ofNat c1), vI (Int32.ofNat c2), vI (Int32.ofNat c3), vR a, vR b23, vI (5 : Int32), .unset, .unset, .unset, .unset]) rfl q)) ?_
                  show OG (T35.setTop (mkF m 385 #[vI p0, vI p1, vI p2, vI p3, vI (p0 &&& (3 : Int32)), vR kd, vI (Int32.ofNat lt), vI (1 : Int32), vI x, vI ((p2 &&& (3 : Int32)) + (1 : Int32)), vI (Int32.ofNat c0), vI (Int32.ofNat c1), vI (Int32.ofNat c2), vI (Int32.ofNat c3), vR a, vR b23, vI (5 : Int32), .unset, .unset, .unset, .unset] []))
                  exact own_cast (by rw [own_ndfN4 hn4]) tl4
            · show OG (T35.setTop (mkF m 368 #[vI p0, vI p1, vI p2, vI p3, vI (p0 &&& (3 : Int32)), vR kd, vI (Int32.ofNat lt), vI (1 : Int32), vI x, vI ((p2 &&& (3 : Int32)) + (1 : Int32)), vI (Int32.ofNat c0), vI (Int32.ofNat c1), vI (Int32.ofNat c2), vI (Int32.ofNat c3), vR a, vR b23, vI (own_ndf 3 x), .unset, .unset, .unset, .unset] [(.int (1000 : Int32)), (.int x)]))
              by_cases hn3 : x < (1000 : Int32)
              · refine own_go (fun _ q => XS.icmpYes X35.here hx rfl (pc0 := 368) (pc' := 374) rfl (hb hby at_368) rfl (tlt hn3).1 (by decide) (by decide) q) ?_
                show OG (T35.setTop (mkF m 374 #[vI p0, vI p1, vI p2, vI p3, vI (p0 &&& (3 : Int32)), vR kd, vI (Int32.ofNat lt), vI (1 : Int32), vI x, vI ((p2 &&& (3 : Int32)) + (1 : Int32)), vI (Int32.ofNat c0), vI (Int32.ofNat c1), vI (Int32.ofNat c2), vI (Int32.ofNat c3), vR a, vR b23, vI (own_ndf 3 x), .unset, .unset, .unset, .unset] []))
                exact own_cast (by rw [own_ndfY3 hn3]) tl3
              · refine own_go (fun _ q => XS.icmpNo X35.here hx rfl (hb hby at_368) rfl (flt hn3).1 q) ?_
                show OG (T35.setTop (mkF m 371 #[vI p0, vI p1, vI p2, vI p3, vI (p0 &&& (3 : Int32)), vR kd, vI (Int32.ofNat lt), vI (1 : Int32), vI x, vI ((p2 &&& (3 : Int32)) + (1 : Int32)), vI (Int32.ofNat c0), vI (Int32.ofNat c1), vI (Int32.ofNat c2), vI (Int32.ofNat c3), vR a, vR b23, vI (own_ndf 3 x), .unset, .unset, .unset, .unset] []))
                refine own_go (fun _ q => XS.iconst X35.here hx rfl (hb hby at_371) (XS.istore X35.here hx rfl (hb hby at_372) rfl (l' := #[vI p0, vI p1, vI p2, vI p3, vI (p0 &&& (3 : Int32)), vR kd, vI (Int32.ofNat lt), vI (1 : Int32), vI x, vI ((p2 &&& (3 : Int32)) + (1 : Int32)), vI (Int32.ofNat c0), vI (Int32.ofNat c1), vI (Int32.ofNat c2), vI (Int32.ofNat c3), vR a, vR b23, vI (4 : Int32), .unset, .unset, .unset, .unset]) rfl q)) ?_
                show OG (T35.setTop (mkF m 374 #[vI p0, vI p1, vI p2, vI p3, vI (p0 &&& (3 : Int32)), vR kd, vI (Int32.ofNat lt), vI (1 : Int32), vI x, vI ((p2 &&& (3 : Int32)) + (1 : Int32)), vI (Int32.ofNat c0), vI (Int32.ofNat c1), vI (Int32.ofNat c2), vI (Int32.ofNat c3), vR a, vR b23, vI (4 : Int32), .unset, .unset, .unset, .unset] []))
                exact own_cast (by rw [own_ndfN3 hn3]) tl3
          · show OG (T35.setTop (mkF m 357 #[vI p0, vI p1, vI p2, vI p3, vI (p0 &&& (3 : Int32)), vR kd, vI (Int32.ofNat lt), vI (1 : Int32), vI x, vI ((p2 &&& (3 : Int32)) + (1 : Int32)), vI (Int32.ofNat c0), vI (Int32.ofNat c1), vI (Int32.ofNat c2), vI (Int32.ofNat c3), vR a, vR b23, vI (own_ndf 2 x), .unset, .unset, .unset, .unset] [(.int (100 : Int32)), (.int x)]))
            by_cases hn2 : x < (100 : Int32)
            · refine own_go (fun _ q => XS.icmpYes X35.here hx rfl (pc0 := 357) (pc' := 363) rfl (hb hby at_357) rfl (tlt hn2).1 (by decide) (by decide) q) ?_
              show OG (T35.setTop (mkF m 363 #[vI p0, vI p1, vI p2, vI p3, vI (p0 &&& (3 : Int32)), vR kd, vI (Int32.ofNat lt), vI (1 : Int32), vI x, vI ((p2 &&& (3 : Int32)) + (1 : Int32)), vI (Int32.ofNat c0), vI (Int32.ofNat c1), vI (Int32.ofNat c2), vI (Int32.ofNat c3), vR a, vR b23, vI (own_ndf 2 x), .unset, .unset, .unset, .unset] []))
              exact own_cast (by rw [own_ndfY2 hn2]) tl2
            · refine own_go (fun _ q => XS.icmpNo X35.here hx rfl (hb hby at_357) rfl (flt hn2).1 q) ?_
              show OG (T35.setTop (mkF m 360 #[vI p0, vI p1, vI p2, vI p3, vI (p0 &&& (3 : Int32)), vR kd, vI (Int32.ofNat lt), vI (1 : Int32), vI x, vI ((p2 &&& (3 : Int32)) + (1 : Int32)), vI (Int32.ofNat c0), vI (Int32.ofNat c1), vI (Int32.ofNat c2), vI (Int32.ofNat c3), vR a, vR b23, vI (own_ndf 2 x), .unset, .unset, .unset, .unset] []))
              refine own_go (fun _ q => XS.iconst X35.here hx rfl (hb hby at_360) (XS.istore X35.here hx rfl (hb hby at_361) rfl (l' := #[vI p0, vI p1, vI p2, vI p3, vI (p0 &&& (3 : Int32)), vR kd, vI (Int32.ofNat lt), vI (1 : Int32), vI x, vI ((p2 &&& (3 : Int32)) + (1 : Int32)), vI (Int32.ofNat c0), vI (Int32.ofNat c1), vI (Int32.ofNat c2), vI (Int32.ofNat c3), vR a, vR b23, vI (3 : Int32), .unset, .unset, .unset, .unset]) rfl q)) ?_
              show OG (T35.setTop (mkF m 363 #[vI p0, vI p1, vI p2, vI p3, vI (p0 &&& (3 : Int32)), vR kd, vI (Int32.ofNat lt), vI (1 : Int32), vI x, vI ((p2 &&& (3 : Int32)) + (1 : Int32)), vI (Int32.ofNat c0), vI (Int32.ofNat c1), vI (Int32.ofNat c2), vI (Int32.ofNat c3), vR a, vR b23, vI (3 : Int32), .unset, .unset, .unset, .unset] []))
              exact own_cast (by rw [own_ndfN2 hn2]) tl2
        · show OG (T35.setTop (mkF m 347 #[vI p0, vI p1, vI p2, vI p3, vI (p0 &&& (3 : Int32)), vR kd, vI (Int32.ofNat lt), vI (1 : Int32), vI x, vI ((p2 &&& (3 : Int32)) + (1 : Int32)), vI (Int32.ofNat c0), vI (Int32.ofNat c1), vI (Int32.ofNat c2), vI (Int32.ofNat c3), vR a, vR b23, vI (own_ndf 1 x), .unset, .unset, .unset, .unset] [(.int (10 : Int32)), (.int x)]))
          by_cases hn1 : x < (10 : Int32)
          · refine own_go (fun _ q => XS.icmpYes X35.here hx rfl (pc0 := 347) (pc' := 353) rfl (hb hby at_347) rfl (tlt hn1).1 (by decide) (by decide) q) ?_
            show OG (T35.setTop (mkF m 353 #[vI p0, vI p1, vI p2, vI p3, vI (p0 &&& (3 : Int32)), vR kd, vI (Int32.ofNat lt), vI (1 : Int32), vI x, vI ((p2 &&& (3 : Int32)) + (1 : Int32)), vI (Int32.ofNat c0), vI (Int32.ofNat c1), vI (Int32.ofNat c2), vI (Int32.ofNat c3), vR a, vR b23, vI (own_ndf 1 x), .unset, .unset, .unset, .unset] []))
            exact own_cast (by rw [own_ndfY1 hn1]) tl1
          · refine own_go (fun _ q => XS.icmpNo X35.here hx rfl (hb hby at_347) rfl (flt hn1).1 q) ?_
            show OG (T35.setTop (mkF m 350 #[vI p0, vI p1, vI p2, vI p3, vI (p0 &&& (3 : Int32)), vR kd, vI (Int32.ofNat lt), vI (1 : Int32), vI x, vI ((p2 &&& (3 : Int32)) + (1 : Int32)), vI (Int32.ofNat c0), vI (Int32.ofNat c1), vI (Int32.ofNat c2), vI (Int32.ofNat c3), vR a, vR b23, vI (own_ndf 1 x), .unset, .unset, .unset, .unset] []))
            refine own_go (fun _ q => XS.iconst X35.here hx rfl (hb hby at_350) (XS.istore X35.here hx rfl (hb hby at_351) rfl (l' := #[vI p0, vI p1, vI p2, vI p3, vI (p0 &&& (3 : Int32)), vR kd, vI (Int32.ofNat lt), vI (1 : Int32), vI x, vI ((p2 &&& (3 : Int32)) + (1 : Int32)), vI (Int32.ofNat c0), vI (Int32.ofNat c1), vI (Int32.ofNat c2), vI (Int32.ofNat c3), vR a, vR b23, vI (2 : Int32), .unset, .unset, .unset, .unset]) rfl q)) ?_
            show OG (T35.setTop (mkF m 353 #[vI p0, vI p1, vI p2, vI p3, vI (p0 &&& (3 : Int32)), vR kd, vI (Int32.ofNat lt), vI (1 : Int32), vI x, vI ((p2 &&& (3 : Int32)) + (1 : Int32)), vI (Int32.ofNat c0), vI (Int32.ofNat c1), vI (Int32.ofNat c2), vI (Int32.ofNat c3), vR a, vR b23, vI (2 : Int32), .unset, .unset, .unset, .unset] []))
            exact own_cast (by rw [own_ndfN1 hn1]) tl1
      by_cases hl1 : ((p2 &&& (3 : Int32)) + (1 : Int32)) = (1 : Int32)
      · refine own_go (fun _ q => XS.icmpNo X22.here hx rfl (hb hby at_157) rfl (teq hl1).2 q) ?_
        show OG (T22.setTop (mkF m 160 #[vI p0, vI p1, vI p2, vI p3, vI (p0 &&& (3 : Int32)), vR kd, vI (Int32.ofNat lt), vI (1 : Int32), vI x, vI ((p2 &&& (3 : Int32)) + (1 : Int32)), vI (Int32.ofNat c0), vI (Int32.ofNat c1), vI (Int32.ofNat c2), vI (Int32.ofNat c3), .val .null, .unset, .unset, .unset, .unset, .unset, .unset] []))
        obtain ⟨T132, h132, X132, e132, E132, A132, D132, -, st132⟩ := newO X22 hx hZ hown (wd hw 8 rfl) (wd hw 9 rfl) (wd hw 10 rfl) e22q (g := (mkF m 160 #[vI p0, vI p1, vI p2, vI p3, vI (p0 &&& (3 : Int32)), vR kd, vI (Int32.ofNat lt), vI (1 : Int32), vI x, vI ((p2 &&& (3 : Int32)) + (1 : Int32)), vI (Int32.ofNat c0), vI (Int32.ofNat c1), vI (Int32.ofNat c2), vI (Int32.ofNat c3), .val .null, .unset, .unset, .unset, .unset, .unset, .unset] [])) rfl (hb hby at_160) (by decide) (by decide)
        obtain ⟨b132, g132⟩ : ∃ z, z = h0.size := ⟨_, rfl⟩
        rw [← g132] at A132 D132 st132
        have G132 : n0 ≤ b132 := Nat.le_trans Z0 (Nat.le_of_eq g132.symm)
        have Z132 : n0 ≤ h132.size := Nat.le_trans Z0 E132.1
        have Fn132_coder : Fld Z h132 b132 "java/lang/String" "coder" "B" (.int (0 : Int32)) := D132 (Or.inr (wd hw 35 rfl)) (ty := .byte) (by decide)
        have Fn132_value : Fld Z h132 b132 "java/lang/String" "value" "[B" .null := D132 (Or.inr (wd hw 37 rfl)) (ty := (.array .byte)) (by decide)
        have y132 : h0.size ≤ b132 := Nat.le_trans (Nat.le_refl _) (Nat.le_of_eq g132.symm)
        refine own_go st132 ?_
        show OG (T132.setTop (mkF m 163 _ [(.ref b132)]))
        refine own_go (fun _ q => XS.dup X132.here hx rfl (hb hby at_163) rfl rfl (XS.iconst X132.here hx rfl (hb hby at_164) q)) ?_
        show OG (T132.setTop (mkF m 165 _ [(.int (1 : Int32)), (.ref b132), (.ref b132)]))
        obtain ⟨T133, h133, k133, X133, e133, E133, Aw133, Ex133, st133⟩ := newPE X132 hx hZ (wd hw 11 rfl) e132 (g := (mkF m 165 #[vI p0, vI p1, vI p2, vI p3, vI (p0 &&& (3 : Int32)), vR kd, vI (Int32.ofNat lt), vI (1 : Int32), vI x, vI ((p2 &&& (3 : Int32)) + (1 : Int32)), vI (Int32.ofNat c0), vI (Int32.ofNat c1), vI (Int32.ofNat c2), vI (Int32.ofNat c3), .val .null, .unset, .unset, .unset, .unset, .unset, .unset] [(.int (1 : Int32)), (.ref b132), (.ref b132)])) rfl (hb hby at_165) rfl (by decide) (cap := 1) (by decide) (by decide) (by decide) (by decide) (ad := "[C") (by decide)
        obtain ⟨b133, g133⟩ : ∃ z, z = h132.size := ⟨_, rfl⟩
        rw [← g133] at Aw133 Ex133 st133
        have A133 := own_By.new (nn := 1) Aw133 (by decide) rfl rfl
        have nq134 : b132 ≠ b133 := Nat.ne_of_lt (Nat.lt_of_lt_of_eq (A132).lt g133.symm)
        have y133 : h0.size ≤ b133 := Nat.le_trans (Nat.le_trans (Nat.le_refl _) E132.1) (Nat.le_of_eq g133.symm)
        have G133 : n0 ≤ b133 := Nat.le_trans Z132 (Nat.le_of_eq g133.symm)
        have Z133 : n0 ≤ h133.size := Nat.le_trans Z132 E133.1
        refine own_go st133 ?_
        show OG (T133.setTop (mkF m 167 _ [(.ref b133), (.ref b132), (.ref b132)]))
        refine own_go (fun _ q => XS.dup X133.here hx rfl (hb hby at_167) rfl rfl (XS.iconst X133.here hx rfl (hb hby at_168) (XS.iload X133.here hx rfl (hb hby at_169) rfl q))) ?_
        show OG (T133.setTop (mkF m 171 #[vI p0, vI p1, vI p2, vI p3, vI (p0 &&& (3 : Int32)), vR kd, vI (Int32.ofNat lt), vI (1 : Int32), vI x, vI ((p2 &&& (3 : Int32)) + (1 : Int32)), vI (Int32.ofNat c0), vI (Int32.ofNat c1), vI (Int32.ofNat c2), vI (Int32.ofNat c3), .val .null, .unset, .unset, .unset, .unset, .unset, .unset] [(.int (Int32.ofNat c0)), (.int (0 : Int32)), (.ref b133), (.ref b133), (.ref b132), (.ref b132)]))
        refine own_cstore (i := 0) (v := c0) X133 hx hZ e133 A133 (own_okc_lt hc0) rfl rfl (by decide) (hb hby at_171) rfl ?_
        intro T135 h135 X135 e135 W135 A135
        have N135 := Fr.snoc X135 N22 G133
        have Z135 : n0 ≤ h135.size := by rw [W135.size]; exact Z133
        show OG (T135.setTop (mkF m 172 _ [(.ref b133), (.ref b132), (.ref b132)]))
        have Acs := A135.weak (g' := fun j => [c0][j]?) own_cs1
        have hws : ∀ d ∈ StrChars.Road.words, d.before a0 Z = true := fun d hd => hw d ((by decide +kernel : ∀ d ∈ StrChars.Road.words, d ∈ tables_1) d hd)
        have f137 := ((A132.ext E133).wr W135)
        have f138 := ((Fn132_value.ext E133).other W135 (Or.inl nq134))
        have f139 := ((Fn132_coder.ext E133).other W135 (Or.inl nq134))
        have f140 := (((Od.ext E132).ext E133).wr W135 G133)
        refine own_strC X135 hx hZ hown (wd hw 12 rfl) (wd hw 13 rfl) (wd hw 14 rfl) hws (kI := 4) (wd hw 9 rfl) e135 (n := 1) (cs := [c0]) rfl (by decide) (by decide) (own_all1 hc0) f137 f138 f139 Acs (SC.ext f140.2) hz0 G132 Z135 1 (by decide) (by decide) (by decide) (by decide) (by rw [hml]; rfl) (Nat.le_of_eq rfl) (hb hby at_172) rfl ?_
        intro T136 L136 r136 X136 N136q K136 Es136 Cs136 Gr136 yr136 Vs136 Ab136
        have N136 := Fr.app N135 N136q
        have Z136 : n0 ≤ T136.heap.size := Nat.le_trans Z135 K136.1
        show OG (T136.setTop (mkF m 175 #[vI p0, vI p1, vI p2, vI p3, vI (p0 &&& (3 : Int32)), vR kd, vI (Int32.ofNat lt), vI (1 : Int32), vI x, vI ((p2 &&& (3 : Int32)) + (1 : Int32)), vI (Int32.ofNat c0), vI (Int32.ofNat c1), vI (Int32.ofNat c2), vI (Int32.ofNat c3), .val .null, .unset, .unset, .unset, .unset, .unset, .unset] [(.ref b132)]))
        refine own_go (fun _ q => XS.astore X136.here hx rfl (hb hby at_175) rfl rfl (l' := #[vI p0, vI p1, vI p2, vI p3, vI (p0 &&& (3 : Int32)), vR kd, vI (Int32.ofNat lt), vI (1 : Int32), vI x, vI ((p2 &&& (3 : Int32)) + (1 : Int32)), vI (Int32.ofNat c0), vI (Int32.ofNat c1), vI (Int32.ofNat c2), vI (Int32.ofNat c3), vR b132, .unset, .unset, .unset, .unset, .unset, .unset]) rfl (XS.goto X136.here hx rfl (pc0 := 177) (pc' := 279) rfl (hb hby at_177) (by decide) (by decide) q)) ?_
        show OG (T136.setTop (mkF m 279 #[vI p0, vI p1, vI p2, vI p3, vI (p0 &&& (3 : Int32)), vR kd, vI (Int32.ofNat lt), vI (1 : Int32), vI x, vI ((p2 &&& (3 : Int32)) + (1 : Int32)), vI (Int32.ofNat c0), vI (Int32.ofNat c1), vI (Int32.ofNat c2), vI (Int32.ofNat c3), vR b132, .unset, .unset, .unset, .unset, .unset, .unset] []))
        have f141 := (f140.keep K136 (allS G132 all0))
        exact ts 1 [c0] b132 r136 _ _ _ rfl (own_len1 hl1) (by decide) (by decide) (own_take1) (X136.more (by decide) (by decide)) rfl N136 Z136 f141 (Nat.le_trans (Nat.le_trans (Nat.le_trans (Nat.le_trans (Nat.le_refl _) E132.1) E133.1) (Nat.le_of_eq W135.size.symm)) K136.1) Es136 Cs136 Vs136 Ab136
      · refine own_go (fun _ q => XS.icmpYes X22.here hx rfl (pc0 := 157) (pc' := 180) rfl (hb hby at_157) rfl (feq hl1).2 (by decide) (by decide) q) ?_
        show OG (T22.setTop (mkF m 180 #[vI p0, vI p1, vI p2, vI p3, vI (p0 &&& (3 : Int32)), vR kd, vI (Int32.ofNat lt), vI (1 : Int32), vI x, vI ((p2 &&& (3 : Int32)) + (1 : Int32)), vI (Int32.ofNat c0), vI (Int32.ofNat c1), vI (Int32.ofNat c2), vI (Int32.ofNat c3), .val .null, .unset, .unset, .unset, .unset, .unset, .unset] []))
        refine own_go (fun _ q => XS.iload X22.here hx rfl (hb hby at_180) rfl (XS.iconst X22.here hx rfl (hb hby at_182) q)) ?_
        show OG (T22.setTop (mkF m 183 _ [(.int (2 : Int32)), (.int ((p2 &&& (3 : Int32)) + (1 : Int32)))]))
        by_cases hl2 : ((p2 &&& (3 : Int32)) + (1 : Int32)) = (2 : Int32)
        · refine own_go (fun _ q => XS.icmpNo X22.here hx rfl (hb hby at_183) rfl (teq hl2).2 q) ?_
          show OG (T22.setTop (mkF m 186 #[vI p0, vI p1, vI p2, vI p3, vI (p0 &&& (3 : Int32)), vR kd, vI (Int32.ofNat lt), vI (1 : Int32), vI x, vI ((p2 &&& (3 : Int32)) + (1 : Int32)), vI (Int32.ofNat c0), vI (Int32.ofNat c1), vI (Int32.ofNat c2), vI (Int32.ofNat c3), .val .null, .unset, .unset, .unset, .unset, .unset, .unset] []))
          obtain ⟨T142, h142, X142, e142, E142, A142, D142, -, st142⟩ := newO X22 hx hZ hown (wd hw 8 rfl) (wd hw 9 rfl) (wd hw 10 rfl) e22q (g := (mkF m 186 #[vI p0, vI p1, vI p2, vI p3, vI (p0 &&& (3 : Int32)), vR kd, vI (Int32.ofNat lt), vI (1 : Int32), vI x, vI ((p2 &&& (3 : Int32)) + (1 : Int32)), vI (Int32.ofNat c0), vI (Int32.ofNat c1), vI (Int32.ofNat c2), vI (Int32.ofNat c3), .val .null, .unset, .unset, .unset, .unset, .unset, .unset] [])) rfl (hb hby at_186) (by decide) (by decide)
          obtain ⟨b142, g142⟩ : ∃ z, z = h0.size := ⟨_, rfl⟩
          rw [← g142] at A142 D142 st142
          have G142 : n0 ≤ b142 := Nat.le_trans Z0 (Nat.le_of_eq g142.symm)
          have Z142 : n0 ≤ h142.size := Nat.le_trans Z0 E142.1
          have Fn142_coder : Fld Z h142 b142 "java/lang/String" "coder" "B" (.int (0 : Int32)) := D142 (Or.inr (wd hw 35 rfl)) (ty := .byte) (by decide)
          have Fn142_value : Fld Z h142 b142 "java/lang/String" "value" "[B" .null := D142 (Or.inr (wd hw 37 rfl)) (ty := (.array .byte)) (by decide)
          have y142 : h0.size ≤ b142 := Nat.le_trans (Nat.le_refl _) (Nat.le_of_eq g142.symm)
          refine own_go st142 ?_
          show OG (T142.setTop (mkF m 189 _ [(.ref b142)]))
          refine own_go (fun _ q => XS.dup X142.here hx rfl (hb hby at_189) rfl rfl (XS.iconst X142.here hx rfl (hb hby at_190) q)) ?_
          show OG (T142.setTop (mkF m 191 _ [(.int (2 : Int32)), (.ref b142), (.ref b142)]))
          obtain ⟨T143, h143, k143, X143, e143, E143, Aw143, Ex143, st143⟩ := newPE X142 hx hZ (wd hw 11 rfl) e142 (g := (mkF m 191 #[vI p0, vI p1, vI p2, vI p3, vI (p0 &&& (3 : Int32)), vR kd, vI (Int32.ofNat lt), vI (1 : Int32), vI x, vI ((p2 &&& (3 : Int32)) + (1 : Int32)), vI (Int32.ofNat c0), vI (Int32.ofNat c1), vI (Int32.ofNat c2), vI (Int32.ofNat c3), .val .null, .unset, .unset, .unset, .unset, .unset, .unset] [(.int (2 : Int32)), (.ref b142), (.ref b142)])) rfl (hb hby at_191) rfl (by decide) (cap := 2) (by decide) (by decide) (by decide) (by decide) (ad := "[C") (by decide)
          obtain ⟨b143, g143⟩ : ∃ z, z = h142.size := ⟨_, rfl⟩
          rw [← g143] at Aw143 Ex143 st143
          have A143 := own_By.new (nn := 2) Aw143 (by decide) rfl rfl
          have nq144 : b142 ≠ b143 := Nat.ne_of_lt (Nat.lt_of_lt_of_eq (A142).lt g143.symm)
          have y143 : h0.size ≤ b143 := Nat.le_trans (Nat.le_trans (Nat.le_refl _) E142.1) (Nat.le_of_eq g143.symm)
          have G143 : n0 ≤ b143 := Nat.le_trans Z142 (Nat.le_of_eq g143.symm)
          have Z143 : n0 ≤ h143.size := Nat.le_trans Z142 E143.1
          refine own_go st143 ?_
          show OG (T143.setTop (mkF m 193 _ [(.ref b143), (.ref b142), (.ref b142)]))
          refine own_go (fun _ q => XS.dup X143.here hx rfl (hb hby at_193) rfl rfl (XS.iconst X143.here hx rfl (hb hby at_194) (XS.iload X143.here hx rfl (hb hby at_195) rfl q))) ?_
          show OG (T143.setTop (mkF m 197 #[vI p0, vI p1, vI p2, vI p3, vI (p0 &&& (3 : Int32)), vR kd, vI (Int32.ofNat lt), vI (1 : Int32), vI x, vI ((p2 &&& (3 : Int32)) + (1 : Int32)), vI (Int32.ofNat c0), vI (Int32.ofNat c1), vI (Int32.ofNat c2), vI (Int32.ofNat c3), .val .null, .unset, .unset, .unset, .unset, .unset, .unset] [(.int (Int32.ofNat c0)), (.int (0 : Int32)), (.ref b143), (.ref b143), (.ref b142), (.ref b142)]))
          refine own_cstore (i := 0) (v := c0) X143 hx hZ e143 A143 (own_okc_lt hc0) rfl rfl (by decide) (hb hby at_197) rfl ?_
          intro T145 h145 X145 e145 W145 A145
          have N145 := Fr.snoc X145 N22 G143
          have Z145 : n0 ≤ h145.size := by rw [W145.size]; exact Z143
          show OG (T145.setTop (mkF m 198 _ [(.ref b143), (.ref b142), (.ref b142)]))
          refine own_go (fun _ q => XS.dup X145.here hx rfl (hb hby at_198) rfl rfl (XS.iconst X145.here hx rfl (hb hby at_199) (XS.iload X145.here hx rfl (hb hby at_200) rfl q))) ?_
          show OG (T145.setTop (mkF m 202 _ [(.int (Int32.ofNat c1)), (.int (1 : Int32)), (.ref b143), (.ref b143), (.ref b142), (.ref b142)]))
          refine own_cstore (i := 1) (v := c1) X145 hx hZ e145 A145 (own_okc_lt hc1) rfl rfl (by decide) (hb hby at_202) rfl ?_
          intro T146 h146 X146 e146 W146 A146
          have N146 := Fr.snoc X146 N145 G143
          have Z146 : n0 ≤ h146.size := by rw [W146.size]; exact Z145
          show OG (T146.setTop (mkF m 203 _ [(.ref b143), (.ref b142), (.ref b142)]))
          have Acs := A146.weak (g' := fun j => [c0, c1][j]?) own_cs2
          have hws : ∀ d ∈ StrChars.Road.words, d.before a0 Z = true := fun d hd => hw d ((by decide +kernel : ∀ d ∈ StrChars.Road.words, d ∈ tables_1) d hd)
          have f148 := (((A142.ext E143).wr W145).wr W146)
          have f149 := (((Fn142_value.ext E143).other W145 (Or.inl nq144)).other W146 (Or.inl nq144))
          have f150 := (((Fn142_coder.ext E143).other W145 (Or.inl nq144)).other W146 (Or.inl nq144))
          have f151 := ((((Od.ext E142).ext E143).wr W145 G143).wr W146 G143)
          refine own_strC X146 hx hZ hown (wd hw 12 rfl) (wd hw 13 rfl) (wd hw 14 rfl) hws (kI := 4) (wd hw 9 rfl) e146 (n := 2) (cs := [c0, c1]) rfl (by decide) (by decide) (own_all2 hc0 hc1) f148 f149 f150 Acs (SC.ext f151.2) hz0 G142 Z146 1 (by decide) (by decide) (by decide) (by decide) (by rw [hml]; rfl) (Nat.le_of_eq rfl) (hb hby at_203) rfl ?_
          intro T147 L147 r147 X147 N147q K147 Es147 Cs147 Gr147 yr147 Vs147 Ab147
          have N147 := Fr.app N146 N147q
          have Z147 : n0 ≤ T147.heap.size := Nat.le_trans Z146 K147.1
          show OG (T147.setTop (mkF m 206 #[vI p0, vI p1, vI p2, vI p3, vI (p0 &&& (3 : Int32)), vR kd, vI (Int32.ofNat lt), vI (1 : Int32), vI x, vI ((p2 &&& (3 : Int32)) + (1 : Int32)), vI (Int32.ofNat c0), vI (Int32.ofNat c1), vI (Int32.ofNat c2), vI (Int32.ofNat c3), .val .null, .unset, .unset, .unset, .unset, .unset, .unset] [(.ref b142)]))
          refine own_go (fun _ q => XS.astore X147.here hx rfl (hb hby at_206) rfl rfl (l' := #[vI p0, vI p1, vI p2, vI p3, vI (p0 &&& (3 : Int32)), vR kd, vI (Int32.ofNat lt), vI (1 : Int32), vI x, vI ((p2 &&& (3 : Int32)) + (1 : Int32)), vI (Int32.ofNat c0), vI (Int32.ofNat c1), vI (Int32.ofNat c2), vI (Int32.ofNat c3), vR b142, .unset, .unset, .unset, .unset, .unset, .unset]) rfl (XS.goto X147.here hx rfl (pc0 := 208) (pc' := 279) rfl (hb hby at_208) (by decide) (by decide) q)) ?_
          show OG (T147.setTop (mkF m 279 #[vI p0, vI p1, vI p2, vI p3, vI (p0 &&& (3 : Int32)), vR kd, vI (Int32.ofNat lt), vI (1 : Int32), vI x, vI ((p2 &&& (3 : Int32)) + (1 : Int32)), vI (Int32.ofNat c0), vI (Int32.ofNat c1), vI (Int32.ofNat c2), vI (Int32.ofNat c3), vR b142, .unset, .unset, .unset, .unset, .unset, .unset] []))
          have f152 := (f151.keep K147 (allS G142 all0))
          exact ts 2 [c0, c1] b142 r147 _ _ _ rfl (own_len2 hl2) (by decide) (by decide) (own_take2) (X147.more (by decide) (by decide)) rfl N147 Z147 f152 (Nat.le_trans (Nat.le_trans (Nat.le_trans (Nat.le_trans (Nat.le_trans (Nat.le_refl _) E142.1) E143.1) (Nat.le_of_eq W145.size.symm)) (Nat.le_of_eq W146.size.symm)) K147.1) Es147 Cs147 Vs147 Ab147
        · refine own_go (fun _ q => XS.icmpYes X22.here hx rfl (pc0 := 183) (pc' := 211) rfl (hb hby at_183) rfl (feq hl2).2 (by decide) (by decide) q) ?_
          show OG (T22.setTop (mkF m 211 #[vI p0, vI p1, vI p2, vI p3, vI (p0 &&& (3 : Int32)), vR kd, vI (Int32.ofNat lt), vI (1 : Int32), vI x, vI ((p2 &&& (3 : Int32)) + (1 : Int32)), vI (Int32.ofNat c0), vI (Int32.ofNat c1), vI (Int32.ofNat c2), vI (Int32.ofNat c3), .val .null, .unset, .unset, .unset, .unset, .unset, .unset] []))
          refine own_go (fun _ q => XS.iload X22.here hx rfl (hb hby at_211) rfl (XS.iconst X22.here hx rfl (hb hby at_213) q)) ?_
          show OG (T22.setTop (mkF m 214 _ [(.int (3 : Int32)), (.int ((p2 &&& (3 : Int32)) + (1 : Int32)))]))
          by_cases hl3 : ((p2 &&& (3 : Int32)) + (1 : Int32)) = (3 : Int32)
          · refine own_go (fun _ q => XS.icmpNo X22.here hx rfl (hb hby at_214) rfl (teq hl3).2 q) ?_
            show OG (T22.setTop (mkF m 217 #[vI p0, vI p1, vI p2, vI p3, vI (p0 &&& (3 : Int32)), vR kd, vI (Int32.ofNat lt), vI (1 : Int32), vI x, vI ((p2 &&& (3 : Int32)) + (1 : Int32)), vI (Int32.ofNat c0), vI (Int32.ofNat c1), vI (Int32.ofNat c2), vI (Int32.ofNat c3), .val .null, .unset, .unset, .unset, .unset, .unset, .unset] []))
            obtain ⟨T153, h153, X153, e153, E153, A153, D153, -, st153⟩ := newO X22 hx hZ hown (wd hw 8 rfl) (wd hw 9 rfl) (wd hw 10 rfl) e22q (g := (mkF m 217 #[vI p0, vI p1, vI p2, vI p3, vI (p0 &&& (3 : Int32)), vR kd, vI (Int32.ofNat lt), vI (1 : Int32), vI x, vI ((p2 &&& (3 : Int32)) + (1 : Int32)), vI (Int32.ofNat c0), vI (Int32.ofNat c1), vI (Int32.ofNat c2), vI (Int32.ofNat c3), .val .null, .unset, .unset, .unset, .unset, .unset, .unset] [])) rfl (hb hby at_217) (by decide) (by decide)
            obtain ⟨b153, g153⟩ : ∃ z, z = h0.size := ⟨_, rfl⟩
            rw [← g153] at A153 D153 st153
            have G153 : n0 ≤ b153 := Nat.le_trans Z0 (Nat.le_of_eq g153.symm)
            have Z153 : n0 ≤ h153.size := Nat.le_trans Z0 E153.1
            have Fn153_coder : Fld Z h153 b153 "java/lang/String" "coder" "B" (.int (0 : Int32)) := D153 (Or.inr (wd hw 35 rfl)) (ty := .byte) (by decide)
            have Fn153_value : Fld Z h153 b153 "java/lang/String" "value" "[B" .null := D153 (Or.inr (wd hw 37 rfl)) (ty := (.array .byte)) (by decide)
            have y153 : h0.size ≤ b153 := Nat.le_trans (Nat.le_refl _) (Nat.le_of_eq g153.symm)
            refine own_go st153 ?_
            show OG (T153.setTop (mkF m 220 _ [(.ref b153)]))
            refine own_go (fun _ q => XS.dup X153.here hx rfl (hb hby at_220) rfl rfl (XS.iconst X153.here hx rfl (hb hby at_221) q)) ?_
            show OG (T153.setTop (mkF m 222 _ [(.int (3 : Int32)), (.ref b153), (.ref b153)]))
            obtain ⟨T154, h154, k154, X154, e154, E154, Aw154, Ex154, st154⟩ := newPE X153 hx hZ (wd hw 11 rfl) e153 (g := (mkF m 222 #[vI p0, vI p1, vI p2, vI p3, vI (p0 &&& (3 : Int32)), vR kd, vI (Int32.ofNat lt), vI (1 : Int32), vI x, vI ((p2 &&& (3 : Int32)) + (1 : Int32)), vI (Int32.ofNat c0), vI (Int32.ofNat c1), vI (Int32.ofNat c2), vI (Int32.ofNat c3), .val .null, .unset, .unset, .unset, .unset, .unset, .unset] [(.int (3 : Int32)), (.ref b153), (.ref b153)])) rfl (hb hby at_222) rfl (by decide) (cap := 3) (by decide) (by decide) (by decide) (by decide) (ad := "[C") (by decide)
            obtain ⟨b154, g154⟩ : ∃ z, z = h153.size := ⟨_, rfl⟩
            rw [← g154] at Aw154 Ex154 st154
            have A154 := own_By.new (nn := 3) Aw154 (by decide) rfl rfl
            have nq155 : b153 ≠ b154 := Nat.ne_of_lt (Nat.lt_of_lt_of_eq (A153).lt g154.symm)
            have y154 : h0.size ≤ b154 := Nat.le_trans (Nat.le_trans (Nat.le_refl _) E153.1) (Nat.le_of_eq g154.symm)
            have G154 : n0 ≤ b154 := Nat.le_trans Z153 (Nat.le_of_eq g154.symm)
            have Z154 : n0 ≤ h154.size := Nat.le_trans Z153 E154.1
            refine own_go st154 ?_
            show OG (T154.setTop (mkF m 224 _ [(.ref b154), (.ref b153), (.ref b153)]))
            refine own_go (fun _ q => XS.dup X154.here hx rfl (hb hby at_224) rfl rfl (XS.iconst X154.here hx rfl (hb hby at_225) (XS.iload X154.here hx rfl (hb hby at_226) rfl q))) ?_
            show OG (T154.setTop (mkF m 228 #[vI p0, vI p1, vI p2, vI p3, vI (p0 &&& (3 : Int32)), vR kd, vI (Int32.ofNat lt), vI (1 : Int32), vI x, vI ((p2 &&& (3 : Int32)) + (1 : Int32)), vI (Int32.ofNat c0), vI (Int32.ofNat c1), vI (Int32.ofNat c2), vI (Int32.ofNat c3), .val .null, .unset, .unset, .unset, .unset, .unset, .unset] [(.int (Int32.ofNat c0)), (.int (0 : Int32)), (.ref b154), (.ref b154), (.ref b153), (.ref b153)]))
            refine own_cstore (i := 0) (v := c0) X154 hx hZ e154 A154 (own_okc_lt hc0) rfl rfl (by decide) (hb hby at_228) rfl ?_
            intro T156 h156 X156 e156 W156 A156
            have N156 := Fr.snoc X156 N22 G154
            have Z156 : n0 ≤ h156.size := by rw [W156.size]; exact Z154
            show OG (T156.setTop (mkF m 229 _ [(.ref b154), (.ref b153), (.ref b153)]))
            refine own_go (fun _ q => XS.dup X156.here hx rfl (hb hby at_229) rfl rfl (XS.iconst X156.here hx rfl (hb hby at_230) (XS.iload X156.here hx rfl (hb hby at_231) rfl q))) ?_
            show OG (T156.setTop (mkF m 233 _ [(.int (Int32.ofNat c1)), (.int (1 : Int32)), (.ref b154), (.ref b154), (.ref b153), (.ref b153)]))
            refine own_cstore (i := 1) (v := c1) X156 hx hZ e156 A156 (own_okc_lt hc1) rfl rfl (by decide) (hb hby at_233) rfl ?_
            intro T157 h157 X157 e157 W157 A157
            have N157 := Fr.snoc X157 N156 G154
            have Z157 : n0 ≤ h157.size := by rw [W157.size]; exact Z156
            show OG (T157.setTop (mkF m 234 _ [(.ref b154), (.ref b153), (.ref b153)]))
            refine own_go (fun _ q => XS.dup X157.here hx rfl (hb hby at_234) rfl rfl (XS.iconst X157.here hx rfl (hb hby at_235) (XS.iload X157.here hx rfl (hb hby at_236) rfl q))) ?_
            show OG (T157.setTop (mkF m 238 #[vI p0, vI p1, vI p2, vI p3, vI (p0 &&& (3 : Int32)), vR kd, vI (Int32.ofNat lt), vI (1 : Int32), vI x, vI ((p2 &&& (3 : Int32)) + (1 : Int32)), vI (Int32.ofNat c0), vI (Int32.ofNat c1), vI (Int32.ofNat c2), vI (Int32.ofNat c3), .val .null, .unset, .unset, .unset, .unset, .unset, .unset] [(.int (Int32.ofNat c2)), (.int (2 : Int32)), (.ref b154), (.ref b154), (.ref b153), (.ref b153)]))
            refine own_cstore (i := 2) (v := c2) X157 hx hZ e157 A157 (own_okc_lt hc2) rfl rfl (by decide) (hb hby at_238) rfl ?_
            intro T158 h158 X158 e158 W158 A158
            have N158 := Fr.snoc X158 N157 G154
            have Z158 : n0 ≤ h158.size := by rw [W158.size]; exact Z157
            show OG (T158.setTop (mkF m 239 _ [(.ref b154), (.ref b153), (.ref b153)]))
            have Acs := A158.weak (g' := fun j => [c0, c1, c2][j]?) own_cs3
            have hws : ∀ d ∈ StrChars.Road.words, d.before a0 Z = true := fun d hd => hw d ((by decide +kernel : ∀ d ∈ StrChars.Road.words, d ∈ tables_1) d hd)
            have f160 := ((((A153.ext E154).wr W156).wr W157).wr W158)
            have f161 := ((((Fn153_value.ext E154).other W156 (Or.inl nq155)).other W157 (Or.inl nq155)).other W158 (Or.inl nq155))
            have f162 := ((((Fn153_coder.ext E154).other W156 (Or.inl nq155)).other W157 (Or.inl nq155)).other W158 (Or.inl nq155))
            have f163 := (((((Od.ext E153).ext E154).wr W156 G154).wr W157 G154).wr W158 G154)
            refine own_strC X158 hx hZ hown (wd hw 12 rfl) (wd hw 13 rfl) (wd hw 14 rfl) hws (kI := 4) (wd hw 9 rfl) e158 (n := 3) (cs := [c0, c1, c2]) rfl (by decide) (by decide) (own_all3 hc0 hc1 hc2) f160 f161 f162 Acs (SC.ext f163.2) hz0 G153 Z158 1 (by decide) (by decide) (by decide) (by decide) (by rw [hml]; rfl) (Nat.le_of_eq rfl) (hb hby at_239) rfl ?_
            intro T159 L159 r159 X159 N159q K159 Es159 Cs159 Gr159 yr159 Vs159 Ab159
            have N159 := Fr.app N158 N159q
            have Z159 : n0 ≤ T159.heap.size := Nat.le_trans Z158 K159.1
            show OG (T159.setTop (mkF m 242 #[vI p0, vI p1, vI p2, vI p3, vI (p0 &&& (3 : Int32)), vR kd, vI (Int32.ofNat lt), vI (1 : Int32), vI x, vI ((p2 &&& (3 : Int32)) + (1 : Int32)), vI (Int32.ofNat c0), vI (Int32.ofNat c1), vI (Int32.ofNat c2), vI (Int32.ofNat c3), .val .null, .unset, .unset, .unset, .unset, .unset, .unset] [(.ref b153)]))
            refine own_go (fun _ q => XS.astore X159.here hx rfl (hb hby at_242) rfl rfl (l' := #[vI p0, vI p1, vI p2, vI p3, vI (p0 &&& (3 : Int32)), vR kd, vI (Int32.ofNat lt), vI (1 : Int32), vI x, vI ((p2 &&& (3 : Int32)) + (1 : Int32)), vI (Int32.ofNat c0), vI (Int32.ofNat c1), vI (Int32.ofNat c2), vI (Int32.ofNat c3), vR b153, .unset, .unset, .unset, .unset, .unset, .unset]) rfl (XS.goto X159.here hx rfl (pc0 := 244) (pc' := 279) rfl (hb hby at_244) (by decide) (by decide) q)) ?_
            show OG (T159.setTop (mkF m 279 #[vI p0, vI p1, vI p2, vI p3, vI (p0 &&& (3 : Int32)), vR kd, vI (Int32.ofNat lt), vI (1 : Int32), vI x, vI ((p2 &&& (3 : Int32)) + (1 : Int32)), vI (Int32.ofNat c0), vI (Int32.ofNat c1), vI (Int32.ofNat c2), vI (Int32.ofNat c3), vR b153, .unset, .unset, .unset, .unset, .unset, .unset] []))
            have f164 := (f163.keep K159 (allS G153 all0))
            exact ts 3 [c0, c1, c2] b153 r159 _ _ _ rfl (own_len3 hl3) (by decide) (by decide) (own_take3) (X159.more (by decide) (by decide)) rfl N159 Z159 f164 (Nat.le_trans (Nat.le_trans (Nat.le_trans (Nat.le_trans (Nat.le_trans (Nat.le_trans (Nat.le_refl _) E153.1) E154.1) (Nat.le_of_eq W156.size.symm)) (Nat.le_of_eq W157.size.symm)) (Nat.le_of_eq W158.size.symm)) K159.1) Es159 Cs159 Vs159 Ab159
          · refine own_go (fun _ q => XS.icmpYes X22.here hx rfl (pc0 := 214) (pc' := 247) rfl (hb hby at_214) rfl (feq hl3).2 (by decide) (by decide) q) ?_
            show OG (T22.setTop (mkF m 247 #[vI p0, vI p1, vI p2, vI p3, vI (p0 &&& (3 : Int32)), vR kd, vI (Int32.ofNat lt), vI (1 : Int32), vI x, vI ((p2 &&& (3 : Int32)) + (1 : Int32)), vI (Int32.ofNat c0), vI (Int32.ofNat c1), vI (Int32.ofNat c2), vI (Int32.ofNat c3), .val .null, .unset, .unset, .unset, .unset, .unset, .unset] []))
            obtain ⟨T165, h165, X165, e165, E165, A165, D165, -, st165⟩ := newO X22 hx hZ hown (wd hw 8 rfl) (wd hw 9 rfl) (wd hw 10 rfl) e22q (g := (mkF m 247 #[vI p0, vI p1, vI p2, vI p3, vI (p0 &&& (3 : Int32)), vR kd, vI (Int32.ofNat lt), vI (1 : Int32), vI x, vI ((p2 &&& (3 : Int32)) + (1 : Int32)), vI (Int32.ofNat c0), vI (Int32.ofNat c1), vI (Int32.ofNat c2), vI (Int32.ofNat c3), .val .null, .unset, .unset, .unset, .unset, .unset, .unset] [])) rfl (hb hby at_247) (by decide) (by decide)
            obtain ⟨b165, g165⟩ : ∃ z, z = h0.size := ⟨_, rfl⟩
            rw [← g165] at A165 D165 st165
            have G165 : n0 ≤ b165 := Nat.le_trans Z0 (Nat.le_of_eq g165.symm)
            have Z165 : n0 ≤ h165.size := Nat.le_trans Z0 E165.1
            have Fn165_coder : Fld Z h165 b165 "java/lang/String" "coder" "B" (.int (0 : Int32)) := D165 (Or.inr (wd hw 35 rfl)) (ty := .byte) (by decide)
            have Fn165_value : Fld Z h165 b165 "java/lang/String" "value" "[B" .null := D165 (Or.inr (wd hw 37 rfl)) (ty := (.array .byte)) (by decide)
            have y165 : h0.size ≤ b165 := Nat.le_trans (Nat.le_refl _) (Nat.le_of_eq g165.symm)
            refine own_go st165 ?_
            show OG (T165.setTop (mkF m 250 _ [(.ref b165)]))
            refine own_go (fun _ q => XS.dup X165.here hx rfl (hb hby at_250) rfl rfl (XS.iconst X165.here hx rfl (hb hby at_251) q)) ?_
            show OG (T165.setTop (mkF m 252 _ [(.int (4 : Int32)), (.ref b165), (.ref b165)]))
            obtain ⟨T166, h166, k166, X166, e166, E166, Aw166, Ex166, st166⟩ := newPE X165 hx hZ (wd hw 11 rfl) e165 (g := (mkF m 252 #[vI p0, vI p1, vI p2, vI p3, vI (p0 &&& (3 : Int32)), vR kd, vI (Int32.ofNat lt), vI (1 : Int32), vI x, vI ((p2 &&& (3 : Int32)) + (1 : Int32)), vI (Int32.ofNat c0), vI (Int32.ofNat c1), vI (Int32.ofNat c2), vI (Int32.ofNat c3), .val .null, .unset, .unset, .unset, .unset, .unset, .unset] [(.int (4 : Int32)), (.ref b165), (.ref b165)])) rfl (hb hby at_252) rfl (by decide) (cap := 4) (by decide) (by decide) (by decide) (by decide) (ad := "[C") (by decide)
            obtain ⟨b166, g166⟩ : ∃ z, z = h165.size := ⟨_, rfl⟩
            rw [← g166] at Aw166 Ex166 st166
            have A166 := own_By.new (nn := 4) Aw166 (by decide) rfl rfl
            have nq167 : b165 ≠ b166 := Nat.ne_of_lt (Nat.lt_of_lt_of_eq (A165).lt g166.symm)
            have y166 : h0.size ≤ b166 := Nat.le_trans (Nat.le_trans (Nat.le_refl _) E165.1) (Nat.le_of_eq g166.symm)
            have G166 : n0 ≤ b166 := Nat.le_trans Z165 (Nat.le_of_eq g166.symm)
            have Z166 : n0 ≤ h166.size := Nat.le_trans Z165 E166.1
            refine own_go st166 ?_
            show OG (T166.setTop (mkF m 254 _ [(.ref b166), (.ref b165), (.ref b165)]))
            refine own_go (fun _ q => XS.dup X166.here hx rfl (hb hby at_254) rfl rfl (XS.iconst X166.here hx rfl (hb hby at_255) (XS.iload X166.here hx rfl (hb hby at_256) rfl q))) ?_
            show OG (T166.setTop (mkF m 258 #[vI p0, vI p1, vI p2, vI p3, vI (p0 &&& (3 : Int32)), vR kd, vI (Int32.ofNat lt), vI (1 : Int32), vI x, vI ((p2 &&& (3 : Int32)) + (1 : Int32)), vI (Int32.ofNat c0), vI (Int32.ofNat c1), vI (Int32.ofNat c2), vI (Int32.ofNat c3), .val .null, .unset, .unset, .unset, .unset, .unset, .unset] [(.int (Int32.ofNat c0)), (.int (0 : Int32)), (.ref b166), (.ref b166), (.ref b165), (.ref b165)]))
            refine own_cstore (i := 0) (v := c0) X166 hx hZ e166 A166 (own_okc_lt hc0) rfl rfl (by decide) (hb hby at_258) rfl ?_
            intro T168 h168 X168 e168 W168 A168
            have N168 := Fr.snoc X168 N22 G166
            have Z168 : n0 ≤ h168.size := by rw [W168.size]; exact Z166
            show OG (T168.setTop (mkF m 259 _ [(.ref b166), (.ref b165), (.ref b165)]))
            refine own_go (fun _ q => XS.dup X168.here hx rfl (hb hby at_259) rfl rfl (XS.iconst X168.here hx rfl (hb hby at_260) (XS.iload X168.here hx rfl (hb hby at_261) rfl q))) ?_
            show OG (T168.setTop (mkF m 263 _ [(.int (Int32.ofNat c1)), (.int (1 : Int32)), (.ref b166), (.ref b166), (.ref b165), (.ref b165)]))
            refine own_cstore (i := 1) (v := c1) X168 hx hZ e168 A168 (own_okc_lt hc1) rfl rfl (by decide) (hb hby at_263) rfl ?_
            intro T169 h169 X169 e169 W169 A169
            have N169 := Fr.snoc X169 N168 G166
            have Z169 : n0 ≤ h169.size := by rw [W169.size]; exact Z168
            show OG (T169.setTop (mkF m 264 _ [(.ref b166), (.ref b165), (.ref b165)]))
            refine own_go (fun _ q => XS.dup X169.here hx rfl (hb hby at_264) rfl rfl (XS.iconst X169.here hx rfl (hb hby at_265) (XS.iload X169.here hx rfl (hb hby at_266) rfl q))) ?_
            show OG (T169.setTop (mkF m 268 #[vI p0, vI p1, vI p2, vI p3, vI (p0 &&& (3 : Int32)), vR kd, vI (Int32.ofNat lt), vI (1 : Int32), vI x, vI ((p2 &&& (3 : Int32)) + (1 : Int32)), vI (Int32.ofNat c0), vI (Int32.ofNat c1), vI (Int32.ofNat c2), vI (Int32.ofNat c3), .val .null, .unset, .unset, .unset, .unset, .unset, .unset] [(.int (Int32.ofNat c2)), (.int (2 : Int32)), (.ref b166), (.ref b166), (.ref b165), (.ref b165)]))
            refine own_cstore (i := 2) (v := c2) X169 hx hZ e169 A169 (own_okc_lt hc2) rfl rfl (by decide) (hb hby at_268) rfl ?_
            intro T170 h170 X170 e170 W170 A170
            have N170 := Fr.snoc X170 N169 G166
            have Z170 : n0 ≤ h170.size := by rw [W170.size]; exact Z169
            show OG (T170.setTop (mkF m 269 _ [(.ref b166), (.ref b165), (.ref b165)]))
            refine own_go (fun _ q => XS.dup X170.here hx rfl (hb hby at_269) rfl rfl (XS.iconst X170.here hx rfl (hb hby at_270) (XS.iload X170.here hx rfl (hb hby at_271) rfl q))) ?_
            show OG (T170.setTop (mkF m 273 _ [(.int (Int32.ofNat c3)), (.int (3 : Int32)), (.ref b166), (.ref b166), (.ref b165), (.ref b165)]))
            refine own_cstore (i := 3) (v := c3) X170 hx hZ e170 A170 (own_okc_lt hc3) rfl rfl (by decide) (hb hby at_273) rfl ?_
            intro T171 h171 X171 e171 W171 A171
            have N171 := Fr.snoc X171 N170 G166
            have Z171 : n0 ≤ h171.size := by rw [W171.size]; exact Z170
            show OG (T171.setTop (mkF m 274 _ [(.ref b166), (.ref b165), (.ref b165)]))
            have Acs := A171.weak (g' := fun j => [c0, c1, c2, c3][j]?) own_cs4
            have hws : ∀ d ∈ StrChars.Road.words, d.before a0 Z = true := fun d hd => hw d ((by decide +kernel : ∀ d ∈ StrChars.Road.words, d ∈ tables_1) d hd)
            have f173 := (((((A165.ext E166).wr W168).wr W169).wr W170).wr W171)
            have f174 := (((((Fn165_value.ext E166).other W168 (Or.inl nq167)).other W169 (Or.inl nq167)).other W170 (Or.inl nq167)).other W171 (Or.inl nq167))
            have f175 := (((((Fn165_coder.ext E166).other W168 (Or.inl nq167)).other W169 (Or.inl nq167)).other W170 (Or.inl nq167)).other W171 (Or.inl nq167))
            have f176 := ((((((Od.ext E165).ext E166).wr W168 G166).wr W169 G166).wr W170 G166).wr W171 G166)
            refine own_strC X171 hx hZ hown (wd hw 12 rfl) (wd hw 13 rfl) (wd hw 14 rfl) hws (kI := 4) (wd hw 9 rfl) e171 (n := 4) (cs := [c0, c1, c2, c3]) rfl (by decide) (by decide) (own_all4 hc0 hc1 hc2 hc3) f173 f174 f175 Acs (SC.ext f176.2) hz0 G165 Z171 1 (by decide) (by decide) (by decide) (by decide) (by rw [hml]; rfl) (Nat.le_of_eq rfl) (hb hby at_274) rfl ?_
            intro T172 L172 r172 X172 N172q K172 Es172 Cs172 Gr172 yr172 Vs172 Ab172
            have N172 := Fr.app N171 N172q
            have Z172 : n0 ≤ T172.heap.size := Nat.le_trans Z171 K172.1
            show OG (T172.setTop (mkF m 277 #[vI p0, vI p1, vI p2, vI p3, vI (p0 &&& (3 : Int32)), vR kd, vI (Int32.ofNat lt), vI (1 : Int32), vI x, vI ((p2 &&& (3 : Int32)) + (1 : Int32)), vI (Int32.ofNat c0), vI (Int32.ofNat c1), vI (Int32.ofNat c2), vI (Int32.ofNat c3), .val .null, .unset, .unset, .unset, .unset, .unset, .unset] [(.ref b165)]))
            refine own_go (fun _ q => XS.astore X172.here hx rfl (hb hby at_277) rfl rfl (l' := #[vI p0, vI p1, vI p2, vI p3, vI (p0 &&& (3 : Int32)), vR kd, vI (Int32.ofNat lt), vI (1 : Int32), vI x, vI ((p2 &&& (3 : Int32)) + (1 : Int32)), vI (Int32.ofNat c0), vI (Int32.ofNat c1), vI (Int32.ofNat c2), vI (Int32.ofNat c3), vR b165, .unset, .unset, .unset, .unset, .unset, .unset]) rfl q) ?_
            show OG (T172.setTop (mkF m 279 #[vI p0, vI p1, vI p2, vI p3, vI (p0 &&& (3 : Int32)), vR kd, vI (Int32.ofNat lt), vI (1 : Int32), vI x, vI ((p2 &&& (3 : Int32)) + (1 : Int32)), vI (Int32.ofNat c0), vI (Int32.ofNat c1), vI (Int32.ofNat c2), vI (Int32.ofNat c3), vR b165, .unset, .unset, .unset, .unset, .unset, .unset] []))
            have f177 := (f176.keep K172 (allS G165 all0))
            exact ts 4 [c0, c1, c2, c3] b165 r172 _ _ _ rfl (own_len4 hl1 hl2 hl3) (by decide) (by decide) (own_take4) (X172.more (by decide) (by decide)) rfl N172 Z172 f177 (Nat.le_trans (Nat.le_trans (Nat.le_trans (Nat.le_trans (Nat.le_trans (Nat.le_trans (Nat.le_trans (Nat.le_refl _) E165.1) E166.1) (Nat.le_of_eq W168.size.symm)) (Nat.le_of_eq W169.size.symm)) (Nat.le_of_eq W170.size.symm)) (Nat.le_of_eq W171.size.symm)) K172.1) Es172 Cs172 Vs172 Ab172
    by_cases hx0 : (p1 &&& (2147483647 : Int32)) = (0 : Int32)
    · refine own_go (fun _ q => XS.ifNo X_.here hx rfl (hb hby at_88) rfl ((if0 _ _).trans (teq hx0).2) q) ?_
      show OG (T.setTop (mkF m 91 #[vI p0, vI p1, vI p2, vI p3, vI (p0 &&& (3 : Int32)), vR kd, vI (Int32.ofNat lt), vI (1 : Int32), vI (p1 &&& (2147483647 : Int32)), .unset, .unset, .unset, .unset, .unset, .unset, .unset, .unset, .unset, .unset, .unset, .unset] []))
      refine own_go (fun _ q => XS.iconst X_.here hx rfl (hb hby at_91) (XS.istore X_.here hx rfl (hb hby at_92) rfl (l' := #[vI p0, vI p1, vI p2, vI p3, vI (p0 &&& (3 : Int32)), vR kd, vI (Int32.ofNat lt), vI (1 : Int32), vI (1 : Int32), .unset, .unset, .unset, .unset, .unset, .unset, .unset, .unset, .unset, .unset, .unset, .unset]) rfl q)) ?_
      show OG (T.setTop (mkF m 94 #[vI p0, vI p1, vI p2, vI p3, vI (p0 &&& (3 : Int32)), vR kd, vI (Int32.ofNat lt), vI (1 : Int32), vI (1 : Int32), .unset, .unset, .unset, .unset, .unset, .unset, .unset, .unset, .unset, .unset, .unset, .unset] []))
      exact tx _ 1 rfl (Nat.le_refl _)
    · refine own_go (fun _ q => XS.ifYes X_.here hx rfl (pc0 := 88) (pc' := 94) rfl (hb hby at_88) rfl ((if0 _ _).trans (feq hx0).2) (by decide) (by decide) q) ?_
      show OG (T.setTop (mkF m 94 #[vI p0, vI p1, vI p2, vI p3, vI (p0 &&& (3 : Int32)), vR kd, vI (Int32.ofNat lt), vI (1 : Int32), vI (p1 &&& (2147483647 : Int32)), .unset, .unset, .unset, .unset, .unset, .unset, .unset, .unset, .unset, .unset, .unset, .unset] []))
      obtain ⟨X, hX, hX1⟩ := own_pos31 hx0
      exact tx _ X hX hX1
  have tail0 : ∀ (kd : Addr) (lt : Nat) (T : State), Exa Z Z.heap kd "com/example/interleave/interleave/core/Operation$Kind" ∧ Fld Z Z.heap kd "com/example/interleave/interleave/core/Operation$Kind" "onItem" "Z" (.int 0) ∧ Fld Z Z.heap kd "com/example/interleave/interleave/core/Operation$Kind" "letter" "C" (.int (Int32.ofNat lt)) → lt < 128 → Stand p l e room_1 s m #[(.int p0), (.int p1), (.int p2), (.int p3)] below meth c T [] 0 0 → T.heap = h0 → own_Go p e below (s, true) (Q0 Z p0 p1 p2 p3 kr kw kc ka d1 d2 fv zc h0 n0) room_1.cells room_1.slots (T.setTop (mkF m 80 #[vI p0, vI p1, vI p2, vI p3, vI (p0 &&& (3 : Int32)), vR kd, vI (Int32.ofNat lt), vI (0 : Int32), .unset, .unset, .unset, .unset, .unset, .unset, .unset, .unset, .unset, .unset, .unset, .unset, .unset] [])) := by
    intro kd lt T hK hlt X_ eh
    obtain ⟨Ek, Fk, Fl⟩ := hK
    show OG (T.setTop (mkF m 80 #[vI p0, vI p1, vI p2, vI p3, vI (p0 &&& (3 : Int32)), vR kd, vI (Int32.ofNat lt), vI (0 : Int32), .unset, .unset, .unset, .unset, .unset, .unset, .unset, .unset, .unset, .unset, .unset, .unset, .unset] []))
    refine own_go (fun _ q => XS.iloadN X_.here hx rfl (hb hby at_80) rfl q) ?_
    show OG (T.setTop (mkF m 81 _ [(.int p1)]))
    refine own_go (X_.ldcInt hx hown (mvT hZ (wd hw 3 rfl)) (g := (mkF m 81 #[vI p0, vI p1, vI p2, vI p3, vI (p0 &&& (3 : Int32)), vR kd, vI (Int32.ofNat lt), vI (0 : Int32), .unset, .unset, .unset, .unset, .unset, .unset, .unset, .unset, .unset, .unset, .unset, .unset, .unset] [(.int p1)])) rfl (hb hby at_81)) ?_
    show OG (T.setTop (mkF m 83 #[vI p0, vI p1, vI p2, vI p3, vI (p0 &&& (3 : Int32)), vR kd, vI (Int32.ofNat lt), vI (0 : Int32), .unset, .unset, .unset, .unset, .unset, .unset, .unset, .unset, .unset, .unset, .unset, .unset, .unset] [(.int (2147483647 : Int32)), (.int p1)]))
    refine own_go (fun _ q => XS.iand X_.here hx rfl (hb hby at_83) rfl (XS.istore X_.here hx rfl (hb hby at_84) rfl (l' := #[vI p0, vI p1, vI p2, vI p3, vI (p0 &&& (3 : Int32)), vR kd, vI (Int32.ofNat lt), vI (0 : Int32), vI (p1 &&& (2147483647 : Int32)), .unset, .unset, .unset, .unset, .unset, .unset, .unset, .unset, .unset, .unset, .unset, .unset]) rfl (XS.iload X_.here hx rfl (hb hby at_86) rfl q))) ?_
    show OG (T.setTop (mkF m 88 #[vI p0, vI p1, vI p2, vI p3, vI (p0 &&& (3 : Int32)), vR kd, vI (Int32.ofNat lt), vI (0 : Int32), vI (p1 &&& (2147483647 : Int32)), .unset, .unset, .unset, .unset, .unset, .unset, .unset, .unset, .unset, .unset, .unset, .unset] [(.int (p1 &&& (2147483647 : Int32)))]))
    have tx : ∀ (x : Int32) (X : Nat), x.toInt = (X : Int) → 1 ≤ X → own_Go p e below (s, true) (Q0 Z p0 p1 p2 p3 kr kw kc ka d1 d2 fv zc h0 n0) room_1.cells room_1.slots (T.setTop (mkF m 94 #[vI p0, vI p1, vI p2, vI p3, vI (p0 &&& (3 : Int32)), vR kd, vI (Int32.ofNat lt), vI (0 : Int32), vI x, .unset, .unset, .unset, .unset, .unset, .unset, .unset, .unset, .unset, .unset, .unset, .unset] [])) := by
      intro x X hX hX1
      show OG (T.setTop (mkF m 94 #[vI p0, vI p1, vI p2, vI p3, vI (p0 &&& (3 : Int32)), vR kd, vI (Int32.ofNat lt), vI (0 : Int32), vI x, .unset, .unset, .unset, .unset, .unset, .unset, .unset, .unset, .unset, .unset, .unset, .unset] []))
      refine own_go (fun _ q => XS.iloadN X_.here hx rfl (hb hby at_94) rfl (XS.iconst X_.here hx rfl (hb hby at_95) (XS.iand X_.here hx rfl (hb hby at_96) rfl (XS.iconst X_.here hx rfl (hb hby at_97) (XS.iadd X_.here hx rfl (hb hby at_98) rfl (XS.istore X_.here hx rfl (hb hby at_99) rfl (l' := #[vI p0, vI p1, vI p2, vI p3, vI (p0 &&& (3 : Int32)), vR kd, vI (Int32.ofNat lt), vI (0 : Int32), vI x, vI ((p2 &&& (3 : Int32)) + (1 : Int32)), .unset, .unset, .unset, .unset, .unset, .unset, .unset, .unset, .unset, .unset, .unset]) rfl (XS.iloadN X_.here hx rfl (hb hby at_101) rfl (XS.bipush X_.here hx rfl (hb hby at_102) q)))))))) ?_
      show OG (T.setTop (mkF m 104 #[vI p0, vI p1, vI p2, vI p3, vI (p0 &&& (3 : Int32)), vR kd, vI (Int32.ofNat lt), vI (0 : Int32), vI x, vI ((p2 &&& (3 : Int32)) + (1 : Int32)), .unset, .unset, .unset, .unset, .unset, .unset, .unset, .unset, .unset, .unset, .unset] [(.int (63 : Int32)), (.int p3)]))
      refine own_go (fun _ q => XS.iand X_.here hx rfl (hb hby at_104) rfl q) ?_
      show OG (T.setTop (mkF m 105 _ [(.int (p3 &&& (63 : Int32)))]))
      refine own_static X_ hx hZ hown (wd hw 4 rfl) (wd hw 5 rfl) (wd hw 6 rfl) (wd hw 7 rfl) (by decide) eh (argsL := [(.int (p3 &&& (63 : Int32)))]) (rest := []) (rm1 l Z a0 hw [] (p3 &&& (63 : Int32)) h0 n0 Z0 (own_m63 _).1 (own_m63 _).2) 0 (by decide) (by decide) (by decide) (by decide) (by rw [hml]; rfl) pd_6 rfl rfl (Nat.le_of_eq rfl) (hb hby at_105) rfl ?_
      intro v178 T178 L178 X178 hQ178
      obtain ⟨c0, rfl, N178q, e178q, hc0⟩ := hQ178
      have N178 := Fr.app N0 N178q
      show OG (T178.setTop (mkF m 108 _ [(.int (Int32.ofNat c0))]))
      refine own_go (fun _ q => XS.istore X178.here hx rfl (hb hby at_108) rfl (l' := #[vI p0, vI p1, vI p2, vI p3, vI (p0 &&& (3 : Int32)), vR kd, vI (Int32.ofNat lt), vI (0 : Int32), vI x, vI ((p2 &&& (3 : Int32)) + (1 : Int32)), vI (Int32.ofNat c0), .unset, .unset, .unset, .unset, .unset, .unset, .unset, .unset, .unset, .unset]) rfl (XS.iloadN X178.here hx rfl (hb hby at_110) rfl (XS.bipush X178.here hx rfl (hb hby at_111) (XS.iushr X178.here hx rfl (hb hby at_113) rfl (XS.bipush X178.here hx rfl (hb hby at_114) (XS.iand X178.here hx rfl (hb hby at_116) rfl q)))))) ?_
      show OG (T178.setTop (mkF m 117 #[vI p0, vI p1, vI p2, vI p3, vI (p0 &&& (3 : Int32)), vR kd, vI (Int32.ofNat lt), vI (0 : Int32), vI x, vI ((p2 &&& (3 : Int32)) + (1 : Int32)), vI (Int32.ofNat c0), .unset, .unset, .unset, .unset, .unset, .unset, .unset, .unset, .unset, .unset] [(.int (((p3.toUInt32 >>> ((6 : Int32) &&& 31).toUInt32).toInt32) &&& (63 : Int32)))]))
      refine own_static X178 hx hZ hown (wd hw 4 rfl) (wd hw 5 rfl) (wd hw 6 rfl) (wd hw 7 rfl) (by decide) e178q (argsL := [(.int (((p3.toUInt32 >>> ((6 : Int32) &&& 31).toUInt32).toInt32) &&& (63 : Int32)))]) (rest := []) (rm1 l Z a0 hw [] (((p3.toUInt32 >>> ((6 : Int32) &&& 31).toUInt32).toInt32) &&& (63 : Int32)) h0 n0 Z0 (own_m63 _).1 (own_m63 _).2) 0 (by decide) (by decide) (by decide) (by decide) (by rw [hml]; rfl) pd_6 rfl rfl (Nat.le_of_eq rfl) (hb hby at_117) rfl ?_
      intro v179 T179 L179 X179 hQ179
      obtain ⟨c1, rfl, N179q, e179q, hc1⟩ := hQ179
      have N179 := Fr.app N178 N179q
      show OG (T179.setTop (mkF m 120 _ [(.int (Int32.ofNat c1))]))
      refine own_go (fun _ q => XS.istore X179.here hx rfl (hb hby at_120) rfl (l' := #[vI p0, vI p1, vI p2, vI p3, vI (p0 &&& (3 : Int32)), vR kd, vI (Int32.ofNat lt), vI (0 : Int32), vI x, vI ((p2 &&& (3 : Int32)) + (1 : Int32)), vI (Int32.ofNat c0), vI (Int32.ofNat c1), .unset, .unset, .unset, .unset, .unset, .unset, .unset, .unset, .unset]) rfl (XS.iloadN X179.here hx rfl (hb hby at_122) rfl (XS.bipush X179.here hx rfl (hb hby at_123) (XS.iushr X179.here hx rfl (hb hby at_125) rfl (XS.bipush X179.here hx rfl (hb hby at_126) (XS.iand X179.here hx rfl (hb hby at_128) rfl q)))))) ?_
      show OG (T179.setTop (mkF m 129 #[vI p0, vI p1, vI p2, vI p3, vI (p0 &&& (3 : Int32)), vR kd, vI (Int32.ofNat lt), vI (0 : Int32), vI x, vI ((p2 &&& (3 : Int32)) + (1 : Int32)), vI (Int32.ofNat c0), vI (Int32.ofNat c1), .unset, .unset, .unset, .unset, .unset, .unset, .unset, .unset, .unset] [(.int (((p3.toUInt32 >>> ((12 : Int32) &&& 31).toUInt32).toInt32) &&& (63 : Int32)))]))
      refine own_static X179 hx hZ hown (wd hw 4 rfl) (wd hw 5 rfl) (wd hw 6 rfl) (wd hw 7 rfl) (by decide) e179q (argsL := [(.int (((p3.toUInt32 >>> ((12 : Int32) &&& 31).toUInt32).toInt32) &&& (63 : Int32)))]) (rest := []) (rm1 l Z a0 hw [] (((p3.toUInt32 >>> ((12 : Int32) &&& 31).toUInt32).toInt32) &&& (63 : Int32)) h0 n0 Z0 (own_m63 _).1 (own_m63 _).2) 0 (by decide) (by decide) (by decide) (by decide) (by rw [hml]; rfl) pd_6 rfl rfl (Nat.le_of_eq rfl) (hb hby at_129) rfl ?_
      intro v180 T180 L180 X180 hQ180
      obtain ⟨c2, rfl, N180q, e180q, hc2⟩ := hQ180
      have N180 := Fr.app N179 N180q
      show OG (T180.setTop (mkF m 132 _ [(.int (Int32.ofNat c2))]))
      refine own_go (fun _ q => XS.istore X180.here hx rfl (hb hby at_132) rfl (l' := #[vI p0, vI p1, vI p2, vI p3, vI (p0 &&& (3 : Int32)), vR kd, vI (Int32.ofNat lt), vI (0 : Int32), vI x, vI ((p2 &&& (3 : Int32)) + (1 : Int32)), vI (Int32.ofNat c0), vI (Int32.ofNat c1), vI (Int32.ofNat c2), .unset, .unset, .unset, .unset, .unset, .unset, .unset, .unset]) rfl (XS.iloadN X180.here hx rfl (hb hby at_134) rfl (XS.bipush X180.here hx rfl (hb hby at_135) (XS.iushr X180.here hx rfl (hb hby at_137) rfl (XS.bipush X180.here hx rfl (hb hby at_138) (XS.iand X180.here hx rfl (hb hby at_140) rfl q)))))) ?_
      show OG (T180.setTop (mkF m 141 #[vI p0, vI p1, vI p2, vI p3, vI (p0 &&& (3 : Int32)), vR kd, vI (Int32.ofNat lt), vI (0 : Int32), vI x, vI ((p2 &&& (3 : Int32)) + (1 : Int32)), vI (Int32.ofNat c0), vI (Int32.ofNat c1), vI (Int32.ofNat c2), .unset, .unset, .unset, .unset, .unset, .unset, .unset, .unset] [(.int (((p3.toUInt32 >>> ((18 : Int32) &&& 31).toUInt32).toInt32) &&& (63 : Int32)))]))
      refine own_static X180 hx hZ hown (wd hw 4 rfl) (wd hw 5 rfl) (wd hw 6 rfl) (wd hw 7 rfl) (by decide) e180q (argsL := [(.int (((p3.toUInt32 >>> ((18 : Int32) &&& 31).toUInt32).toInt32) &&& (63 : Int32)))]) (rest := []) (rm1 l Z a0 hw [] (((p3.toUInt32 >>> ((18 : Int32) &&& 31).toUInt32).toInt32) &&& (63 : Int32)) h0 n0 Z0 (own_m63 _).1 (own_m63 _).2) 0 (by decide) (by decide) (by decide) (by decide) (by rw [hml]; rfl) pd_6 rfl rfl (Nat.le_of_eq rfl) (hb hby at_141) rfl ?_
      intro v181 T181 L181 X181 hQ181
      obtain ⟨c3, rfl, N181q, e181q, hc3⟩ := hQ181
      have N181 := Fr.app N180 N181q
      show OG (T181.setTop (mkF m 144 _ [(.int (Int32.ofNat c3))]))
      refine own_go (fun _ q => XS.istore X181.here hx rfl (hb hby at_144) rfl (l' := #[vI p0, vI p1, vI p2, vI p3, vI (p0 &&& (3 : Int32)), vR kd, vI (Int32.ofNat lt), vI (0 : Int32), vI x, vI ((p2 &&& (3 : Int32)) + (1 : Int32)), vI (Int32.ofNat c0), vI (Int32.ofNat c1), vI (Int32.ofNat c2), vI (Int32.ofNat c3), .unset, .unset, .unset, .unset, .unset, .unset, .unset]) rfl (XS.aconstNull X181.here hx rfl (hb hby at_146) (XS.astore X181.here hx rfl (hb hby at_147) rfl rfl (l' := #[vI p0, vI p1, vI p2, vI p3, vI (p0 &&& (3 : Int32)), vR kd, vI (Int32.ofNat lt), vI (0 : Int32), vI x, vI ((p2 &&& (3 : Int32)) + (1 : Int32)), vI (Int32.ofNat c0), vI (Int32.ofNat c1), vI (Int32.ofNat c2), vI (Int32.ofNat c3), .val .null, .unset, .unset, .unset, .unset, .unset, .unset]) rfl (XS.iload X181.here hx rfl (hb hby at_149) rfl q)))) ?_
      show OG (T181.setTop (mkF m 151 #[vI p0, vI p1, vI p2, vI p3, vI (p0 &&& (3 : Int32)), vR kd, vI (Int32.ofNat lt), vI (0 : Int32), vI x, vI ((p2 &&& (3 : Int32)) + (1 : Int32)), vI (Int32.ofNat c0), vI (Int32.ofNat c1), vI (Int32.ofNat c2), vI (Int32.ofNat c3), .val .null, .unset, .unset, .unset, .unset, .unset, .unset] [(.int (0 : Int32))]))
      refine own_go (fun _ q => XS.ifYes X181.here hx rfl (pc0 := 151) (pc' := 279) rfl (hb hby at_151) rfl ((if0 _ _).trans (teq (by decide : (0 : Int32) = (0 : Int32))).1) (by decide) (by decide) q) ?_
      show OG (T181.setTop (mkF m 279 #[vI p0, vI p1, vI p2, vI p3, vI (p0 &&& (3 : Int32)), vR kd, vI (Int32.ofNat lt), vI (0 : Int32), vI x, vI ((p2 &&& (3 : Int32)) + (1 : Int32)), vI (Int32.ofNat c0), vI (Int32.ofNat c1), vI (Int32.ofNat c2), vI (Int32.ofNat c3), .val .null, .unset, .unset, .unset, .unset, .unset, .unset] []))
      refine own_go (fun _ q => XS.bipush X181.here hx rfl (hb hby at_279) q) ?_
      show OG (T181.setTop (mkF m 281 _ [(.int (10 : Int32))]))
      obtain ⟨T182, h182, k182, X182, e182, E182, Aw182, st182⟩ := newP X181 hx hZ (wd hw 38 rfl) e181q (g := (mkF m 281 #[vI p0, vI p1, vI p2, vI p3, vI (p0 &&& (3 : Int32)), vR kd, vI (Int32.ofNat lt), vI (0 : Int32), vI x, vI ((p2 &&& (3 : Int32)) + (1 : Int32)), vI (Int32.ofNat c0), vI (Int32.ofNat c1), vI (Int32.ofNat c2), vI (Int32.ofNat c3), .val .null, .unset, .unset, .unset, .unset, .unset, .unset] [(.int (10 : Int32))])) rfl (hb hby at_281) rfl (by decide) (cap := 10) (by decide) (by decide) (by decide) (by decide)
      obtain ⟨b182, g182⟩ : ∃ z, z = h0.size := ⟨_, rfl⟩
      rw [← g182] at Aw182 st182
      have A182 := own_Ar.new (nn := 10) Aw182 (by decide) rfl
      have G182 : n0 ≤ b182 := Nat.le_trans Z0 (Nat.le_of_eq g182.symm)
      have Z182 : n0 ≤ h182.size := Nat.le_trans Z0 E182.1
      refine own_go st182 ?_
      show OG (T182.setTop (mkF m 283 _ [(.ref b182)]))
      refine own_go (fun _ q => XS.dup X182.here hx rfl (hb hby at_283) rfl rfl (XS.iconst X182.here hx rfl (hb hby at_284) (XS.iconst X182.here hx rfl (hb hby at_285) q))) ?_
      show OG (T182.setTop (mkF m 286 #[vI p0, vI p1, vI p2, vI p3, vI (p0 &&& (3 : Int32)), vR kd, vI (Int32.ofNat lt), vI (0 : Int32), vI x, vI ((p2 &&& (3 : Int32)) + (1 : Int32)), vI (Int32.ofNat c0), vI (Int32.ofNat c1), vI (Int32.ofNat c2), vI (Int32.ofNat c3), .val .null, .unset, .unset, .unset, .unset, .unset, .unset] [(.int (1 : Int32)), (.int (0 : Int32)), (.ref b182), (.ref b182)]))
      refine own_iastore X182 hx hZ e182 (i := 0) A182 rfl (by decide) (hb hby at_286) rfl ?_
      intro T183 h183 X183 e183 W183 A183
      have N183 := Fr.snoc X183 N181 G182
      have Z183 : n0 ≤ h183.size := by rw [W183.size]; exact Z182
      show OG (T183.setTop (mkF m 287 _ [(.ref b182)]))
      refine own_go (fun _ q => XS.dup X183.here hx rfl (hb hby at_287) rfl rfl (XS.iconst X183.here hx rfl (hb hby at_288) (XS.bipush X183.here hx rfl (hb hby at_289) q))) ?_
      show OG (T183.setTop (mkF m 291 _ [(.int (10 : Int32)), (.int (1 : Int32)), (.ref b182), (.ref b182)]))
      refine own_iastore X183 hx hZ e183 (i := 1) A183 rfl (by decide) (hb hby at_291) rfl ?_
      intro T184 h184 X184 e184 W184 A184
      have N184 := Fr.snoc X184 N183 G182
      have Z184 : n0 ≤ h184.size := by rw [W184.size]; exact Z183
      show OG (T184.setTop (mkF m 292 _ [(.ref b182)]))
      refine own_go (fun _ q => XS.dup X184.here hx rfl (hb hby at_292) rfl rfl (XS.iconst X184.here hx rfl (hb hby at_293) (XS.bipush X184.here hx rfl (hb hby at_294) q))) ?_
      show OG (T184.setTop (mkF m 296 #[vI p0, vI p1, vI p2, vI p3, vI (p0 &&& (3 : Int32)), vR kd, vI (Int32.ofNat lt), vI (0 : Int32), vI x, vI ((p2 &&& (3 : Int32)) + (1 : Int32)), vI (Int32.ofNat c0), vI (Int32.ofNat c1), vI (Int32.ofNat c2), vI (Int32.ofNat c3), .val .null, .unset, .unset, .unset, .unset, .unset, .unset] [(.int (100 : Int32)), (.int (2 : Int32)), (.ref b182), (.ref b182)]))
      refine own_iastore X184 hx hZ e184 (i := 2) A184 rfl (by decide) (hb hby at_296) rfl ?_
      intro T185 h185 X185 e185 W185 A185
      have N185 := Fr.snoc X185 N184 G182
      have Z185 : n0 ≤ h185.size := by rw [W185.size]; exact Z184
      show OG (T185.setTop (mkF m 297 _ [(.ref b182)]))
      refine own_go (fun _ q => XS.dup X185.here hx rfl (hb hby at_297) rfl rfl (XS.iconst X185.here hx rfl (hb hby at_298) (XS.sipush X185.here hx rfl (hb hby at_299) q))) ?_
      show OG (T185.setTop (mkF m 302 _ [(.int (1000 : Int32)), (.int (3 : Int32)), (.ref b182), (.ref b182)]))
      refine own_iastore X185 hx hZ e185 (i := 3) A185 rfl (by decide) (hb hby at_302) rfl ?_
      intro T186 h186 X186 e186 W186 A186
      have N186 := Fr.snoc X186 N185 G182
      have Z186 : n0 ≤ h186.size := by rw [W186.size]; exact Z185
      show OG (T186.setTop (mkF m 303 _ [(.ref b182)]))
      refine own_go (fun _ q => XS.dup X186.here hx rfl (hb hby at_303) rfl rfl (XS.iconst X186.here hx rfl (hb hby at_304) (XS.sipush X186.here hx rfl (hb hby at_305) q))) ?_
      show OG (T186.setTop (mkF m 308 #[vI p0, vI p1, vI p2, vI p3, vI (p0 &&& (3 : Int32)), vR kd, vI (Int32.ofNat lt), vI (0 : Int32), vI x, vI ((p2 &&& (3 : Int32)) + (1 : Int32)), vI (Int32.ofNat c0), vI (Int32.ofNat c1), vI (Int32.ofNat c2), vI (Int32.ofNat c3), .val .null, .unset, .unset, .unset, .unset, .unset, .unset] [(.int (10000 : Int32)), (.int (4 : Int32)), (.ref b182), (.ref b182)]))
      refine own_iastore X186 hx hZ e186 (i := 4) A186 rfl (by decide) (hb hby at_308) rfl ?_
      intro T187 h187 X187 e187 W187 A187
      have N187 := Fr.snoc X187 N186 G182
      have Z187 : n0 ≤ h187.size := by rw [W187.size]; exact Z186
      show OG (T187.setTop (mkF m 309 _ [(.ref b182)]))
      refine own_go (fun _ q => XS.dup X187.here hx rfl (hb hby at_309) rfl rfl (XS.iconst X187.here hx rfl (hb hby at_310) q)) ?_
      show OG (T187.setTop (mkF m 311 _ [(.int (5 : Int32)), (.ref b182), (.ref b182)]))
      refine own_go (X187.ldcInt hx hown (mvT hZ (wd hw 39 rfl)) (g := (mkF m 311 #[vI p0, vI p1, vI p2, vI p3, vI (p0 &&& (3 : Int32)), vR kd, vI (Int32.ofNat lt), vI (0 : Int32), vI x, vI ((p2 &&& (3 : Int32)) + (1 : Int32)), vI (Int32.ofNat c0), vI (Int32.ofNat c1), vI (Int32.ofNat c2), vI (Int32.ofNat c3), .val .null, .unset, .unset, .unset, .unset, .unset, .unset] [(.int (5 : Int32)), (.ref b182), (.ref b182)])) rfl (hb hby at_311)) ?_
      show OG (T187.setTop (mkF m 313 #[vI p0, vI p1, vI p2, vI p3, vI (p0 &&& (3 : Int32)), vR kd, vI (Int32.ofNat lt), vI (0 : Int32), vI x, vI ((p2 &&& (3 : Int32)) + (1 : Int32)), vI (Int32.ofNat c0), vI (Int32.ofNat c1), vI (Int32.ofNat c2), vI (Int32.ofNat c3), .val .null, .unset, .unset, .unset, .unset, .unset, .unset] [(.int (100000 : Int32)), (.int (5 : Int32)), (.ref b182), (.ref b182)]))
      refine own_iastore X187 hx hZ e187 (i := 5) A187 rfl (by decide) (hb hby at_313) rfl ?_
      intro T188 h188 X188 e188 W188 A188
      have N188 := Fr.snoc X188 N187 G182
      have Z188 : n0 ≤ h188.size := by rw [W188.size]; exact Z187
      show OG (T188.setTop (mkF m 314 _ [(.ref b182)]))
      refine own_go (fun _ q => XS.dup X188.here hx rfl (hb hby at_314) rfl rfl (XS.bipush X188.here hx rfl (hb hby at_315) q)) ?_
      show OG (T188.setTop (mkF m 317 _ [(.int (6 : Int32)), (.ref b182), (.ref b182)]))
      refine own_go (X188.ldcInt hx hown (mvT hZ (wd hw 40 rfl)) (g := (mkF m 317 #[vI p0, vI p1, vI p2, vI p3, vI (p0 &&& (3 : Int32)), vR kd, vI (Int32.ofNat lt), vI (0 : Int32), vI x, vI ((p2 &&& (3 : Int32)) + (1 : Int32)), vI (Int32.ofNat c0), vI (Int32.ofNat c1), vI (Int32.ofNat c2), vI (Int32.ofNat c3), .val .null, .unset, .unset, .unset, .unset, .unset, .unset] [(.int (6 : Int32)), (.ref b182), (.ref b182)])) rfl (hb hby at_317)) ?_
      show OG (T188.setTop (mkF m 319 #[vI p0, vI p1, vI p2, vI p3, vI (p0 &&& (3 : Int32)), vR kd, vI (Int32.ofNat lt), vI (0 : Int32), vI x, vI ((p2 &&& (3 : Int32)) + (1 : Int32)), vI (Int32.ofNat c0), vI (Int32.ofNat c1), vI (Int32.ofNat c2), vI (Int32.ofNat c3), .val .null, .unset, .unset, .unset, .unset, .unset, .unset] [(.int (1000000 : Int32)), (.int (6 : Int32)), (.ref b182), (.ref b182)]))
      refine own_iastore X188 hx hZ e188 (i := 6) A188 rfl (by decide) (hb hby at_319) rfl ?_
      intro T189 h189 X189 e189 W189 A189
      have N189 := Fr.snoc X189 N188 G182
      have Z189 : n0 ≤ h189.size := by rw [W189.size]; exact Z188
      show OG (T189.setTop (mkF m 320 _ [(.ref b182)]))
      refine own_go (fun _ q => XS.dup X189.here hx rfl (hb hby at_320) rfl rfl (XS.bipush X189.here hx rfl (hb hby at_321) q)) ?_
      show OG (T189.setTop (mkF m 323 _ [(.int (7 : Int32)), (.ref b182), (.ref b182)]))
      refine own_go (X189.ldcInt hx hown (mvT hZ (wd hw 41 rfl)) (g := (mkF m 323 #[vI p0, vI p1, vI p2, vI p3, vI (p0 &&& (3 : Int32)), vR kd, vI (Int32.ofNat lt), vI (0 : Int32), vI x, vI ((p2 &&& (3 : Int32)) + (1 : Int32)), vI (Int32.ofNat c0), vI (Int32.ofNat c1), vI (Int32.ofNat c2), vI (Int32.ofNat c3), .val .null, .unset, .unset, .unset, .unset, .unset, .unset] [(.int (7 : Int32)), (.ref b182), (.ref b182)])) rfl (hb hby at_323)) ?_
      show OG (T189.setTop (mkF m 325 #[vI p0, vI p1, vI p2, vI p3, vI (p0 &&& (3 : Int32)), vR kd, vI (Int32.ofNat lt), vI (0 : Int32), vI x, vI ((p2 &&& (3 : Int32)) + (1 : Int32)), vI (Int32.ofNat c0), vI (Int32.ofNat c1), vI (Int32.ofNat c2), vI (Int32.ofNat c3), .val .null, .unset, .unset, .unset, .unset, .unset, .unset] [(.int (10000000 : Int32)), (.int (7 : Int32)), (.ref b182), (.ref b182)]))
      refine own_iastore X189 hx hZ e189 (i := 7) A189 rfl (by decide) (hb hby at_325) rfl ?_
      intro T190 h190 X190 e190 W190 A190
      have N190 := Fr.snoc X190 N189 G182
      have Z190 : n0 ≤ h190.size := by rw [W190.size]; exact Z189
      show OG (T190.setTop (mkF m 326 _ [(.ref b182)]))
      refine own_go (fun _ q => XS.dup X190.here hx rfl (hb hby at_326) rfl rfl (XS.bipush X190.here hx rfl (hb hby at_327) q)) ?_
      show OG (T190.setTop (mkF m 329 _ [(.int (8 : Int32)), (.ref b182), (.ref b182)]))
      refine own_go (X190.ldcInt hx hown (mvT hZ (wd hw 42 rfl)) (g := (mkF m 329 #[vI p0, vI p1, vI p2, vI p3, vI (p0 &&& (3 : Int32)), vR kd, vI (Int32.ofNat lt), vI (0 : Int32), vI x, vI ((p2 &&& (3 : Int32)) + (1 : Int32)), vI (Int32.ofNat c0), vI (Int32.ofNat c1), vI (Int32.ofNat c2), vI (Int32.ofNat c3), .val .null, .unset, .unset, .unset, .unset, .unset, .unset] [(.int (8 : Int32)), (.ref b182), (.ref b182)])) rfl (hb hby at_329)) ?_
      show OG (T190.setTop (mkF m 331 #[vI p0, vI p1, vI p2, vI p3, vI (p0 &&& (3 : Int32)), vR kd, vI (Int32.ofNat lt), vI (0 : Int32), vI x, vI ((p2 &&& (3 : Int32)) + (1 : Int32)), vI (Int32.ofNat c0), vI (Int32.ofNat c1), vI (Int32.ofNat c2), vI (Int32.ofNat c3), .val .null, .unset, .unset, .unset, .unset, .unset, .unset] [(.int (100000000 : Int32)), (.int (8 : Int32)), (.ref b182), (.ref b182)]))
      refine own_iastore X190 hx hZ e190 (i := 8) A190 rfl (by decide) (hb hby at_331) rfl ?_
      intro T191 h191 X191 e191 W191 A191
      have N191 := Fr.snoc X191 N190 G182
      have Z191 : n0 ≤ h191.size := by rw [W191.size]; exact Z190
      show OG (T191.setTop (mkF m 332 _ [(.ref b182)]))
      refine own_go (fun _ q => XS.dup X191.here hx rfl (hb hby at_332) rfl rfl (XS.bipush X191.here hx rfl (hb hby at_333) q)) ?_
      show OG (T191.setTop (mkF m 335 _ [(.int (9 : Int32)), (.ref b182), (.ref b182)]))
      refine own_go (X191.ldcInt hx hown (mvT hZ (wd hw 43 rfl)) (g := (mkF m 335 #[vI p0, vI p1, vI p2, vI p3, vI (p0 &&& (3 : Int32)), vR kd, vI (Int32.ofNat lt), vI (0 : Int32), vI x, vI ((p2 &&& (3 : Int32)) + (1 : Int32)), vI (Int32.ofNat c0), vI (Int32.ofNat c1), vI (Int32.ofNat c2), vI (Int32.ofNat c3), .val .null, .unset, .unset, .unset, .unset, .unset, .unset] [(.int (9 : Int32)), (.ref b182), (.ref b182)])) rfl (hb hby at_335)) ?_
      show OG (T191.setTop (mkF m 337 #[vI p0, vI p1, vI p2, vI p3, vI (p0 &&& (3 : Int32)), vR kd, vI (Int32.ofNat lt), vI (0 : Int32), vI x, vI ((p2 &&& (3 : Int32)) + (1 : Int32)), vI (Int32.ofNat c0), vI (Int32.ofNat c1), vI (Int32.ofNat c2), vI (Int32.ofNat c3), .val .null, .unset, .unset, .unset, .unset, .unset, .unset] [(.int (1000000000 : Int32)), (.int (9 : Int32)), (.ref b182), (.ref b182)]))
      refine own_iastore X191 hx hZ e191 (i := 9) A191 rfl (by decide) (hb hby at_337) rfl ?_
      intro T192 h192 X192 e192 W192 A192
      have N192 := Fr.snoc X192 N191 G182
      have Z192 : n0 ≤ h192.size := by rw [W192.size]; exact Z191
      show OG (T192.setTop (mkF m 338 _ [(.ref b182)]))
      refine own_go (fun _ q => XS.astore X192.here hx rfl (hb hby at_338) rfl rfl (l' := #[vI p0, vI p1, vI p2, vI p3, vI (p0 &&& (3 : Int32)), vR kd, vI (Int32.ofNat lt), vI (0 : Int32), vI x, vI ((p2 &&& (3 : Int32)) + (1 : Int32)), vI (Int32.ofNat c0), vI (Int32.ofNat c1), vI (Int32.ofNat c2), vI (Int32.ofNat c3), .val .null, vR b182, .unset, .unset, .unset, .unset, .unset]) rfl q) ?_
      show OG (T192.setTop (mkF m 340 #[vI p0, vI p1, vI p2, vI p3, vI (p0 &&& (3 : Int32)), vR kd, vI (Int32.ofNat lt), vI (0 : Int32), vI x, vI ((p2 &&& (3 : Int32)) + (1 : Int32)), vI (Int32.ofNat c0), vI (Int32.ofNat c1), vI (Int32.ofNat c2), vI (Int32.ofNat c3), .val .null, vR b182, .unset, .unset, .unset, .unset, .unset] []))
      obtain ⟨Fp, hP, Ap⟩ : ∃ F : Nat → Value, (∀ k, k < 10 → F k = .int (Int32.ofNat (10 ^ k))) ∧ own_Ar Z h192 b182 .int 10 F := ⟨_, own_ten rfl rfl rfl rfl rfl rfl rfl rfl rfl rfl, A192⟩
      refine own_go (fun _ q => XS.iconst X192.here hx rfl (hb hby at_340) (XS.istore X192.here hx rfl (hb hby at_341) rfl (l' := #[vI p0, vI p1, vI p2, vI p3, vI (p0 &&& (3 : Int32)), vR kd, vI (Int32.ofNat lt), vI (0 : Int32), vI x, vI ((p2 &&& (3 : Int32)) + (1 : Int32)), vI (Int32.ofNat c0), vI (Int32.ofNat c1), vI (Int32.ofNat c2), vI (Int32.ofNat c3), .val .null, vR b182, vI (1 : Int32), .unset, .unset, .unset, .unset]) rfl q)) ?_
      show OG (T192.setTop (mkF m 343 #[vI p0, vI p1, vI p2, vI p3, vI (p0 &&& (3 : Int32)), vR kd, vI (Int32.ofNat lt), vI (0 : Int32), vI x, vI ((p2 &&& (3 : Int32)) + (1 : Int32)), vI (Int32.ofNat c0), vI (Int32.ofNat c1), vI (Int32.ofNat c2), vI (Int32.ofNat c3), .val .null, vR b182, vI (1 : Int32), .unset, .unset, .unset, .unset] []))
      show OG (T192.setTop (mkF m 343 #[vI p0, vI p1, vI p2, vI p3, vI (p0 &&& (3 : Int32)), vR kd, vI (Int32.ofNat lt), vI (0 : Int32), vI x, vI ((p2 &&& (3 : Int32)) + (1 : Int32)), vI (Int32.ofNat c0), vI (Int32.ofNat c1), vI (Int32.ofNat c2), vI (Int32.ofNat c3), .val .null, vR b182, vI (own_ndf 1 x), .unset, .unset, .unset, .unset] []))
      refine own_go (fun _ q => XS.iload X192.here hx rfl (hb hby at_343) rfl (XS.bipush X192.here hx rfl (hb hby at_345) q)) ?_
      show OG (T192.setTop (mkF m 347 _ [(.int (10 : Int32)), (.int x)]))
      refine own_via (t' := T192.setTop (mkF m 353 #[vI p0, vI p1, vI p2, vI p3, vI (p0 &&& (3 : Int32)), vR kd, vI (Int32.ofNat lt), vI (0 : Int32), vI x, vI ((p2 &&& (3 : Int32)) + (1 : Int32)), vI (Int32.ofNat c0), vI (Int32.ofNat c1), vI (Int32.ofNat c2), vI (Int32.ofNat c3), .val .null, vR b182, vI (own_ndf 2 x), .unset, .unset, .unset, .unset] [])) ?_ (fun tl1 => ?_)
      · show OG (T192.setTop (mkF m 353 #[vI p0, vI p1, vI p2, vI p3, vI (p0 &&& (3 : Int32)), vR kd, vI (Int32.ofNat lt), vI (0 : Int32), vI x, vI ((p2 &&& (3 : Int32)) + (1 : Int32)), vI (Int32.ofNat c0), vI (Int32.ofNat c1), vI (Int32.ofNat c2), vI (Int32.ofNat c3), .val .null, vR b182, vI (own_ndf 2 x), .unset, .unset, .unset, .unset] []))
        refine own_go (fun _ q => XS.iload X192.here hx rfl (hb hby at_353) rfl (XS.bipush X192.here hx rfl (hb hby at_355) q)) ?_
        show OG (T192.setTop (mkF m 357 _ [(.int (100 : Int32)), (.int x)]))
        refine own_via (t' := T192.setTop (mkF m 363 #[vI p0, vI p1, vI p2, vI p3, vI (p0 &&& (3 : Int32)), vR kd, vI (Int32.ofNat lt), vI (0 : Int32), vI x, vI ((p2 &&& (3 : Int32)) + (1 : Int32)), vI (Int32.ofNat c0), vI (Int32.ofNat c1), vI (Int32.ofNat c2), vI (Int32.ofNat c3), .val .null, vR b182, vI (own_ndf 3 x), .unset, .unset, .unset, .unset] [])) ?_ (fun tl2 => ?_)
        · show OG (T192.setTop (mkF m 363 #[vI p0, vI p1, vI p2, vI p3, vI (p0 &&& (3 : Int32)), vR kd, vI (Int32.ofNat lt), vI (0 : Int32), vI x, vI ((p2 &&& (3 : Int32)) + (1 : Int32)), vI (Int32.ofNat c0), vI (Int32.ofNat c1), vI (Int32.ofNat c2), vI (Int32.ofNat c3), .val .null, vR b182, vI (own_ndf 3 x), .unset, .unset, .unset, .unset] []))
          refine own_go (fun _ q => XS.iload X192.here hx rfl (hb hby at_363) rfl (XS.sipush X192.here hx rfl (hb hby at_365) q)) ?_
          show OG (T192.setTop (mkF m 368 _ [(.int (1000 : Int32)), (.int x)]))
          refine own_via (t' := T192.setTop (mkF m 374 #[vI p0, vI p1, vI p2, vI p3, vI (p0 &&& (3 : Int32)), vR kd, vI (Int32.ofNat lt), vI (0 : Int32), vI x, vI ((p2 &&& (3 : Int32)) + (1 : Int32)), vI (Int32.ofNat c0), vI (Int32.ofNat c1), vI (Int32.ofNat c2), vI (Int32.ofNat c3), .val .null, vR b182, vI (own_ndf 4 x), .unset, .unset, .unset, .unset] [])) ?_ (fun tl3 => ?_)
          · show OG (T192.setTop (mkF m 374 #[vI p0, vI p1, vI p2, vI p3, vI (p0 &&& (3 : Int32)), vR kd, vI (Int32.ofNat lt), vI (0 : Int32), vI x, vI ((p2 &&& (3 : Int32)) + (1 : Int32)), vI (Int32.ofNat c0), vI (Int32.ofNat c1), vI (Int32.ofNat c2), vI (Int32.ofNat c3), .val .null, vR b182, vI (own_ndf 4 x), .unset, .unset, .unset, .unset] []))
            refine own_go (fun _ q => XS.iload X192.here hx rfl (hb hby at_374) rfl (XS.sipush X192.here hx rfl (hb hby at_376) q)) ?_
            show OG (T192.setTop (mkF m 379 _ [(.int (10000 : Int32)), (.int x)]))
            refine own_via (t' := T192.setTop (mkF m 385 #[vI p0, vI p1, vI p2, vI p3, vI (p0 &&& (3 : Int32)), vR kd, vI (Int32.ofNat lt), vI (0 : Int32), vI x, vI ((p2 &&& (3 : Int32)) + (1 : Int32)), vI (Int32.ofNat c0), vI (Int32.ofNat c1), vI (Int32.ofNat c2), vI (Int32.ofNat c3), .val .null, vR b182, vI (own_ndf 5 x), .unset, .unset, .unset, .unset] [])) ?_ (fun tl4 => ?_)
            · show OG (T192.setTop (mkF m 385 #[vI p0, vI p1, vI p2, vI p3, vI (p0 &&& (3 : Int32)), vR kd, vI (Int32.ofNat lt), vI (0 : Int32), vI x, vI ((p2 &&& (3 : Int32)) + (1 : Int32)), vI (Int32.ofNat c0), vI (Int32.ofNat c1), vI (Int32.ofNat c2), vI (Int32.ofNat c3), .val .null, vR b182, vI (own_ndf 5 x), .unset, .unset, .unset, .unset] []))
              refine own_go (fun _ q => XS.iload X192.here hx rfl (hb hby at_385) rfl q) ?_
              show OG (T192.setTop (mkF m 387 _ [(.int x)]))
              refine own_go (X192.ldcInt hx hown (mvT hZ (wd hw 39 rfl)) (g := (mkF m 387 #[vI p0, vI p1, vI p2, vI p3, vI (p0 &&& (3 : Int32)), vR kd, vI (Int32.ofNat lt), vI (0 : Int32), vI x, vI ((p2 &&& (3 : Int32)) + (1 : Int32)), vI (Int32.ofNat c0), vI (Int32.ofNat c1), vI (Int32.ofNat c2), vI (Int32.ofNat c3), .val .null, vR b182, vI (own_ndf 5 x), .unset, .unset, .unset, .unset] [(.int x)])) rfl (hb hby at_387)) ?_
              show OG (T192.setTop (mkF m 389 #[vI p0, vI p1, vI p2, vI p3, vI (p0 &&& (3 : Int32)), vR kd, vI (Int32.ofNat lt), vI (0 : Int32), vI x, vI ((p2 &&& (3 : Int32)) + (1 : Int32)), vI (Int32.ofNat c0), vI (Int32.ofNat c1), vI (Int32.ofNat c2), vI (Int32.ofNat c3), .val .null, vR b182, vI (own_ndf 5 x), .unset, .unset, .unset, .unset] [(.int (100000 : Int32)), (.int x)]))
              refine own_via (t' := T192.setTop (mkF m 396 #[vI p0, vI p1, vI p2, vI p3, vI (p0 &&& (3 : Int32)), vR kd, vI (Int32.ofNat lt), vI (0 : Int32), vI x, vI ((p2 &&& (3 : Int32)) + (1 : Int32)), vI (Int32.ofNat c0), vI (Int32.ofNat c1), vI (Int32.ofNat c2), vI (Int32.ofNat c3), .val .null, vR b182, vI (own_ndf 6 x), .unset, .unset, .unset, .unset] [])) ?_ (fun tl5 => ?_)
              · show OG (T192.setTop (mkF m 396 #[vI p0, vI p1, vI p2, vI p3, vI (p0 &&& (3 : Int32)), vR kd, vI (Int32.ofNat lt), vI (0 : Int32), vI x, vI ((p2 &&& (3 : Int32)) + (1 : Int32)), vI (Int32.ofNat c0), vI (Int32.ofNat c1), vI (Int32.ofNat c2), vI (Int32.ofNat c3), .val .null, vR b182, vI (own_ndf 6 x), .unset, .unset, .unset, .unset] []))
                refine own_go (fun _ q => XS.iload X192.here hx rfl (hb hby at_396) rfl q) ?_
                show OG (T192.setTop (mkF m 398 _ [(.int x)]))
                refine own_go (X192.ldcInt hx hown (mvT hZ (wd hw 40 rfl)) (g := (mkF m 398 #[vI p0, vI p1, vI p2, vI p3, vI (p0 &&& (3 : Int32)), vR kd, vI (Int32.ofNat lt), vI (0 : Int32), vI x, vI ((p2 &&& (3 : Int32)) + (1 : Int32)), vI (Int32.ofNat c0), vI (Int32.ofNat c1), vI (Int32.ofNat c2), vI (Int32.ofNat c3), .val .null, vR b182, vI (own_ndf 6 x), .unset, .unset, .unset, .unset] [(.int x)])) rfl (hb hby at_398)) ?_
                show OG (T192.setTop (mkF m 400 #[vI p0, vI p1, vI p2, vI p3, vI (p0 &&& (3 : Int32)), vR kd, vI (Int32.ofNat lt), vI (0 : Int32), vI x, vI ((p2 &&& (3 : Int32)) + (1 : Int32)), vI (Int32.ofNat c0), vI (Int32.ofNat c1), vI (Int32.ofNat c2), vI (Int32.ofNat c3), .val .null, vR b182, vI (own_ndf 6 x), .unset, .unset, .unset, .unset] [(.int (1000000 : Int32)), (.int x)]))
                refine own_via (t' := T192.setTop (mkF m 407 #[vI p0, vI p1, vI p2, vI p3, vI (p0 &&& (3 : Int32)), vR kd, vI (Int32.ofNat lt), vI (0 : Int32), vI x, vI ((p2 &&& (3 : Int32)) + (1 : Int32)), vI (Int32.ofNat c0), vI (Int32.ofNat c1), vI (Int32.ofNat c2), vI (Int32.ofNat c3), .val .null, vR b182, vI (own_ndf 7 x), .unset, .unset, .unset, .unset] [])) ?_ (fun tl6 => ?_)
                · show OG (T192.setTop (mkF m 407 #[vI p0, vI p1, vI p2, vI p3, vI (p0 &&& (3 : Int32)), vR kd, vI (Int32.ofNat lt), vI (0 : Int32), vI x, vI ((p2 &&& (3 : Int32)) + (1 : Int32)), vI (Int32.ofNat c0), vI (Int32.ofNat c1), vI (Int32.ofNat c2), vI (Int32.ofNat c3), .val .null, vR b182, vI (own_ndf 7 x), .unset, .unset, .unset, .unset] []))
                  refine own_go (fun _ q => XS.iload X192.here hx rfl (hb hby at_407) rfl q) ?_
                  show OG (T192.setTop (mkF m 409 _ [(.int x)]))
                  refine own_go (X192.ldcInt hx hown (mvT hZ (wd hw 41 rfl)) (g := (mkF m 409 #[vI p0, vI p1, vI p2, vI p3, vI (p0 &&& (3 : Int32)), vR kd, vI (Int32.ofNat lt), vI (0 : Int32), vI x, vI ((p2 &&& (3 : Int32)) + (1 : Int32)), vI (Int32.ofNat c0), vI (Int32.ofNat c1), vI (Int32.ofNat c2), vI (Int32.ofNat c3), .val .null, vR b182, vI (own_ndf 7 x), .unset, .unset, .unset, .unset] [(.int x)])) rfl (hb hby at_409)) ?_
                  show OG (T192.setTop (mkF m 411 #[vI p0, vI p1, vI p2, vI p3, vI (p0 &&& (3 : Int32)), vR kd, vI (Int32.ofNat lt), vI (0 : Int32), vI x, vI ((p2 &&& (3 : Int32)) + (1 : Int32)), vI (Int32.ofNat c0), vI (Int32.ofNat c1), vI (Int32.ofNat c2), vI (Int32.ofNat c3), .val .null, vR b182, vI (own_ndf 7 x), .unset, .unset, .unset, .unset] [(.int (10000000 : Int32)), (.int x)]))
                  refine own_via (t' := T192.setTop (mkF m 418 #[vI p0, vI p1, vI p2, vI p3, vI (p0 &&& (3 : Int32)), vR kd, vI (Int32.ofNat lt), vI (0 : Int32), vI x, vI ((p2 &&& (3 : Int32)) + (1 : Int32)), vI (Int32.ofNat c0), vI (Int32.ofNat c1), vI (Int32.ofNat c2), vI (Int32.ofNat c3), .val .null, vR b182, vI (own_ndf 8 x), .unset, .unset, .unset, .unset] [])) ?_ (fun tl7 => ?_)
                  · show OG (T192.setTop (mkF m 418 #[vI p0, vI p1, vI p2, vI p3, vI (p0 &&& (3 : Int32)), vR kd, vI (Int32.ofNat lt), vI (0 : Int32), vI x, vI ((p2 &&& (3 : Int32)) + (1 : Int32)), vI (Int32.ofNat c0), vI (Int32.ofNat c1), vI (Int32.ofNat c2), vI (Int32.ofNat c3), .val .null, vR b182, vI (own_ndf 8 x), .unset, .unset, .unset, .unset] []))
                    refine own_go (fun _ q => XS.iload X192.here hx rfl (hb hby at_418) rfl q) ?_
                    show OG (T192.setTop (mkF m 420 _ [(.int x)]))
                    refine own_go (X192.ldcInt hx hown (mvT hZ (wd hw 42 rfl)) (g := (mkF m 420 #[vI p0, vI p1, vI p2, vI p3, vI (p0 &&& (3 : Int32)), vR kd, vI (Int32.ofNat lt), vI (0 : Int32), vI x, vI ((p2 &&& (3 : Int32)) + (1 : Int32)), vI (Int32.ofNat c0), vI (Int32.ofNat c1), vI (Int32.ofNat c2), vI (Int32.ofNat c3), .val .null, vR b182, vI (own_ndf 8 x), .unset, .unset, .unset, .unset] [(.int x)])) rfl (hb hby at_420)) ?_
                    show OG (T192.setTop (mkF m 422 #[vI p0, vI p1, vI p2, vI p3, vI (p0 &&& (3 : Int32)), vR kd, vI (Int32.ofNat lt), vI (0 : Int32), vI x, vI ((p2 &&& (3 : Int32)) + (1 : Int32)), vI (Int32.ofNat c0), vI (Int32.ofNat c1), vI (Int32.ofNat c2), vI (Int32.ofNat c3), .val .null, vR b182, vI (own_ndf 8 x), .unset, .unset, .unset, .unset] [(.int (100000000 : Int32)), (.int x)]))
                    refine own_via (t' := T192.setTop (mkF m 429 #[vI p0, vI p1, vI p2, vI p3, vI (p0 &&& (3 : Int32)), vR kd, vI (Int32.ofNat lt), vI (0 : Int32), vI x, vI ((p2 &&& (3 : Int32)) + (1 : Int32)), vI (Int32.ofNat c0), vI (Int32.ofNat c1), vI (Int32.ofNat c2), vI (Int32.ofNat c3), .val .null, vR b182, vI (own_ndf 9 x), .unset, .unset, .unset, .unset] [])) ?_ (fun tl8 => ?_)
                    · show OG (T192.setTop (mkF m 429 #[vI p0, vI p1, vI p2, vI p3, vI (p0 &&& (3 : Int32)), vR kd, vI (Int32.ofNat lt), vI (0 : Int32), vI x, vI ((p2 &&& (3 : Int32)) + (1 : Int32)), vI (Int32.ofNat c0), vI (Int32.ofNat c1), vI (Int32.ofNat c2), vI (Int32.ofNat c3), .val .null, vR b182, vI (own_ndf 9 x), .unset, .unset, .unset, .unset] []))
                      refine own_go (fun _ q => XS.iload X192.here hx rfl (hb hby at_429) rfl q) ?_
                      show OG (T192.setTop (mkF m 431 _ [(.int x)]))
                      refine own_go (X192.ldcInt hx hown (mvT hZ (wd hw 43 rfl)) (g := (mkF m 431 #[vI p0, vI p1, vI p2, vI p3, vI (p0 &&& (3 : Int32)), vR kd, vI (Int32.ofNat lt), vI (0 : Int32), vI x, vI ((p2 &&& (3 : Int32)) + (1 : Int32)), vI (Int32.ofNat c0), vI (Int32.ofNat c1), vI (Int32.ofNat c2), vI (Int32.ofNat c3), .val .null, vR b182, vI (own_ndf 9 x), .unset, .unset, .unset, .unset] [(.int x)])) rfl (hb hby at_431)) ?_
                      show OG (T192.setTop (mkF m 433 #[vI p0, vI p1, vI p2, vI p3, vI (p0 &&& (3 : Int32)), vR kd, vI (Int32.ofNat lt), vI (0 : Int32), vI x, vI ((p2 &&& (3 : Int32)) + (1 : Int32)), vI (Int32.ofNat c0), vI (Int32.ofNat c1), vI (Int32.ofNat c2), vI (Int32.ofNat c3), .val .null, vR b182, vI (own_ndf 9 x), .unset, .unset, .unset, .unset] [(.int (1000000000 : Int32)), (.int x)]))
                      refine own_via (t' := T192.setTop (mkF m 440 #[vI p0, vI p1, vI p2, vI p3, vI (p0 &&& (3 : Int32)), vR kd, vI (Int32.ofNat lt), vI (0 : Int32), vI x, vI ((p2 &&& (3 : Int32)) + (1 : Int32)), vI (Int32.ofNat c0), vI (Int32.ofNat c1), vI (Int32.ofNat c2), vI (Int32.ofNat c3), .val .null, vR b182, vI (own_ndf 10 x), .unset, .unset, .unset, .unset] [])) ?_ (fun tl9 => ?_)
                      · show OG (T192.setTop (mkF m 440 #[vI p0, vI p1, vI p2, vI p3, vI (p0 &&& (3 : Int32)), vR kd, vI (Int32.ofNat lt), vI (0 : Int32), vI x, vI ((p2 &&& (3 : Int32)) + (1 : Int32)), vI (Int32.ofNat c0), vI (Int32.ofNat c1), vI (Int32.ofNat c2), vI (Int32.ofNat c3), .val .null, vR b182, vI (own_ndf 10 x), .unset, .unset, .unset, .unset] []))
                        refine own_go (fun _ q => XS.bipush X192.here hx rfl (hb hby at_440) q) ?_
                        show OG (T192.setTop (mkF m 442 _ [(.int (17 : Int32))]))
                        obtain ⟨T193, h193, k193, X193, e193, E193, Aw193, Ex193, st193⟩ := newPE X192 hx hZ (wd hw 11 rfl) e192 (g := (mkF m 442 #[vI p0, vI p1, vI p2, vI p3, vI (p0 &&& (3 : Int32)), vR kd, vI (Int32.ofNat lt), vI (0 : Int32), vI x, vI ((p2 &&& (3 : Int32)) + (1 : Int32)), vI (Int32.ofNat c0), vI (Int32.ofNat c1), vI (Int32.ofNat c2), vI (Int32.ofNat c3), .val .null, vR b182, vI (own_ndf 10 x), .unset, .unset, .unset, .unset] [(.int (17 : Int32))])) rfl (hb hby at_442) rfl (by decide) (cap := 17) (by decide) (by decide) (by decide) (by decide) (ad := "[C") (by decide)
                        obtain ⟨b193, g193⟩ : ∃ z, z = h192.size := ⟨_, rfl⟩
                        rw [← g193] at Aw193 Ex193 st193
                        have A193 := own_By.new (nn := 17) Aw193 (by decide) rfl rfl
                        have nq194 : b182 ≠ b193 := Nat.ne_of_lt (Nat.lt_of_lt_of_eq (Ap).lt g193.symm)
                        have y193 : h0.size ≤ b193 := Nat.le_trans (Nat.le_trans (Nat.le_trans (Nat.le_trans (Nat.le_trans (Nat.le_trans (Nat.le_trans (Nat.le_trans (Nat.le_trans (Nat.le_trans (Nat.le_trans (Nat.le_trans (Nat.le_refl _) E182.1) (Nat.le_of_eq W183.size.symm)) (Nat.le_of_eq W184.size.symm)) (Nat.le_of_eq W185.size.symm)) (Nat.le_of_eq W186.size.symm)) (Nat.le_of_eq W187.size.symm)) (Nat.le_of_eq W188.size.symm)) (Nat.le_of_eq W189.size.symm)) (Nat.le_of_eq W190.size.symm)) (Nat.le_of_eq W191.size.symm)) (Nat.le_of_eq W192.size.symm)) (Nat.le_of_eq g193.symm)
                        have G193 : n0 ≤ b193 := Nat.le_trans Z192 (Nat.le_of_eq g193.symm)
                        have Z193 : n0 ≤ h193.size := Nat.le_trans Z192 E193.1
                        refine own_go st193 ?_
                        show OG (T193.setTop (mkF m 444 _ [(.ref b193)]))
                        refine own_go (fun _ q => XS.astore X193.here hx rfl (hb hby at_444) rfl rfl (l' := #[vI p0, vI p1, vI p2, vI p3, vI (p0 &&& (3 : Int32)), vR kd, vI (Int32.ofNat lt), vI (0 : Int32), vI x, vI ((p2 &&& (3 : Int32)) + (1 : Int32)), vI (Int32.ofNat c0), vI (Int32.ofNat c1), vI (Int32.ofNat c2), vI (Int32.ofNat c3), .val .null, vR b182, vI (own_ndf 10 x), vR b193, .unset, .unset, .unset]) rfl q) ?_
                        show OG (T193.setTop (mkF m 446 #[vI p0, vI p1, vI p2, vI p3, vI (p0 &&& (3 : Int32)), vR kd, vI (Int32.ofNat lt), vI (0 : Int32), vI x, vI ((p2 &&& (3 : Int32)) + (1 : Int32)), vI (Int32.ofNat c0), vI (Int32.ofNat c1), vI (Int32.ofNat c2), vI (Int32.ofNat c3), .val .null, vR b182, vI (own_ndf 10 x), vR b193, .unset, .unset, .unset] []))
                        obtain ⟨T195, h195, X195, e195, E195, A195, D195, -, st195⟩ := newO X193 hx hZ hown (wd hw 44 rfl) (wd hw 45 rfl) (wd hw 46 rfl) e193 (g := (mkF m 446 #[vI p0, vI p1, vI p2, vI p3, vI (p0 &&& (3 : Int32)), vR kd, vI (Int32.ofNat lt), vI (0 : Int32), vI x, vI ((p2 &&& (3 : Int32)) + (1 : Int32)), vI (Int32.ofNat c0), vI (Int32.ofNat c1), vI (Int32.ofNat c2), vI (Int32.ofNat c3), .val .null, vR b182, vI (own_ndf 10 x), vR b193, .unset, .unset, .unset] [])) rfl (hb hby at_446) (by decide) (by decide)
                        obtain ⟨b195, g195⟩ : ∃ z, z = h193.size := ⟨_, rfl⟩
                        rw [← g195] at A195 D195 st195
                        have f196 := (Ap.ext E193)
                        have nq197 : b182 ≠ b195 := Nat.ne_of_lt (Nat.lt_of_lt_of_eq (f196).lt g195.symm)
                        have nq198 : b193 ≠ b195 := Nat.ne_of_lt (Nat.lt_of_lt_of_eq (A193).lt g195.symm)
                        have G195 : n0 ≤ b195 := Nat.le_trans Z193 (Nat.le_of_eq g195.symm)
                        have Z195 : n0 ≤ h195.size := Nat.le_trans Z193 E195.1
                        have Fn195_kind : Fld Z h195 b195 "com/example/interleave/interleave/core/Operation" "kind" "Lcom/example/interleave/interleave/core/Operation$Kind;" .null := D195 (Or.inr (wd hw 117 rfl)) (ty := (.object "com/example/interleave/interleave/core/Operation$Kind")) (by decide)
                        have Fn195_transaction : Fld Z h195 b195 "com/example/interleave/interleave/core/Operation" "transaction" "I" (.int (0 : Int32)) := D195 (Or.inr (wd hw 119 rfl)) (ty := .int) (by decide)
                        have Fn195_item : Fld Z h195 b195 "com/example/interleave/interleave/core/Operation" "item" "Ljava/lang/String;" .null := D195 (Or.inr (wd hw 121 rfl)) (ty := (.object "java/lang/String")) (by decide)
                        have y195 : h0.size ≤ b195 := Nat.le_trans (Nat.le_trans (Nat.le_trans (Nat.le_trans (Nat.le_trans (Nat.le_trans (Nat.le_trans (Nat.le_trans (Nat.le_trans (Nat.le_trans (Nat.le_trans (Nat.le_trans (Nat.le_trans (Nat.le_refl _) E182.1) (Nat.le_of_eq W183.size.symm)) (Nat.le_of_eq W184.size.symm)) (Nat.le_of_eq W185.size.symm)) (Nat.le_of_eq W186.size.symm)) (Nat.le_of_eq W187.size.symm)) (Nat.le_of_eq W188.size.symm)) (Nat.le_of_eq W189.size.symm)) (Nat.le_of_eq W190.size.symm)) (Nat.le_of_eq W191.size.symm)) (Nat.le_of_eq W192.size.symm)) E193.1) (Nat.le_of_eq g195.symm)
                        refine own_go st195 ?_
                        show OG (T195.setTop (mkF m 449 _ [(.ref b195)]))
                        refine own_go (fun _ q => XS.dup X195.here hx rfl (hb hby at_449) rfl rfl (XS.aload X195.here hx rfl (hb hby at_450) rfl rfl (XS.iload X195.here hx rfl (hb hby at_452) rfl (XS.aload X195.here hx rfl (hb hby at_454) rfl rfl q)))) ?_
                        show OG (T195.setTop (mkF m 456 _ [.null, (.int x), (.ref kd), (.ref b195), (.ref b195)]))
                        have hx1 : (1 : Int32).toInt ≤ x.toInt := by have e1 : (1 : Int32).toInt = 1 := rfl; omega
                        have f199 := (((((((((((((Od.ext E182).wr W183 G182).wr W184 G182).wr W185 G182).wr W186 G182).wr W187 G182).wr W188 G182).wr W189 G182).wr W190 G182).wr W191 G182).wr W192 G182).ext E193).ext E195)
                        refine own_initW X195 hx hZ rfl hown (wd hw 47 rfl) (wd hw 48 rfl) (wd hw 46 rfl) (wd hw 49 rfl) (by decide) e195 (a := b195) (argsL := [(.ref kd), (.int x), .null]) (rest := [(.ref b195)]) (rm8b l Z a0 hw [] b195 kd x zc h195 n0 Z195 SC hz0 f199 A195 Fn195_kind Fn195_transaction Fn195_item G195 Ek Fk hx1) 1 (by decide) (by decide) (by decide) (by decide) (by rw [hml]; rfl) pd_34 rfl rfl (Nat.le_of_eq rfl) (hb hby at_456) rfl ?_
                        intro v200 T200 L200 X200 hS hZ hown hQ200
                        obtain ⟨rfl, N200q, K200, Eo2, Fk1, Fk2, Fk3⟩ := hQ200
                        have N200 := Fr.app N192 N200q
                        show OG (T200.setTop (mkF m 459 _ [(.ref b195)]))
                        have Z200 : n0 ≤ T200.heap.size := Nat.le_trans Z195 K200.1
                        have hS0 : s.Since T200.vm T200.heap.size := hS
                        refine own_go (fun _ q => XS.astore X200.here hx rfl (hb hby at_459) rfl rfl (l' := #[vI p0, vI p1, vI p2, vI p3, vI (p0 &&& (3 : Int32)), vR kd, vI (Int32.ofNat lt), vI (0 : Int32), vI x, vI ((p2 &&& (3 : Int32)) + (1 : Int32)), vI (Int32.ofNat c0), vI (Int32.ofNat c1), vI (Int32.ofNat c2), vI (Int32.ofNat c3), .val .null, vR b182, vI (own_ndf 10 x), vR b193, vR b195, .unset, .unset]) rfl (XS.aload X200.here hx rfl (hb hby at_461) rfl rfl q)) ?_
                        show OG (T200.setTop (mkF m 463 #[vI p0, vI p1, vI p2, vI p3, vI (p0 &&& (3 : Int32)), vR kd, vI (Int32.ofNat lt), vI (0 : Int32), vI x, vI ((p2 &&& (3 : Int32)) + (1 : Int32)), vI (Int32.ofNat c0), vI (Int32.ofNat c1), vI (Int32.ofNat c2), vI (Int32.ofNat c3), .val .null, vR b182, vI (own_ndf 10 x), vR b193, vR b195, .unset, .unset] [(.ref b195)]))
                        have f202 := ((f196.ext E195).keep K200 (ninS nq197 nin0))
                        have lt201 := f202.lt
                        have f204 := ((A193.ext E195).keep K200 (ninS nq198 nin0))
                        have lt203 := f204.lt
                        have lt205 := Eo2.lt
                        have f206 := (f199.keep K200 (allS G195 all0))
                        refine own_virtual X200 hx hZ hown (wd hw 122 rfl) (wd hw 123 rfl) (wd hw 125 rfl) (wd hw 124 rfl) (wd hw 46 rfl) (wd hw 126 rfl) (by decide) rfl (a := b195) Eo2 (argsL := []) (rest := []) (rm23b l Z a0 hw [] b195 kd x X lt d1 d2 zc T200.heap n0 Z200 SC hz0 f206 Eo2 Fk1 Fk2 Ek Fk Fl hlt D1 B1 D2 B2 hX hX1) 0 (by decide) (by decide) (by decide) (by decide) (by rw [hml]; rfl) pd_32 rfl rfl (Nat.le_of_eq rfl) (hb hby at_463) rfl ?_
                        intro v207 T207 L207 X207 hQ207
                        obtain ⟨nd, S, rfl, N207q, hdg, K207, GS, yS0, J1, J2, rS, GrS, yrS0, J5, J6⟩ := hQ207
                        have N207 := Fr.app N200 N207q
                        show OG (T207.setTop (mkF m 466 _ [(.ref S)]))
                        have Z207 : n0 ≤ T207.heap.size := Nat.le_trans Z200 K207.1
                        have nq208 : b182 ≠ S := fun q => absurd (q ▸ lt201) (Nat.not_lt.mpr yS0)
                        have nq209 : b193 ≠ S := fun q => absurd (q ▸ lt203) (Nat.not_lt.mpr yS0)
                        have nq210 : b195 ≠ S := fun q => absurd (q ▸ lt205) (Nat.not_lt.mpr yS0)
                        have nq211 : b182 ≠ rS := fun q => absurd (q ▸ lt201) (Nat.not_lt.mpr yrS0)
                        have nq212 : b193 ≠ rS := fun q => absurd (q ▸ lt203) (Nat.not_lt.mpr yrS0)
                        have nq213 : b195 ≠ rS := fun q => absurd (q ▸ lt205) (Nat.not_lt.mpr yrS0)
                        have hdg' := hdg
                        obtain ⟨q1, q2, q3, q4⟩ := hdg'
                        have hnd := own_ndeq hX hdg
                        rw [hnd]
                        show OG (T207.setTop (mkF m 466 #[vI p0, vI p1, vI p2, vI p3, vI (p0 &&& (3 : Int32)), vR kd, vI (Int32.ofNat lt), vI (0 : Int32), vI x, vI ((p2 &&& (3 : Int32)) + (1 : Int32)), vI (Int32.ofNat c0), vI (Int32.ofNat c1), vI (Int32.ofNat c2), vI (Int32.ofNat c3), .val .null, vR b182, vI (Int32.ofNat nd), vR b193, vR b195, .unset, .unset] [(.ref S)]))
                        refine own_go (fun _ q => XS.astore X207.here hx rfl (hb hby at_466) rfl rfl (l' := #[vI p0, vI p1, vI p2, vI p3, vI (p0 &&& (3 : Int32)), vR kd, vI (Int32.ofNat lt), vI (0 : Int32), vI x, vI ((p2 &&& (3 : Int32)) + (1 : Int32)), vI (Int32.ofNat c0), vI (Int32.ofNat c1), vI (Int32.ofNat c2), vI (Int32.ofNat c3), .val .null, vR b182, vI (Int32.ofNat nd), vR b193, vR b195, vR S, .unset]) rfl (XS.aload X207.here hx rfl (hb hby at_468) rfl rfl (XS.iconst X207.here hx rfl (hb hby at_470) (XS.iload X207.here hx rfl (hb hby at_471) rfl q)))) ?_
                        show OG (T207.setTop (mkF m 473 #[vI p0, vI p1, vI p2, vI p3, vI (p0 &&& (3 : Int32)), vR kd, vI (Int32.ofNat lt), vI (0 : Int32), vI x, vI ((p2 &&& (3 : Int32)) + (1 : Int32)), vI (Int32.ofNat c0), vI (Int32.ofNat c1), vI (Int32.ofNat c2), vI (Int32.ofNat c3), .val .null, vR b182, vI (Int32.ofNat nd), vR b193, vR b195, vR S, .unset] [(.int (Int32.ofNat lt)), (.int (0 : Int32)), (.ref b193)]))
                        have f215 := (f204.keep K207 nin0)
                        refine own_cstore (i := 0) (v := lt) X207 hx hZ rfl f215 hlt rfl rfl (by decide) (hb hby at_473) rfl ?_
                        intro T214 h214 X214 e214 W214 A214
                        have N214 := Fr.snoc X214 N207 G193
                        have Z214 : n0 ≤ h214.size := by rw [W214.size]; exact Z207
                        show OG (T214.setTop (mkF m 474 _ []))
                        refine own_go (fun _ q => XS.aload X214.here hx rfl (hb hby at_474) rfl rfl (XS.iload X214.here hx rfl (hb hby at_476) rfl (XS.iload X214.here hx rfl (hb hby at_478) rfl (XS.aload X214.here hx rfl (hb hby at_480) rfl rfl (XS.iconst X214.here hx rfl (hb hby at_482) q))))) ?_
                        show OG (T214.setTop (mkF m 483 _ [(.int (0 : Int32)), (.ref b182), (.int (Int32.ofNat nd)), (.int x), (.ref b193)]))
                        have f216 := ((f202.keep K207 nin0).other W214 nq194)
                        refine own_static X214 hx hZ hown (wd hw 264 rfl) (wd hw 265 rfl) (wd hw 6 rfl) (wd hw 266 rfl) (by decide) e214 (argsL := [(.ref b193), (.int x), (.int (Int32.ofNat nd)), (.ref b182), (.int (0 : Int32))]) (rest := []) (rm51 l Z a0 hw [] b193 x X nd b182 0 _ Fp h214 n0 Z214 A214 G193 f216 hP hX q2 (by decide)) 0 (by decide) (by decide) (by decide) (by decide) (by rw [hml]; rfl) pd_35 rfl rfl (Nat.le_of_eq rfl) (hb hby at_483) rfl ?_
                        intro v217 T217 L217 X217 hQ217
                        obtain ⟨rfl, N217q, K217, A217⟩ := hQ217
                        have N217 := Fr.app N214 N217q
                        show OG (T217.setTop (mkF m 486 _ []))
                        have Z217 : n0 ≤ T217.heap.size := Nat.le_trans Z214 K217.1
                        refine own_go (fun _ q => XS.aload X217.here hx rfl (hb hby at_486) rfl rfl (XS.iload X217.here hx rfl (hb hby at_488) rfl (XS.iload X217.here hx rfl (hb hby at_490) rfl (XS.aload X217.here hx rfl (hb hby at_492) rfl rfl (XS.iconst X217.here hx rfl (hb hby at_494) q))))) ?_
                        show OG (T217.setTop (mkF m 495 #[vI p0, vI p1, vI p2, vI p3, vI (p0 &&& (3 : Int32)), vR kd, vI (Int32.ofNat lt), vI (0 : Int32), vI x, vI ((p2 &&& (3 : Int32)) + (1 : Int32)), vI (Int32.ofNat c0), vI (Int32.ofNat c1), vI (Int32.ofNat c2), vI (Int32.ofNat c3), .val .null, vR b182, vI (Int32.ofNat nd), vR b193, vR b195, vR S, .unset] [(.int (1 : Int32)), (.ref b182), (.int (Int32.ofNat nd)), (.int x), (.ref b193)]))
                        have f218 := (f216.keep K217 (ninS nq194 nin0))
                        refine own_static X217 hx hZ hown (wd hw 264 rfl) (wd hw 265 rfl) (wd hw 6 rfl) (wd hw 266 rfl) (by decide) rfl (argsL := [(.ref b193), (.int x), (.int (Int32.ofNat nd)), (.ref b182), (.int (1 : Int32))]) (rest := []) (rm51 l Z a0 hw [] b193 x X nd b182 1 _ Fp T217.heap n0 Z217 A217 G193 f218 hP hX q2 (by decide)) 0 (by decide) (by decide) (by decide) (by decide) (by rw [hml]; rfl) pd_35 rfl rfl (Nat.le_of_eq rfl) (hb hby at_495) rfl ?_
                        intro v219 T219 L219 X219 hQ219
                        obtain ⟨rfl, N219q, K219, A219⟩ := hQ219
                        have N219 := Fr.app N217 N219q
                        show OG (T219.setTop (mkF m 498 _ []))
                        have Z219 : n0 ≤ T219.heap.size := Nat.le_trans Z217 K219.1
                        refine own_go (fun _ q => XS.aload X219.here hx rfl (hb hby at_498) rfl rfl (XS.iload X219.here hx rfl (hb hby at_500) rfl (XS.iload X219.here hx rfl (hb hby at_502) rfl (XS.aload X219.here hx rfl (hb hby at_504) rfl rfl (XS.iconst X219.here hx rfl (hb hby at_506) q))))) ?_
                        show OG (T219.setTop (mkF m 507 _ [(.int (2 : Int32)), (.ref b182), (.int (Int32.ofNat nd)), (.int x), (.ref b193)]))
                        have f220 := (f218.keep K219 (ninS nq194 nin0))
                        refine own_static X219 hx hZ hown (wd hw 264 rfl) (wd hw 265 rfl) (wd hw 6 rfl) (wd hw 266 rfl) (by decide) rfl (argsL := [(.ref b193), (.int x), (.int (Int32.ofNat nd)), (.ref b182), (.int (2 : Int32))]) (rest := []) (rm51 l Z a0 hw [] b193 x X nd b182 2 _ Fp T219.heap n0 Z219 A219 G193 f220 hP hX q2 (by decide)) 0 (by decide) (by decide) (by decide) (by decide) (by rw [hml]; rfl) pd_35 rfl rfl (Nat.le_of_eq rfl) (hb hby at_507) rfl ?_
                        intro v221 T221 L221 X221 hQ221
                        obtain ⟨rfl, N221q, K221, A221⟩ := hQ221
                        have N221 := Fr.app N219 N221q
                        show OG (T221.setTop (mkF m 510 _ []))
                        have Z221 : n0 ≤ T221.heap.size := Nat.le_trans Z219 K221.1
                        refine own_go (fun _ q => XS.aload X221.here hx rfl (hb hby at_510) rfl rfl (XS.iload X221.here hx rfl (hb hby at_512) rfl (XS.iload X221.here hx rfl (hb hby at_514) rfl (XS.aload X221.here hx rfl (hb hby at_516) rfl rfl (XS.iconst X221.here hx rfl (hb hby at_518) q))))) ?_
                        show OG (T221.setTop (mkF m 519 #[vI p0, vI p1, vI p2, vI p3, vI (p0 &&& (3 : Int32)), vR kd, vI (Int32.ofNat lt), vI (0 : Int32), vI x, vI ((p2 &&& (3 : Int32)) + (1 : Int32)), vI (Int32.ofNat c0), vI (Int32.ofNat c1), vI (Int32.ofNat c2), vI (Int32.ofNat c3), .val .null, vR b182, vI (Int32.ofNat nd), vR b193, vR b195, vR S, .unset] [(.int (3 : Int32)), (.ref b182), (.int (Int32.ofNat nd)), (.int x), (.ref b193)]))
                        have f222 := (f220.keep K221 (ninS nq194 nin0))
                        refine own_static X221 hx hZ hown (wd hw 264 rfl) (wd hw 265 rfl) (wd hw 6 rfl) (wd hw 266 rfl) (by decide) rfl (argsL := [(.ref b193), (.int x), (.int (Int32.ofNat nd)), (.ref b182), (.int (3 : Int32))]) (rest := []) (rm51 l Z a0 hw [] b193 x X nd b182 3 _ Fp T221.heap n0 Z221 A221 G193 f222 hP hX q2 (by decide)) 0 (by decide) (by decide) (by decide) (by decide) (by rw [hml]; rfl) pd_35 rfl rfl (Nat.le_of_eq rfl) (hb hby at_519) rfl ?_
                        intro v223 T223 L223 X223 hQ223
                        obtain ⟨rfl, N223q, K223, A223⟩ := hQ223
                        have N223 := Fr.app N221 N223q
                        show OG (T223.setTop (mkF m 522 _ []))
                        have Z223 : n0 ≤ T223.heap.size := Nat.le_trans Z221 K223.1
                        refine own_go (fun _ q => XS.aload X223.here hx rfl (hb hby at_522) rfl rfl (XS.iload X223.here hx rfl (hb hby at_524) rfl (XS.iload X223.here hx rfl (hb hby at_526) rfl (XS.aload X223.here hx rfl (hb hby at_528) rfl rfl (XS.iconst X223.here hx rfl (hb hby at_530) q))))) ?_
                        show OG (T223.setTop (mkF m 531 _ [(.int (4 : Int32)), (.ref b182), (.int (Int32.ofNat nd)), (.int x), (.ref b193)]))
                        have f224 := (f222.keep K223 (ninS nq194 nin0))
                        refine own_static X223 hx hZ hown (wd hw 264 rfl) (wd hw 265 rfl) (wd hw 6 rfl) (wd hw 266 rfl) (by decide) rfl (argsL := [(.ref b193), (.int x), (.int (Int32.ofNat nd)), (.ref b182), (.int (4 : Int32))]) (rest := []) (rm51 l Z a0 hw [] b193 x X nd b182 4 _ Fp T223.heap n0 Z223 A223 G193 f224 hP hX q2 (by decide)) 0 (by decide) (by decide) (by decide) (by decide) (by rw [hml]; rfl) pd_35 rfl rfl (Nat.le_of_eq rfl) (hb hby at_531) rfl ?_
                        intro v225 T225 L225 X225 hQ225
                        obtain ⟨rfl, N225q, K225, A225⟩ := hQ225
                        have N225 := Fr.app N223 N225q
                        show OG (T225.setTop (mkF m 534 _ []))
                        have Z225 : n0 ≤ T225.heap.size := Nat.le_trans Z223 K225.1
                        refine own_go (fun _ q => XS.aload X225.here hx rfl (hb hby at_534) rfl rfl (XS.iload X225.here hx rfl (hb hby at_536) rfl (XS.iload X225.here hx rfl (hb hby at_538) rfl (XS.aload X225.here hx rfl (hb hby at_540) rfl rfl (XS.iconst X225.here hx rfl (hb hby at_542) q))))) ?_
                        show OG (T225.setTop (mkF m 543 #[vI p0, vI p1, vI p2, vI p3, vI (p0 &&& (3 : Int32)), vR kd, vI (Int32.ofNat lt), vI (0 : Int32), vI x, vI ((p2 &&& (3 : Int32)) + (1 : Int32)), vI (Int32.ofNat c0), vI (Int32.ofNat c1), vI (Int32.ofNat c2), vI (Int32.ofNat c3), .val .null, vR b182, vI (Int32.ofNat nd), vR b193, vR b195, vR S, .unset] [(.int (5 : Int32)), (.ref b182), (.int (Int32.ofNat nd)), (.int x), (.ref b193)]))
                        have f226 := (f224.keep K225 (ninS nq194 nin0))
                        refine own_static X225 hx hZ hown (wd hw 264 rfl) (wd hw 265 rfl) (wd hw 6 rfl) (wd hw 266 rfl) (by decide) rfl (argsL := [(.ref b193), (.int x), (.int (Int32.ofNat nd)), (.ref b182), (.int (5 : Int32))]) (rest := []) (rm51 l Z a0 hw [] b193 x X nd b182 5 _ Fp T225.heap n0 Z225 A225 G193 f226 hP hX q2 (by decide)) 0 (by decide) (by decide) (by decide) (by decide) (by rw [hml]; rfl) pd_35 rfl rfl (Nat.le_of_eq rfl) (hb hby at_543) rfl ?_
                        intro v227 T227 L227 X227 hQ227
                        obtain ⟨rfl, N227q, K227, A227⟩ := hQ227
                        have N227 := Fr.app N225 N227q
                        show OG (T227.setTop (mkF m 546 _ []))
                        have Z227 : n0 ≤ T227.heap.size := Nat.le_trans Z225 K227.1
                        refine own_go (fun _ q => XS.aload X227.here hx rfl (hb hby at_546) rfl rfl (XS.iload X227.here hx rfl (hb hby at_548) rfl (XS.iload X227.here hx rfl (hb hby at_550) rfl (XS.aload X227.here hx rfl (hb hby at_552) rfl rfl (XS.bipush X227.here hx rfl (hb hby at_554) q))))) ?_
                        show OG (T227.setTop (mkF m 556 _ [(.int (6 : Int32)), (.ref b182), (.int (Int32.ofNat nd)), (.int x), (.ref b193)]))
                        have f228 := (f226.keep K227 (ninS nq194 nin0))
                        refine own_static X227 hx hZ hown (wd hw 264 rfl) (wd hw 265 rfl) (wd hw 6 rfl) (wd hw 266 rfl) (by decide) rfl (argsL := [(.ref b193), (.int x), (.int (Int32.ofNat nd)), (.ref b182), (.int (6 : Int32))]) (rest := []) (rm51 l Z a0 hw [] b193 x X nd b182 6 _ Fp T227.heap n0 Z227 A227 G193 f228 hP hX q2 (by decide)) 0 (by decide) (by decide) (by decide) (by decide) (by rw [hml]; rfl) pd_35 rfl rfl (Nat.le_of_eq rfl) (hb hby at_556) rfl ?_
                        intro v229 T229 L229 X229 hQ229
                        obtain ⟨rfl, N229q, K229, A229⟩ := hQ229
                        have N229 := Fr.app N227 N229q
                        show OG (T229.setTop (mkF m 559 _ []))
                        have Z229 : n0 ≤ T229.heap.size := Nat.le_trans Z227 K229.1
                        refine own_go (fun _ q => XS.aload X229.here hx rfl (hb hby at_559) rfl rfl (XS.iload X229.here hx rfl (hb hby at_561) rfl (XS.iload X229.here hx rfl (hb hby at_563) rfl (XS.aload X229.here hx rfl (hb hby at_565) rfl rfl (XS.bipush X229.here hx rfl (hb hby at_567) q))))) ?_
                        show OG (T229.setTop (mkF m 569 #[vI p0, vI p1, vI p2, vI p3, vI (p0 &&& (3 : Int32)), vR kd, vI (Int32.ofNat lt), vI (0 : Int32), vI x, vI ((p2 &&& (3 : Int32)) + (1 : Int32)), vI (Int32.ofNat c0), vI (Int32.ofNat c1), vI (Int32.ofNat c2), vI (Int32.ofNat c3), .val .null, vR b182, vI (Int32.ofNat nd), vR b193, vR b195, vR S, .unset] [(.int (7 : Int32)), (.ref b182), (.int (Int32.ofNat nd)), (.int x), (.ref b193)]))
                        have f230 := (f228.keep K229 (ninS nq194 nin0))
                        refine own_static X229 hx hZ hown (wd hw 264 rfl) (wd hw 265 rfl) (wd hw 6 rfl) (wd hw 266 rfl) (by decide) rfl (argsL := [(.ref b193), (.int x), (.int (Int32.ofNat nd)), (.ref b182), (.int (7 : Int32))]) (rest := []) (rm51 l Z a0 hw [] b193 x X nd b182 7 _ Fp T229.heap n0 Z229 A229 G193 f230 hP hX q2 (by decide)) 0 (by decide) (by decide) (by decide) (by decide) (by rw [hml]; rfl) pd_35 rfl rfl (Nat.le_of_eq rfl) (hb hby at_569) rfl ?_
                        intro v231 T231 L231 X231 hQ231
                        obtain ⟨rfl, N231q, K231, A231⟩ := hQ231
                        have N231 := Fr.app N229 N231q
                        show OG (T231.setTop (mkF m 572 _ []))
                        have Z231 : n0 ≤ T231.heap.size := Nat.le_trans Z229 K231.1
                        refine own_go (fun _ q => XS.aload X231.here hx rfl (hb hby at_572) rfl rfl (XS.iload X231.here hx rfl (hb hby at_574) rfl (XS.iload X231.here hx rfl (hb hby at_576) rfl (XS.aload X231.here hx rfl (hb hby at_578) rfl rfl (XS.bipush X231.here hx rfl (hb hby at_580) q))))) ?_
                        show OG (T231.setTop (mkF m 582 _ [(.int (8 : Int32)), (.ref b182), (.int (Int32.ofNat nd)), (.int x), (.ref b193)]))
                        have f232 := (f230.keep K231 (ninS nq194 nin0))
                        refine own_static X231 hx hZ hown (wd hw 264 rfl) (wd hw 265 rfl) (wd hw 6 rfl) (wd hw 266 rfl) (by decide) rfl (argsL := [(.ref b193), (.int x), (.int (Int32.ofNat nd)), (.ref b182), (.int (8 : Int32))]) (rest := []) (rm51 l Z a0 hw [] b193 x X nd b182 8 _ Fp T231.heap n0 Z231 A231 G193 f232 hP hX q2 (by decide)) 0 (by decide) (by decide) (by decide) (by decide) (by rw [hml]; rfl) pd_35 rfl rfl (Nat.le_of_eq rfl) (hb hby at_582) rfl ?_
                        intro v233 T233 L233 X233 hQ233
                        obtain ⟨rfl, N233q, K233, A233⟩ := hQ233
                        have N233 := Fr.app N231 N233q
                        show OG (T233.setTop (mkF m 585 _ []))
                        have Z233 : n0 ≤ T233.heap.size := Nat.le_trans Z231 K233.1
                        refine own_go (fun _ q => XS.aload X233.here hx rfl (hb hby at_585) rfl rfl (XS.iload X233.here hx rfl (hb hby at_587) rfl (XS.iload X233.here hx rfl (hb hby at_589) rfl (XS.aload X233.here hx rfl (hb hby at_591) rfl rfl (XS.bipush X233.here hx rfl (hb hby at_593) q))))) ?_
                        show OG (T233.setTop (mkF m 595 #[vI p0, vI p1, vI p2, vI p3, vI (p0 &&& (3 : Int32)), vR kd, vI (Int32.ofNat lt), vI (0 : Int32), vI x, vI ((p2 &&& (3 : Int32)) + (1 : Int32)), vI (Int32.ofNat c0), vI (Int32.ofNat c1), vI (Int32.ofNat c2), vI (Int32.ofNat c3), .val .null, vR b182, vI (Int32.ofNat nd), vR b193, vR b195, vR S, .unset] [(.int (9 : Int32)), (.ref b182), (.int (Int32.ofNat nd)), (.int x), (.ref b193)]))
                        have f234 := (f232.keep K233 (ninS nq194 nin0))
                        refine own_static X233 hx hZ hown (wd hw 264 rfl) (wd hw 265 rfl) (wd hw 6 rfl) (wd hw 266 rfl) (by decide) rfl (argsL := [(.ref b193), (.int x), (.int (Int32.ofNat nd)), (.ref b182), (.int (9 : Int32))]) (rest := []) (rm51 l Z a0 hw [] b193 x X nd b182 9 _ Fp T233.heap n0 Z233 A233 G193 f234 hP hX q2 (by decide)) 0 (by decide) (by decide) (by decide) (by decide) (by rw [hml]; rfl) pd_35 rfl rfl (Nat.le_of_eq rfl) (hb hby at_595) rfl ?_
                        intro v235 T235 L235 X235 hQ235
                        obtain ⟨rfl, N235q, K235, A235⟩ := hQ235
                        have N235 := Fr.app N233 N235q
                        show OG (T235.setTop (mkF m 598 _ []))
                        have Z235 : n0 ≤ T235.heap.size := Nat.le_trans Z233 K235.1
                        refine own_go (fun _ q => XS.iconst X235.here hx rfl (hb hby at_598) (XS.iload X235.here hx rfl (hb hby at_599) rfl (XS.iadd X235.here hx rfl (hb hby at_601) rfl q))) ?_
                        show OG (T235.setTop (mkF m 602 _ [(.int ((1 : Int32) + (Int32.ofNat nd)))]))
                        rw [own_1nd]
                        show OG (T235.setTop (mkF m 602 #[vI p0, vI p1, vI p2, vI p3, vI (p0 &&& (3 : Int32)), vR kd, vI (Int32.ofNat lt), vI (0 : Int32), vI x, vI ((p2 &&& (3 : Int32)) + (1 : Int32)), vI (Int32.ofNat c0), vI (Int32.ofNat c1), vI (Int32.ofNat c2), vI (Int32.ofNat c3), .val .null, vR b182, vI (Int32.ofNat nd), vR b193, vR b195, vR S, .unset] [(.int (Int32.ofNat (1 + nd)))]))
                        refine own_go (fun _ q => XS.istore X235.here hx rfl (hb hby at_602) rfl (l' := #[vI p0, vI p1, vI p2, vI p3, vI (p0 &&& (3 : Int32)), vR kd, vI (Int32.ofNat lt), vI (0 : Int32), vI x, vI ((p2 &&& (3 : Int32)) + (1 : Int32)), vI (Int32.ofNat c0), vI (Int32.ofNat c1), vI (Int32.ofNat c2), vI (Int32.ofNat c3), .val .null, vR b182, vI (Int32.ofNat nd), vR b193, vR b195, vR S, vI (Int32.ofNat (1 + nd))]) rfl (XS.iload X235.here hx rfl (hb hby at_604) rfl q)) ?_
                        show OG (T235.setTop (mkF m 606 #[vI p0, vI p1, vI p2, vI p3, vI (p0 &&& (3 : Int32)), vR kd, vI (Int32.ofNat lt), vI (0 : Int32), vI x, vI ((p2 &&& (3 : Int32)) + (1 : Int32)), vI (Int32.ofNat c0), vI (Int32.ofNat c1), vI (Int32.ofNat c2), vI (Int32.ofNat c3), .val .null, vR b182, vI (Int32.ofNat nd), vR b193, vR b195, vR S, vI (Int32.ofNat (1 + nd))] [(.int (0 : Int32))]))
                        refine own_go (fun _ q => XS.ifYes X235.here hx rfl (pc0 := 606) (pc' := 691) rfl (hb hby at_606) rfl ((if0 _ _).trans (teq (by decide : (0 : Int32) = (0 : Int32))).1) (by decide) (by decide) q) ?_
                        show OG (T235.setTop (mkF m 691 #[vI p0, vI p1, vI p2, vI p3, vI (p0 &&& (3 : Int32)), vR kd, vI (Int32.ofNat lt), vI (0 : Int32), vI x, vI ((p2 &&& (3 : Int32)) + (1 : Int32)), vI (Int32.ofNat c0), vI (Int32.ofNat c1), vI (Int32.ofNat c2), vI (Int32.ofNat c3), .val .null, vR b182, vI (Int32.ofNat nd), vR b193, vR b195, vR S, vI (Int32.ofNat (1 + nd))] []))
                        have Ag : own_By Z T235.heap b193 .char 17 (own_txt lt nd X none) := A235.weak (own_puts q2)
                        show OG (T235.setTop (mkF m 691 #[vI p0, vI p1, vI p2, vI p3, vI (p0 &&& (3 : Int32)), vR kd, vI (Int32.ofNat lt), vI (0 : Int32), vI x, vI ((p2 &&& (3 : Int32)) + (1 : Int32)), vI (Int32.ofNat c0), vI (Int32.ofNat c1), vI (Int32.ofNat c2), vI (Int32.ofNat c3), .val .null, vR b182, vI (Int32.ofNat nd), vR b193, vR b195, vR S, vI (Int32.ofNat (1 + nd))] []))
                        have f236 := ((((((((((((f206.keep K207 all0).wr W214 G193).keep K217 (allS G193 all0)).keep K219 (allS G193 all0)).keep K221 (allS G193 all0)).keep K223 (allS G193 all0)).keep K225 (allS G193 all0)).keep K227 (allS G193 all0)).keep K229 (allS G193 all0)).keep K231 (allS G193 all0)).keep K233 (allS G193 all0)).keep K235 (allS G193 all0))
                        have f237 := (((((((((((J1.wr W214).keep K217).keep K219).keep K221).keep K223).keep K225).keep K227).keep K229).keep K231).keep K233).keep K235)
                        have f238 := (((((((((((J2.other W214 (Or.inl (Ne.symm nq209))).keep K217 (ninS (Ne.symm nq209) nin0)).keep K219 (ninS (Ne.symm nq209) nin0)).keep K221 (ninS (Ne.symm nq209) nin0)).keep K223 (ninS (Ne.symm nq209) nin0)).keep K225 (ninS (Ne.symm nq209) nin0)).keep K227 (ninS (Ne.symm nq209) nin0)).keep K229 (ninS (Ne.symm nq209) nin0)).keep K231 (ninS (Ne.symm nq209) nin0)).keep K233 (ninS (Ne.symm nq209) nin0)).keep K235 (ninS (Ne.symm nq209) nin0))
                        have f239 := (((((((((((J5.other W214 (Or.inl (Ne.symm nq209))).keep K217 (ninS (Ne.symm nq209) nin0)).keep K219 (ninS (Ne.symm nq209) nin0)).keep K221 (ninS (Ne.symm nq209) nin0)).keep K223 (ninS (Ne.symm nq209) nin0)).keep K225 (ninS (Ne.symm nq209) nin0)).keep K227 (ninS (Ne.symm nq209) nin0)).keep K229 (ninS (Ne.symm nq209) nin0)).keep K231 (ninS (Ne.symm nq209) nin0)).keep K233 (ninS (Ne.symm nq209) nin0)).keep K235 (ninS (Ne.symm nq209) nin0))
                        have f240 := (((((((((((J6.other W214 (Ne.symm nq212)).keep K217 (ninS (Ne.symm nq212) nin0)).keep K219 (ninS (Ne.symm nq212) nin0)).keep K221 (ninS (Ne.symm nq212) nin0)).keep K223 (ninS (Ne.symm nq212) nin0)).keep K225 (ninS (Ne.symm nq212) nin0)).keep K227 (ninS (Ne.symm nq212) nin0)).keep K229 (ninS (Ne.symm nq212) nin0)).keep K231 (ninS (Ne.symm nq212) nin0)).keep K233 (ninS (Ne.symm nq212) nin0)).keep K235 (ninS (Ne.symm nq212) nin0))
                        exact t691 _ _ S rS b193 (1 + nd) (own_txt lt nd X none) _ _ _ _ _ _ _ _ _ _ _ _ _ _ _ _ _ _ _ _ _ (X235.more (by decide) (by decide)) hS0 hZ hown rfl N235 Z235 (Nat.le_trans (Nat.le_trans (Nat.le_trans (Nat.le_trans (Nat.le_trans (Nat.le_trans (Nat.le_trans (Nat.le_trans (Nat.le_trans (Nat.le_trans (Nat.le_trans (Nat.le_trans (Nat.le_refl _) K207.1) (Nat.le_of_eq W214.size.symm)) K217.1) K219.1) K221.1) K223.1) K225.1) K227.1) K229.1) K231.1) K233.1) K235.1) f236 f237 f238 f239 f240 Ag (by omega) (own_txtE0 hlt)
                      · show OG (T192.setTop (mkF m 433 #[vI p0, vI p1, vI p2, vI p3, vI (p0 &&& (3 : Int32)), vR kd, vI (Int32.ofNat lt), vI (0 : Int32), vI x, vI ((p2 &&& (3 : Int32)) + (1 : Int32)), vI (Int32.ofNat c0), vI (Int32.ofNat c1), vI (Int32.ofNat c2), vI (Int32.ofNat c3), .val .null, vR b182, vI (own_ndf 9 x), .unset, .unset, .unset, .unset] [(.int (1000000000 : Int32)), (.int x)]))
                        by_cases hn9 : x < (1000000000 : Int32)
                        · refine own_go (fun _ q => XS.icmpYes X192.here hx rfl (pc0 := 433) (pc' := 440) rfl (hb hby at_433) rfl (tlt hn9).1 (by decide) (by decide) q) ?_
                          show OG (T192.setTop (mkF m 440 #[vI p0, vI p1, vI p2, vI p3, vI (p0 &&& (3 : Int32)), vR kd, vI (Int32.ofNat lt), vI (0 : Int32), vI x, vI ((p2 &&& (3 : Int32)) + (1 : Int32)), vI (Int32.ofNat c0), vI (Int32.ofNat c1), vI (Int32.ofNat c2), vI (Int32.ofNat c3), .val .null, vR b182, vI (own_ndf 9 x), .unset, .unset, .unset, .unset] []))
                          exact own_cast (by rw [own_ndfY9 hn9]) tl9
                        · refine own_go (fun _ q => XS.icmpNo X192.here hx rfl (hb hby at_433) rfl (flt hn9).1 q) ?_
                          show OG (T192.setTop (mkF m 436 #[vI p0, vI p1, vI p2, vI p3, vI (p0 &&& (3 : Int32)), vR kd, vI (Int32.ofNat lt), vI (0 : Int32), vI x, vI ((p2 &&& (3 : Int32)) + (1 : Int32)), vI (Int32.ofNat c0), vI (Int32.ofNat c1), vI (Int32.ofNat c2), vI (Int32.ofNat c3), .val .null, vR b182, vI (own_ndf 9 x), .unset, .unset, .unset, .unset] []))
                          refine own_go (fun _ q => XS.bipush X192.here hx rfl (hb hby at_436) (XS.istore X192.here hx rfl (hb hby at_438) rfl (l' := #[vI p0, vI p1, vI p2, vI p3, vI (p0 &&& (3 : Int32)), vR kd, vI (Int32.ofNat lt), vI (0 : Int32), vI x, vI ((p2 &&& (3 : Int32)) + (1 : Int32)), vI (Int32.ofNat c0), vI (Int32.ofNat c1), vI (Int32.ofNat c2), vI (Int32.ofNat c3), .val .null, vR b182, vI (10 : Int32), .unset, .unset, .unset, .unset]) rfl q)) ?_
                          show OG (T192.setTop (mkF m 440 #[vI p0, vI p1, vI p2, vI p3, vI (p0 &&& (3 : Int32)), vR kd, vI (Int32.ofNat lt), vI (0 : Int32), vI x, vI ((p2 &&& (3 : Int32)) + (1 : Int32)), vI (Int32.ofNat c0), vI (Int32.ofNat c1), vI (Int32.ofNat c2), vI (Int32.ofNat c3), .val .null, vR b182, vI (10 : Int32), .unset, .unset, .unset, .unset] []))
                          exact own_cast (by rw [own_ndfN9 hn9]) tl9
                    · show OG (T192.setTop (mkF m 422 #[vI p0, vI p1, vI p2, vI p3, vI (p0 &&& (3 : Int32)), vR kd, vI (Int32.ofNat lt), vI (0 : Int32), vI x, vI ((p2 &&& (3 : Int32)) + (1 : Int32)), vI (Int32.ofNat c0), vI (Int32.ofNat c1), vI (Int32.ofNat c2), vI (Int32.ofNat c3), .val .null, vR b182, vI (own_ndf 8 x), .unset, .unset, .unset, .unset] [(.int (100000000 : Int32)), (.int x)]))
                      by_cases hn8 : x < (100000000 : Int32)
                      · refine own_go (fun _ q => XS.icmpYes X192.here hx rfl (pc0 := 422) (pc' := 429) rfl (hb hby at_422) rfl (tlt hn8).1 (by decide) (by decide) q) ?_
                        show OG (T192.setTop (mkF m 429 #[vI p0, vI p1, vI p2, vI p3, vI (p0 &&& (3 : Int32)), vR kd, vI (Int32.ofNat lt), vI (0 : Int32), vI x, vI ((p2 &&& (3 : Int32)) + (1 : Int32)), vI (Int32.ofNat c0), vI (Int32.ofNat c1), vI (Int32.ofNat c2), vI (Int32.ofNat c3), .val .null, vR b182, vI (own_ndf 8 x), .unset, .unset, .unset, .unset] []))
                        exact own_cast (by rw [own_ndfY8 hn8]) tl8
                      · refine own_go (fun _ q => XS.icmpNo X192.here hx rfl (hb hby at_422) rfl (flt hn8).1 q) ?_
                        show OG (T192.setTop (mkF m 425 #[vI p0, vI p1, vI p2, vI p3, vI (p0 &&& (3 : Int32)), vR kd, vI (Int32.ofNat lt), vI (0 : Int32), vI x, vI ((p2 &&& (3 : Int32)) + (1 : Int32)), vI (Int32.ofNat c0), vI (Int32.ofNat c1), vI (Int32.ofNat c2), vI (Int32.ofNat c3), .val .null, vR b182, vI (own_ndf 8 x), .unset, .unset, .unset, .unset] []))
                        refine own_go (fun _ q => XS.bipush X192.here hx rfl (hb hby at_425) (XS.istore X192.here hx rfl (hb hby at_427) rfl (l' := #[vI p0, vI p1, vI p2, vI p3, vI (p0 &&& (3 : Int32)), vR kd, vI (Int32.ofNat lt), vI (0 : Int32), vI x, vI ((p2 &&& (3 : Int32)) + (1 : Int32)), vI (Int32.ofNat c0), vI (Int32.ofNat c1), vI (Int32.ofNat c2), vI (Int32.ofNat c3), .val .null, vR b182, vI (9 : Int32), .unset, .unset, .unset, .unset]) rfl q)) ?_
                        show OG (T192.setTop (mkF m 429 #[vI p0, vI p1, vI p2, vI p3, vI (p0 &&& (3 : Int32)), vR kd, vI (Int32.ofNat lt), vI (0 : Int32), vI x, vI ((p2 &&& (3 : Int32)) + (1 : Int32)), vI (Int32.ofNat c0), vI (Int32.ofNat c1), vI (Int32.ofNat c2), vI (Int32.ofNat c3), .val .null, vR b182, vI (9 : Int32), .unset, .unset, .unset, .unset] []))
                        exact own_cast (by rw [own_ndfN8 hn8]) tl8
                  · show OG (T192.setTop (mkF m 411 #[vI p0, vI p1, vI p2, vI p3, vI (p0 &&& (3 : Int32)), vR kd, vI (Int32.ofNat lt), vI (0 : Int32), vI x, vI ((p2 &&& (3 : Int32)) + (1 : Int32)), vI (Int32.ofNat c0), vI (Int32.ofNat c1), vI (Int32.ofNat c2), vI (Int32.ofNat c3), .val .null, vR b182, vI (own_ndf 7 x), .unset, .unset, .unset, .unset] [(.int (10000000 : Int32)), (.int x)]))
                    by_cases hn7 : x < (10000000 : Int32)
                    · refine own_go (fun _ q => XS.icmpYes X192.here hx rfl (pc0 := 411) (pc' := 418) rfl (hb hby at_411) rfl (tlt hn7).1 (by decide) (by decide) q) ?_
                      show OG (T192.setTop (mkF m 418 #[vI p0, vI p1, vI p2, vI p3, vI (p0 &&& (3 : Int32)), vR kd, vI (Int32.ofNat lt), vI (0 : Int32), vI x, vI ((p2 &&& (3 : Int32)) + (1 : Int32)), vI (Int32.ofNat c0), vI (Int32.ofNat c1), vI (Int32.ofNat c2), vI (Int32.ofNat c3), .val .null, vR b182, vI (own_ndf 7 x), .unset, .unset, .unset, .unset] []))
                      exact own_cast (by rw [own_ndfY7 hn7]) tl7
                    · refine own_go (fun _ q => XS.icmpNo X192.here hx rfl (hb hby at_411) rfl (flt hn7).1 q) ?_
                      show OG (T192.setTop (mkF m 414 #[vI p0, vI p1, vI p2, vI p3, vI (p0 &&& (3 : Int32)), vR kd, vI (Int32.ofNat lt), vI (0 : Int32), vI x, vI ((p2 &&& (3 : Int32)) + (1 : Int32)), vI (Int32.ofNat c0), vI (Int32.ofNat c1), vI (Int32.ofNat c2), vI (Int32.ofNat c3), .val .null, vR b182, vI (own_ndf 7 x), .unset, .unset, .unset, .unset] []))
                      refine own_go (fun _ q => XS.bipush X192.here hx rfl (hb hby at_414) (XS.istore X192.here hx rfl (hb hby at_416) rfl (l' := #[vI p0, vI p1, vI p2, vI p3, vI (p0 &&& (3 : Int32)), vR kd, vI (Int32.ofNat lt), vI (0 : Int32), vI x, vI ((p2 &&& (3 : Int32)) + (1 : Int32)), vI (Int32.ofNat c0), vI (Int32.ofNat c1), vI (Int32.ofNat c2), vI (Int32.ofNat c3), .val .null, vR b182, vI (8 : Int32), .unset, .unset, .unset, .unset]) rfl q)) ?_
                      show OG (T192.setTop (mkF m 418 #[vI p0, vI p1, vI p2, vI p3, vI (p0 &&& (3 : Int32)), vR kd, vI (Int32.ofNat lt), vI (0 : Int32), vI x, vI ((p2 &&& (3 : Int32)) + (1 : Int32)), vI (Int32.ofNat c0), vI (Int32.ofNat c1), vI (Int32.ofNat c2), vI (Int32.ofNat c3), .val .null, vR b182, vI (8 : Int32), .unset, .unset, .unset, .unset] []))
                      exact own_cast (by rw [own_ndfN7 hn7]) tl7
                · show OG (T192.setTop (mkF m 400 #[vI p0, vI p1, vI p2, vI p3, vI (p0 &&& (3 : Int32)), vR kd, vI (Int32.ofNat lt), vI (0 : Int32), vI x, vI ((p2 &&& (3 : Int32)) + (1 : Int32)), vI (Int32.ofNat c0), vI (Int32.ofNat c1), vI (Int32.ofNat c2), vI (Int32.ofNat c3), .val .null, vR b182, vI (own_ndf 6 x), .unset, .unset, .unset, .unset] [(.int (1000000 : Int32)), (.int x)]))
                  by_cases hn6 : x < (1000000 : Int32)
                  · refine own_go (fun _ q => XS.icmpYes X192.here hx rfl (pc0 := 400) (pc' := 407) rfl (hb hby at_400) rfl (tlt hn6).1 (by decide) (by decide) q) ?_
                    show OG (T192.setTop (mkF m 407 #[vI p0, vI p1, vI p2, vI p3, vI (p0 &&& (3 : Int32)), vR kd, vI (Int32.ofNat lt), vI (0 : Int32), vI x, vI ((p2 &&& (3 : Int32)) + (1 : Int32)), vI (Int32.ofNat c0), vI (Int32.ofNat c1), vI (Int32.ofNat c2), vI (Int32.ofNat c3), .val .null, vR b182, vI (own_ndf 6 x), .unset, .unset, .unset, .unset] []))
                    exact own_cast (by rw [own_ndfY6 hn6]) tl6
                  · refine own_go (fun _ q => XS.icmpNo X192.here hx rfl (hb hby at_400) rfl (flt hn6).1 q) ?_
                    show OG (T192.setTop (mkF m 403 #[vI p0, vI p1, vI p2, vI p3, vI (p0 &&& (3 : Int32)), vR kd, vI (Int32.ofNat lt), vI (0 : Int32), vI x, vI ((p2 &&& (3 : Int32)) + (1 : Int32)), vI (Int32.ofNat c0), vI (Int32.ofNat c1), vI (Int32.ofNat c2), vI (Int32.ofNat c3), .val .null, vR b182, vI (own_ndf 6 x), .unset, .unset, .unset, .unset] []))
                    refine own_go (fun _ q => XS.bipush X192.here hx rfl (hb hby at_403) (XS.istore X192.here hx rfl (hb hby at_405) rfl (l' := #[vI p0, vI p1, vI p2, vI p3, vI (p0 &&& (3 : Int32)), vR kd, vI (Int32.ofNat lt), vI (0 : Int32), vI x, vI ((p2 &&& (3 : Int32)) + (1 : Int32)), vI (Int32.ofNat c0), vI (Int32.ofNat c1), vI (Int32.ofNat c2), vI (Int32.ofNat c3), .val .null, vR b182, vI (7 : Int32), .unset, .unset, .unset, .unset]) rfl q)) ?_
                    show OG (T192.setTop (mkF m 407 #[vI p0, vI p1, vI p2, vI p3, vI (p0 &&& (3 : Int32)), vR kd, vI (Int32.ofNat lt), vI (0 : Int32), vI x, vI ((p2 &&& (3 : Int32)) + (1 : Int32)), vI (Int32.ofNat c0), vI (Int32.ofNat c1), vI (Int32.ofNat c2), vI (Int32.ofNat c3), .val .null, vR b182, vI (7 : Int32), .unset, .unset, .unset, .unset] []))
                    exact own_cast (by rw [own_ndfN6 hn6]) tl6
              · show OG (T192.setTop (mkF m 389 #[vI p0, vI p1, vI p2, vI p3, vI (p0 &&& (3 : Int32)), vR kd, vI (Int32.ofNat lt), vI (0 : Int32), vI x, vI ((p2 &&& (3 : Int32)) + (1 : Int32)), vI (Int32.ofNat c0), vI (Int32.ofNat c1), vI (Int32.ofNat c2), vI (Int32.ofNat c3), .val .null, vR b182, vI (own_ndf 5 x), .unset, .unset, .unset, .unset] [(.int (100000 : Int32)), (.int x)]))
                by_cases hn5 : x < (100000 : Int32)
                · refine own_go (fun _ q => XS.icmpYes X192.here hx rfl (pc0 := 389) (pc' := 396) rfl (hb hby at_389) rfl (tlt hn5).1 (by decide) (by decide) q) ?_
                  show OG (T192.setTop (mkF m 396 #[vI p0, vI p1, vI p2, vI p3, vI (p0 &&& (3 : Int32)), vR kd, vI (Int32.ofNat lt), vI (0 : Int32), vI x, vI ((p2 &&& (3 : Int32)) + (1 : Int32)), vI (Int32.ofNat c0), vI (Int32.ofNat c1), vI (Int32.ofNat c2), vI (Int32.ofNat c3), .val .null, vR b182, vI (own_ndf 5 x), .unset, .unset, .unset, .unset] []))
                  exact own_cast (by rw [own_ndfY5 hn5]) tl5
                · refine own_go (fun _ q => XS.icmpNo X192.here hx rfl (hb hby at_389) rfl (flt hn5).1 q) ?_
                  show OG (T192.setTop (mkF m 392 #[vI p0, vI p1, vI p2, vI p3, vI (p0 &&& (3 : Int32)), vR kd, vI (Int32.ofNat lt), vI (0 : Int32), vI x, vI ((p2 &&& (3 : Int32)) + (1 : Int32)), vI (Int32.ofNat c0), vI (Int32.ofNat c1), vI (Int32.ofNat c2), vI (Int32.ofNat c3), .val .null, vR b182, vI (own_ndf 5 x), .unset, .unset, .unset, .unset] []))
                  refine own_go (fun _ q => XS.bipush X192.here hx rfl (hb hby at_392) (XS.istore X192.here hx rfl (hb hby at_394) rfl (l' := #[vI p0, vI p1, vI p2, vI p3, vI (p0 &&& (3 : Int32)), vR kd, vI (Int32.ofNat lt), vI (0 : Int32), vI x, vI ((p2 &&& (3 : Int32)) + (1 : Int32)), vI (Int32.ofNat c0), vI (Int32.ofNat c1), vI (Int32.ofNat c2), vI (Int32.ofNat c3), .val .null, vR b182, vI (6 : Int32), .unset, .unset, .unset, .unset]) rfl q)) ?_
                  show OG (T192.setTop (mkF m 396 #[vI p0, vI p1, vI p2, vI p3, vI (p0 &&& (3 : Int32)), vR kd, vI (Int32.ofNat lt), vI (0 : Int32), vI x, vI ((p2 &&& (3 : Int32)) + (1 : Int32)), vI (Int32.ofNat c0), vI (Int32.ofNat c1), vI (Int32.ofNat c2), vI (Int32.ofNat c3), .val .null, vR b182, vI (6 : Int32), .unset, .unset, .unset, .unset] []))
                  exact own_cast (by rw [own_ndfN5 hn5]) tl5
            · show OG (T192.setTop (mkF m 379 #[vI p0, vI p1, vI p2, vI p3, vI (p0 &&& (3 : Int32)), vR kd, vI (Int32.ofNat lt), vI (0 : Int32), vI x, vI ((p2 &&& (3 : Int32)) + (1 : Int32)), vI (Int32.ofNat c0), vI (Int32.ofNat c1), vI (Int32.ofNat c2), vI (Int32.ofNat c3), .val .null, vR b182, vI (own_ndf 4 x), .unset, .unset, .unset, .unset] [(.int (10000 : Int32)), (.int x)]))
              by_cases hn4 : x < (10000 : Int32)
              · refine own_go (fun _ q => XS.icmpYes X192.here hx rfl (pc0 := 379) (pc' := 385) rfl (hb hby at_379) rfl (tlt hn4).1 (by decide) (by decide) q) ?_
                show OG (T192.setTop (mkF m 385 #[vI p0, vI p1, vI p2, vI p3, vI (p0 &&& (3 : Int32)), vR kd, vI (Int32.ofNat lt), vI (0 : Int32), vI x, vI ((p2 &&& (3 : Int32)) + (1 : Int32)), vI (Int32.ofNat c0), vI (Int32.ofNat c1), vI (Int32.ofNat c2), vI (Int32.ofNat c3), .val .null, vR b182, vI (own_ndf 4 x), .unset, .unset, .unset, .unset] []))
                exact own_cast (by rw [own_ndfY4 hn4]) tl4
              · refine own_go (fun _ q => XS.icmpNo X192.here hx rfl (hb hby at_379) rfl (flt hn4).1 q) ?_
                show OG (T192.setTop (mkF m 382 #[vI p0, vI p1, vI p2, vI p3, vI (p0 &&& (3 : Int32)), vR kd, vI (Int32.ofNat lt), vI (0 : Int32), vI x, vI ((p2 &&& (3 : Int32)) + (1 : Int32)), vI (Int32.ofNat c0), vI (Int32.ofNat c1), vI (Int32.ofNat c2), vI (Int32.ofNat c3), .val .null, vR b182, vI (own_ndf 4 x), .unset, .unset, .unset, .unset] []))
                refine own_go (fun _ q => XS.iconst X192.here hx rfl (hb hby at_382) (XS.istore X192.here hx rfl (hb hby at_383) rfl (l' := #[vI p0, vI p1, vI p2, vI p3, vI (p0 &&& (3 : Int32)), vR kd, vI (Int32.ofNat lt), vI (0 : Int32), vI x, vI ((p2 &&& (3 : Int32)) + (1 : Int32)), vI (Int32.ofNat c0), vI (Int32.ofNat c1), vI (Int32.ofNat c2), vI (Int32.ofNat c3), .val .null, vR b182, vI (5 : Int32), .unset, .unset, .unset, .unset]) rfl q)) ?_
                show OG (T192.setTop (mkF m 385 #[vI p0, vI p1, vI p2, vI p3, vI (p0 &&& (3 : Int32)), vR kd, vI (Int32.ofNat lt), vI (0 : Int32), vI x, vI ((p2 &&& (3 : Int32)) + (1 : Int32)), vI (Int32.ofNat c0), vI (Int32.ofNat c1), vI (Int32.ofNat c2), vI (Int32.ofNat c3), .val .null, vR b182, vI (5 : Int32), .unset, .unset, .unset, .unset] []))
                exact own_cast (by rw [own_ndfN4 hn4]) tl4
          · show OG (T192.setTop (mkF m 368 #[vI p0, vI p1, vI p2, vI p3, vI (p0 &&& (3 : Int32)), vR kd, vI (Int32.ofNat lt), vI (0 : Int32), vI x, vI ((p2 &&& (3 : Int32)) + (1 : Int32)), vI (Int32.ofNat c0), vI (Int32.ofNat c1), vI (Int32.ofNat c2), vI (Int32.ofNat c3), .val .null, vR b182, vI (own_ndf 3 x), .unset, .unset, .unset, .unset] [(.int (1000 : Int32)), (.int x)]))
            by_cases hn3 : x < (1000 : Int32)
            · refine own_go (fun _ q => XS.icmpYes X192.here hx rfl (pc0 := 368) (pc' := 374) rfl (hb hby at_368) rfl (tlt hn3).1 (by decide) (by decide) q) ?_
              show OG (T192.setTop (mkF m 374 #[vI p0, vI p1, vI p2, vI p3, vI (p0 &&& (3 : Int32)), vR kd, vI (Int32.ofNat lt), vI (0 : Int32), vI x, vI ((p2 &&& (3 : Int32)) + (1 : Int32)), vI (Int32.ofNat c0), vI (Int32.ofNat c1), vI (Int32.ofNat c2), vI (Int32.ofNat c3), .val .null, vR b182, vI (own_ndf 3 x), .unset, .unset, .unset, .unset] []))
              exact own_cast (by rw [own_ndfY3 hn3]) tl3
            · refine own_go (fun _ q => XS.icmpNo X192.here hx rfl (hb hby at_368) rfl (flt hn3).1 q) ?_
              show OG (T192.setTop (mkF m 371 #[vI p0, vI p1, vI p2, vI p3, vI (p0 &&& (3 : Int32)), vR kd, vI (Int32.ofNat lt), vI (0 : Int32), vI x, vI ((p2 &&& (3 : Int32)) + (1 : Int32)), vI (Int32.ofNat c0), vI (Int32.ofNat c1), vI (Int32.ofNat c2), vI (Int32.ofNat c3), .val .null, vR b182, vI (own_ndf 3 x), .unset, .unset, .unset, .unset] []))
              refine own_go (fun _ q => XS.iconst X192.here hx rfl (hb hby at_371) (XS.istore X192.here hx rfl (hb hby at_372) rfl (l' := #[vI p0, vI p1, vI p2, vI p3, vI (p0 &&& (3 : Int32)), vR kd, vI (Int32.ofNat lt), vI (0 : Int32), vI x, vI ((p2 &&& (3 : Int32)) + (1 : Int32)), vI (Int32.ofNat c0), vI (Int32.ofNat c1), vI (Int32.ofNat c2), vI (Int32.ofNat c3), .val .null, vR b182, vI (4 : Int32), .unset, .unset, .unset, .unset]) rfl q)) ?_
              show OG (T192.setTop (mkF m 374 #[vI p0, vI p1, vI p2, vI p3, vI (p0 &&& (3 : Int32)), vR kd, vI (Int32.ofNat lt), vI (0 : Int32), vI x, vI ((p2 &&& (3 : Int32)) + (1 : Int32)), vI (Int32.ofNat c0), vI (Int32.ofNat c1), vI (Int32.ofNat c2), vI (Int32.ofNat c3), .val .null, vR b182, vI (4 : Int32), .unset, .unset, .unset, .unset] []))
              exact own_cast (by rw [own_ndfN3 hn3]) tl3
        · show OG (T192.setTop (mkF m 357 #[vI p0, vI p1, vI p2, vI p3, vI (p0 &&& (3 : Int32)), vR kd, vI (Int32.ofNat lt), vI (0 : Int32), vI x, vI ((p2 &&& (3 : Int32)) + (1 : Int32)), vI (Int32.ofNat c0), vI (Int32.ofNat c1), vI (Int32.ofNat c2), vI (Int32.ofNat c3), .val .null, vR b182, vI (own_ndf 2 x), .unset, .unset, .unset, .unset] [(.int (100 : Int32)), (.int x)]))
          by_cases hn2 : x < (100 : Int32)
          · refine own_go (fun _ q => XS.icmpYes X192.here hx rfl (pc0 := 357) (pc' := 363) rfl (hb hby at_357) rfl (tlt hn2).1 (by decide) (by decide) q) ?_
            show OG (T192.setTop (mkF m 363 #[vI p0, vI p1, vI p2, vI p3, vI (p0 &&& (3 : Int32)), vR kd, vI (Int32.ofNat lt), vI (0 : Int32), vI x, vI ((p2 &&& (3 : Int32)) + (1 : Int32)), vI (Int32.ofNat c0), vI (Int32.ofNat c1), vI (Int32.ofNat c2), vI (Int32.ofNat c3), .val .null, vR b182, vI (own_ndf 2 x), .unset, .unset, .unset, .unset] []))
            exact own_cast (by rw [own_ndfY2 hn2]) tl2
          · refine own_go (fun _ q => XS.icmpNo X192.here hx rfl (hb hby at_357) rfl (flt hn2).1 q) ?_
            show OG (T192.setTop (mkF m 360 #[vI p0, vI p1, vI p2, vI p3, vI (p0 &&& (3 : Int32)), vR kd, vI (Int32.ofNat lt), vI (0 : Int32), vI x, vI ((p2 &&& (3 : Int32)) + (1 : Int32)), vI (Int32.ofNat c0), vI (Int32.ofNat c1), vI (Int32.ofNat c2), vI (Int32.ofNat c3), .val .null, vR b182, vI (own_ndf 2 x), .unset, .unset, .unset, .unset] []))
            refine own_go (fun _ q => XS.iconst X192.here hx rfl (hb hby at_360) (XS.istore X192.here hx rfl (hb hby at_361) rfl (l' := #[vI p0, vI p1, vI p2, vI p3, vI (p0 &&& (3 : Int32)), vR kd, vI (Int32.ofNat lt), vI (0 : Int32), vI x, vI ((p2 &&& (3 : Int32)) + (1 : Int32)), vI (Int32.ofNat c0), vI (Int32.ofNat c1), vI (Int32.ofNat c2), vI (Int32.ofNat c3), .val .null, vR b182, vI (3 : Int32), .unset, .unset, .unset, .unset]) rfl q)) ?_
            show OG (T192.setTop (mkF m 363 #[vI p0, vI p1, vI p2, vI p3, vI (p0 &&& (3 : Int32)), vR kd, vI (Int32.ofNat lt), vI (0 : Int32), vI x, vI ((p2 &&& (3 : Int32)) + (1 : Int32)), vI (Int32.ofNat c0), vI (Int32.ofNat c1), vI (Int32.ofNat c2), vI (Int32.ofNat c3), .val .null, vR b182, vI (3 : Int32), .unset, .unset, .unset, .unset] []))
            exact own_cast (by rw [own_ndfN2 hn2]) tl2
      · show OG (T192.setTop (mkF m 347 #[vI p0, vI p1, vI p2, vI p3, vI (p0 &&& (3 : Int32)), vR kd, vI (Int32.ofNat lt), vI (0 : Int32), vI x, vI ((p2 &&& (3 : Int32)) + (1 : Int32)), vI (Int32.ofNat c0), vI (Int32.ofNat c1), vI (Int32.ofNat c2), vI (Int32.ofNat c3), .val .null, vR b182, vI (own_ndf 1 x), .unset, .unset, .unset, .unset] [(.int (10 : Int32)), (.int x)]))
        by_cases hn1 : x < (10 : Int32)
        · refine own_go (fun _ q => XS.icmpYes X192.here hx rfl (pc0 := 347) (pc' := 353) rfl (hb hby at_347) rfl (tlt hn1).1 (by decide) (by decide) q) ?_
          show OG (T192.setTop (mkF m 353 #[vI p0, vI p1, vI p2, vI p3, vI (p0 &&& (3 : Int32)), vR kd, vI (Int32.ofNat lt), vI (0 : Int32), vI x, vI ((p2 &&& (3 : Int32)) + (1 : Int32)), vI (Int32.ofNat c0), vI (Int32.ofNat c1), vI (Int32.ofNat c2), vI (Int32.ofNat c3), .val .null, vR b182, vI (own_ndf 1 x), .unset, .unset, .unset, .unset] []))
          exact own_cast (by rw [own_ndfY1 hn1]) tl1
        · refine own_go (fun _ q => XS.icmpNo X192.here hx rfl (hb hby at_347) rfl (flt hn1).1 q) ?_
          show OG (T192.setTop (mkF m 350 #[vI p0, vI p1, vI p2, vI p3, vI (p0 &&& (3 : Int32)), vR kd, vI (Int32.ofNat lt), vI (0 : Int32), vI x, vI ((p2 &&& (3 : Int32)) + (1 : Int32)), vI (Int32.ofNat c0), vI (Int32.ofNat c1), vI (Int32.ofNat c2), vI (Int32.ofNat c3), .val .null, vR b182, vI (own_ndf 1 x), .unset, .unset, .unset, .unset] []))
          refine own_go (fun _ q => XS.iconst X192.here hx rfl (hb hby at_350) (XS.istore X192.here hx rfl (hb hby at_351) rfl (l' := #[vI p0, vI p1, vI p2, vI p3, vI (p0 &&& (3 : Int32)), vR kd, vI (Int32.ofNat lt), vI (0 : Int32), vI x, vI ((p2 &&& (3 : Int32)) + (1 : Int32)), vI (Int32.ofNat c0), vI (Int32.ofNat c1), vI (Int32.ofNat c2), vI (Int32.ofNat c3), .val .null, vR b182, vI (2 : Int32), .unset, .unset, .unset, .unset]) rfl q)) ?_
          show OG (T192.setTop (mkF m 353 #[vI p0, vI p1, vI p2, vI p3, vI (p0 &&& (3 : Int32)), vR kd, vI (Int32.ofNat lt), vI (0 : Int32), vI x, vI ((p2 &&& (3 : Int32)) + (1 : Int32)), vI (Int32.ofNat c0), vI (Int32.ofNat c1), vI (Int32.ofNat c2), vI (Int32.ofNat c3), .val .null, vR b182, vI (2 : Int32), .unset, .unset, .unset, .unset] []))
          exact own_cast (by rw [own_ndfN1 hn1]) tl1
    by_cases hx0 : (p1 &&& (2147483647 : Int32)) = (0 : Int32)
    · refine own_go (fun _ q => XS.ifNo X_.here hx rfl (hb hby at_88) rfl ((if0 _ _).trans (teq hx0).2) q) ?_
      show OG (T.setTop (mkF m 91 #[vI p0, vI p1, vI p2, vI p3, vI (p0 &&& (3 : Int32)), vR kd, vI (Int32.ofNat lt), vI (0 : Int32), vI (p1 &&& (2147483647 : Int32)), .unset, .unset, .unset, .unset, .unset, .unset, .unset, .unset, .unset, .unset, .unset, .unset] []))
      refine own_go (fun _ q => XS.iconst X_.here hx rfl (hb hby at_91) (XS.istore X_.here hx rfl (hb hby at_92) rfl (l' := #[vI p0, vI p1, vI p2, vI p3, vI (p0 &&& (3 : Int32)), vR kd, vI (Int32.ofNat lt), vI (0 : Int32), vI (1 : Int32), .unset, .unset, .unset, .unset, .unset, .unset, .unset, .unset, .unset, .unset, .unset, .unset]) rfl q)) ?_
      show OG (T.setTop (mkF m 94 #[vI p0, vI p1, vI p2, vI p3, vI (p0 &&& (3 : Int32)), vR kd, vI (Int32.ofNat lt), vI (0 : Int32), vI (1 : Int32), .unset, .unset, .unset, .unset, .unset, .unset, .unset, .unset, .unset, .unset, .unset, .unset] []))
      exact tx _ 1 rfl (Nat.le_refl _)
    · refine own_go (fun _ q => XS.ifYes X_.here hx rfl (pc0 := 88) (pc' := 94) rfl (hb hby at_88) rfl ((if0 _ _).trans (feq hx0).2) (by decide) (by decide) q) ?_
      show OG (T.setTop (mkF m 94 #[vI p0, vI p1, vI p2, vI p3, vI (p0 &&& (3 : Int32)), vR kd, vI (Int32.ofNat lt), vI (0 : Int32), vI (p1 &&& (2147483647 : Int32)), .unset, .unset, .unset, .unset, .unset, .unset, .unset, .unset, .unset, .unset, .unset, .unset] []))
      obtain ⟨X, hX, hX1⟩ := own_pos31 hx0
      exact tx _ X hX hX1
  by_cases hk0 : (p0 &&& (3 : Int32)) = (0 : Int32)
  · refine own_go (fun _ q => XS.ifNo X0.here hx rfl (hb hby at_7) rfl ((if0 _ _).trans (teq hk0).2) q) ?_
    show OG (s₁.setTop (mkF m 10 #[vI p0, vI p1, vI p2, vI p3, vI (p0 &&& (3 : Int32)), .unset, .unset, .unset, .unset, .unset, .unset, .unset, .unset, .unset, .unset, .unset, .unset, .unset, .unset, .unset, .unset] []))
    obtain ⟨T241, X241, e241, st241⟩ := getS2 X0 hx hZ hown (host := "") (Or.inl (wd hw 0 rfl)) Via.refl e0 (S_kr.ext Od.2) (g := (mkF m 10 #[vI p0, vI p1, vI p2, vI p3, vI (p0 &&& (3 : Int32)), .unset, .unset, .unset, .unset, .unset, .unset, .unset, .unset, .unset, .unset, .unset, .unset, .unset, .unset, .unset, .unset] [])) rfl (hb hby at_10)
    refine own_go st241 ?_
    show OG (T241.setTop (mkF m 13 _ [(.ref kr)]))
    refine own_go (fun _ q => XS.astore X241.here hx rfl (hb hby at_13) rfl rfl (l' := #[vI p0, vI p1, vI p2, vI p3, vI (p0 &&& (3 : Int32)), vR kr, .unset, .unset, .unset, .unset, .unset, .unset, .unset, .unset, .unset, .unset, .unset, .unset, .unset, .unset, .unset]) rfl (XS.bipush X241.here hx rfl (hb hby at_15) (XS.istore X241.here hx rfl (hb hby at_17) rfl (l' := #[vI p0, vI p1, vI p2, vI p3, vI (p0 &&& (3 : Int32)), vR kr, vI (114 : Int32), .unset, .unset, .unset, .unset, .unset, .unset, .unset, .unset, .unset, .unset, .unset, .unset, .unset, .unset]) rfl (XS.goto X241.here hx rfl (pc0 := 19) (pc' := 67) rfl (hb hby at_19) (by decide) (by decide) (XS.iload X241.here hx rfl (hb hby at_67) rfl (XS.iconst X241.here hx rfl (hb hby at_69) q)))))) ?_
    show OG (T241.setTop (mkF m 70 #[vI p0, vI p1, vI p2, vI p3, vI (p0 &&& (3 : Int32)), vR kr, vI (114 : Int32), .unset, .unset, .unset, .unset, .unset, .unset, .unset, .unset, .unset, .unset, .unset, .unset, .unset, .unset] [(.int (2 : Int32)), (.int (p0 &&& (3 : Int32)))]))
    refine own_go (fun _ q => XS.icmpNo X241.here hx rfl (hb hby at_70) rfl (tlt (own_kind0 hk0)).2.1 q) ?_
    show OG (T241.setTop (mkF m 73 #[vI p0, vI p1, vI p2, vI p3, vI (p0 &&& (3 : Int32)), vR kr, vI (114 : Int32), .unset, .unset, .unset, .unset, .unset, .unset, .unset, .unset, .unset, .unset, .unset, .unset, .unset, .unset] []))
    refine own_go (fun _ q => XS.iconst X241.here hx rfl (hb hby at_73) (XS.goto X241.here hx rfl (pc0 := 74) (pc' := 78) rfl (hb hby at_74) (by decide) (by decide) (XS.istore X241.here hx rfl (hb hby at_78) rfl (l' := #[vI p0, vI p1, vI p2, vI p3, vI (p0 &&& (3 : Int32)), vR kr, vI (114 : Int32), vI (1 : Int32), .unset, .unset, .unset, .unset, .unset, .unset, .unset, .unset, .unset, .unset, .unset, .unset, .unset]) rfl q))) ?_
    show OG (T241.setTop (mkF m 80 #[vI p0, vI p1, vI p2, vI p3, vI (p0 &&& (3 : Int32)), vR kr, vI (114 : Int32), vI (1 : Int32), .unset, .unset, .unset, .unset, .unset, .unset, .unset, .unset, .unset, .unset, .unset, .unset, .unset] []))
    exact tail1 kr 114 _ K_kr (by decide) X241 e241
  · refine own_go (fun _ q => XS.ifYes X0.here hx rfl (pc0 := 7) (pc' := 22) rfl (hb hby at_7) rfl ((if0 _ _).trans (feq hk0).2) (by decide) (by decide) q) ?_
    show OG (s₁.setTop (mkF m 22 #[vI p0, vI p1, vI p2, vI p3, vI (p0 &&& (3 : Int32)), .unset, .unset, .unset, .unset, .unset, .unset, .unset, .unset, .unset, .unset, .unset, .unset, .unset, .unset, .unset, .unset] []))
    refine own_go (fun _ q => XS.iload X0.here hx rfl (hb hby at_22) rfl (XS.iconst X0.here hx rfl (hb hby at_24) q)) ?_
    show OG (s₁.setTop (mkF m 25 _ [(.int (1 : Int32)), (.int (p0 &&& (3 : Int32)))]))
    by_cases hk1 : (p0 &&& (3 : Int32)) = (1 : Int32)
    · refine own_go (fun _ q => XS.icmpNo X0.here hx rfl (hb hby at_25) rfl (teq hk1).2 q) ?_
      show OG (s₁.setTop (mkF m 28 #[vI p0, vI p1, vI p2, vI p3, vI (p0 &&& (3 : Int32)), .unset, .unset, .unset, .unset, .unset, .unset, .unset, .unset, .unset, .unset, .unset, .unset, .unset, .unset, .unset, .unset] []))
      obtain ⟨T242, X242, e242, st242⟩ := getS2 X0 hx hZ hown (host := "") (Or.inl (wd hw 277 rfl)) Via.refl e0 (S_kw.ext Od.2) (g := (mkF m 28 #[vI p0, vI p1, vI p2, vI p3, vI (p0 &&& (3 : Int32)), .unset, .unset, .unset, .unset, .unset, .unset, .unset, .unset, .unset, .unset, .unset, .unset, .unset, .unset, .unset, .unset] [])) rfl (hb hby at_28)
      refine own_go st242 ?_
      show OG (T242.setTop (mkF m 31 _ [(.ref kw)]))
      refine own_go (fun _ q => XS.astore X242.here hx rfl (hb hby at_31) rfl rfl (l' := #[vI p0, vI p1, vI p2, vI p3, vI (p0 &&& (3 : Int32)), vR kw, .unset, .unset, .unset, .unset, .unset, .unset, .unset, .unset, .unset, .unset, .unset, .unset, .unset, .unset, .unset]) rfl (XS.bipush X242.here hx rfl (hb hby at_33) (XS.istore X242.here hx rfl (hb hby at_35) rfl (l' := #[vI p0, vI p1, vI p2, vI p3, vI (p0 &&& (3 : Int32)), vR kw, vI (119 : Int32), .unset, .unset, .unset, .unset, .unset, .unset, .unset, .unset, .unset, .unset, .unset, .unset, .unset, .unset]) rfl (XS.goto X242.here hx rfl (pc0 := 37) (pc' := 67) rfl (hb hby at_37) (by decide) (by decide) (XS.iload X242.here hx rfl (hb hby at_67) rfl (XS.iconst X242.here hx rfl (hb hby at_69) q)))))) ?_
      show OG (T242.setTop (mkF m 70 #[vI p0, vI p1, vI p2, vI p3, vI (p0 &&& (3 : Int32)), vR kw, vI (119 : Int32), .unset, .unset, .unset, .unset, .unset, .unset, .unset, .unset, .unset, .unset, .unset, .unset, .unset, .unset] [(.int (2 : Int32)), (.int (p0 &&& (3 : Int32)))]))
      refine own_go (fun _ q => XS.icmpNo X242.here hx rfl (hb hby at_70) rfl (tlt (own_kind1 hk0 hk1)).2.1 q) ?_
      show OG (T242.setTop (mkF m 73 #[vI p0, vI p1, vI p2, vI p3, vI (p0 &&& (3 : Int32)), vR kw, vI (119 : Int32), .unset, .unset, .unset, .unset, .unset, .unset, .unset, .unset, .unset, .unset, .unset, .unset, .unset, .unset] []))
      refine own_go (fun _ q => XS.iconst X242.here hx rfl (hb hby at_73) (XS.goto X242.here hx rfl (pc0 := 74) (pc' := 78) rfl (hb hby at_74) (by decide) (by decide) (XS.istore X242.here hx rfl (hb hby at_78) rfl (l' := #[vI p0, vI p1, vI p2, vI p3, vI (p0 &&& (3 : Int32)), vR kw, vI (119 : Int32), vI (1 : Int32), .unset, .unset, .unset, .unset, .unset, .unset, .unset, .unset, .unset, .unset, .unset, .unset, .unset]) rfl q))) ?_
      show OG (T242.setTop (mkF m 80 #[vI p0, vI p1, vI p2, vI p3, vI (p0 &&& (3 : Int32)), vR kw, vI (119 : Int32), vI (1 : Int32), .unset, .unset, .unset, .unset, .unset, .unset, .unset, .unset, .unset, .unset, .unset, .unset, .unset] []))
      exact tail1 kw 119 _ K_kw (by decide) X242 e242
    · refine own_go (fun _ q => XS.icmpYes X0.here hx rfl (pc0 := 25) (pc' := 40) rfl (hb hby at_25) rfl (feq hk1).2 (by decide) (by decide) q) ?_
      show OG (s₁.setTop (mkF m 40 #[vI p0, vI p1, vI p2, vI p3, vI (p0 &&& (3 : Int32)), .unset, .unset, .unset, .unset, .unset, .unset, .unset, .unset, .unset, .unset, .unset, .unset, .unset, .unset, .unset, .unset] []))
      refine own_go (fun _ q => XS.iload X0.here hx rfl (hb hby at_40) rfl (XS.iconst X0.here hx rfl (hb hby at_42) q)) ?_
      show OG (s₁.setTop (mkF m 43 _ [(.int (2 : Int32)), (.int (p0 &&& (3 : Int32)))]))
      by_cases hk2 : (p0 &&& (3 : Int32)) = (2 : Int32)
      · refine own_go (fun _ q => XS.icmpNo X0.here hx rfl (hb hby at_43) rfl (teq hk2).2 q) ?_
        show OG (s₁.setTop (mkF m 46 #[vI p0, vI p1, vI p2, vI p3, vI (p0 &&& (3 : Int32)), .unset, .unset, .unset, .unset, .unset, .unset, .unset, .unset, .unset, .unset, .unset, .unset, .unset, .unset, .unset, .unset] []))
        obtain ⟨T243, X243, e243, st243⟩ := getS2 X0 hx hZ hown (host := "") (Or.inl (wd hw 275 rfl)) Via.refl e0 (S_kc.ext Od.2) (g := (mkF m 46 #[vI p0, vI p1, vI p2, vI p3, vI (p0 &&& (3 : Int32)), .unset, .unset, .unset, .unset, .unset, .unset, .unset, .unset, .unset, .unset, .unset, .unset, .unset, .unset, .unset, .unset] [])) rfl (hb hby at_46)
        refine own_go st243 ?_
        show OG (T243.setTop (mkF m 49 _ [(.ref kc)]))
        refine own_go (fun _ q => XS.astore X243.here hx rfl (hb hby at_49) rfl rfl (l' := #[vI p0, vI p1, vI p2, vI p3, vI (p0 &&& (3 : Int32)), vR kc, .unset, .unset, .unset, .unset, .unset, .unset, .unset, .unset, .unset, .unset, .unset, .unset, .unset, .unset, .unset]) rfl (XS.bipush X243.here hx rfl (hb hby at_51) (XS.istore X243.here hx rfl (hb hby at_53) rfl (l' := #[vI p0, vI p1, vI p2, vI p3, vI (p0 &&& (3 : Int32)), vR kc, vI (99 : Int32), .unset, .unset, .unset, .unset, .unset, .unset, .unset, .unset, .unset, .unset, .unset, .unset, .unset, .unset]) rfl (XS.goto X243.here hx rfl (pc0 := 55) (pc' := 67) rfl (hb hby at_55) (by decide) (by decide) (XS.iload X243.here hx rfl (hb hby at_67) rfl (XS.iconst X243.here hx rfl (hb hby at_69) q)))))) ?_
        show OG (T243.setTop (mkF m 70 #[vI p0, vI p1, vI p2, vI p3, vI (p0 &&& (3 : Int32)), vR kc, vI (99 : Int32), .unset, .unset, .unset, .unset, .unset, .unset, .unset, .unset, .unset, .unset, .unset, .unset, .unset, .unset] [(.int (2 : Int32)), (.int (p0 &&& (3 : Int32)))]))
        refine own_go (fun _ q => XS.icmpYes X243.here hx rfl (pc0 := 70) (pc' := 77) rfl (hb hby at_70) rfl (flt (own_kind2 hk0 hk1 hk2)).2.1 (by decide) (by decide) q) ?_
        show OG (T243.setTop (mkF m 77 #[vI p0, vI p1, vI p2, vI p3, vI (p0 &&& (3 : Int32)), vR kc, vI (99 : Int32), .unset, .unset, .unset, .unset, .unset, .unset, .unset, .unset, .unset, .unset, .unset, .unset, .unset, .unset] []))
        refine own_go (fun _ q => XS.iconst X243.here hx rfl (hb hby at_77) (XS.istore X243.here hx rfl (hb hby at_78) rfl (l' := #[vI p0, vI p1, vI p2, vI p3, vI (p0 &&& (3 : Int32)), vR kc, vI (99 : Int32), vI (0 : Int32), .unset, .unset, .unset, .unset, .unset, .unset, .unset, .unset, .unset, .unset, .unset, .unset, .unset]) rfl q)) ?_
        show OG (T243.setTop (mkF m 80 #[vI p0, vI p1, vI p2, vI p3, vI (p0 &&& (3 : Int32)), vR kc, vI (99 : Int32), vI (0 : Int32), .unset, .unset, .unset, .unset, .unset, .unset, .unset, .unset, .unset, .unset, .unset, .unset, .unset] []))
        exact tail0 kc 99 _ K_kc (by decide) X243 e243
      · refine own_go (fun _ q => XS.icmpYes X0.here hx rfl (pc0 := 43) (pc' := 58) rfl (hb hby at_43) rfl (feq hk2).2 (by decide) (by decide) q) ?_
        show OG (s₁.setTop (mkF m 58 #[vI p0, vI p1, vI p2, vI p3, vI (p0 &&& (3 : Int32)), .unset, .unset, .unset, .unset, .unset, .unset, .unset, .unset, .unset, .unset, .unset, .unset, .unset, .unset, .unset, .unset] []))
        obtain ⟨T244, X244, e244, st244⟩ := getS2 X0 hx hZ hown (host := "") (Or.inl (wd hw 272 rfl)) Via.refl e0 (S_ka.ext Od.2) (g := (mkF m 58 #[vI p0, vI p1, vI p2, vI p3, vI (p0 &&& (3 : Int32)), .unset, .unset, .unset, .unset, .unset, .unset, .unset, .unset, .unset, .unset, .unset, .unset, .unset, .unset, .unset, .unset] [])) rfl (hb hby at_58)
        refine own_go st244 ?_
        show OG (T244.setTop (mkF m 61 _ [(.ref ka)]))
        refine own_go (fun _ q => XS.astore X244.here hx rfl (hb hby at_61) rfl rfl (l' := #[vI p0, vI p1, vI p2, vI p3, vI (p0 &&& (3 : Int32)), vR ka, .unset, .unset, .unset, .unset, .unset, .unset, .unset, .unset, .unset, .unset, .unset, .unset, .unset, .unset, .unset]) rfl (XS.bipush X244.here hx rfl (hb hby at_63) (XS.istore X244.here hx rfl (hb hby at_65) rfl (l' := #[vI p0, vI p1, vI p2, vI p3, vI (p0 &&& (3 : Int32)), vR ka, vI (97 : Int32), .unset, .unset, .unset, .unset, .unset, .unset, .unset, .unset, .unset, .unset, .unset, .unset, .unset, .unset]) rfl (XS.iload X244.here hx rfl (hb hby at_67) rfl (XS.iconst X244.here hx rfl (hb hby at_69) q))))) ?_
        show OG (T244.setTop (mkF m 70 #[vI p0, vI p1, vI p2, vI p3, vI (p0 &&& (3 : Int32)), vR ka, vI (97 : Int32), .unset, .unset, .unset, .unset, .unset, .unset, .unset, .unset, .unset, .unset, .unset, .unset, .unset, .unset] [(.int (2 : Int32)), (.int (p0 &&& (3 : Int32)))]))
        refine own_go (fun _ q => XS.icmpYes X244.here hx rfl (pc0 := 70) (pc' := 77) rfl (hb hby at_70) rfl (flt (own_kind3 hk0 hk1 hk2)).2.1 (by decide) (by decide) q) ?_
        show OG (T244.setTop (mkF m 77 #[vI p0, vI p1, vI p2, vI p3, vI (p0 &&& (3 : Int32)), vR ka, vI (97 : Int32), .unset, .unset, .unset, .unset, .unset, .unset, .unset, .unset, .unset, .unset, .unset, .unset, .unset, .unset] []))
        refine own_go (fun _ q => XS.iconst X244.here hx rfl (hb hby at_77) (XS.istore X244.here hx rfl (hb hby at_78) rfl (l' := #[vI p0, vI p1, vI p2, vI p3, vI (p0 &&& (3 : Int32)), vR ka, vI (97 : Int32), vI (0 : Int32), .unset, .unset, .unset, .unset, .unset, .unset, .unset, .unset, .unset, .unset, .unset, .unset, .unset]) rfl q)) ?_
        show OG (T244.setTop (mkF m 80 #[vI p0, vI p1, vI p2, vI p3, vI (p0 &&& (3 : Int32)), vR ka, vI (97 : Int32), vI (0 : Int32), .unset, .unset, .unset, .unset, .unset, .unset, .unset, .unset, .unset, .unset, .unset, .unset, .unset] []))
        exact tail0 ka 97 _ K_ka (by decide) X244 e244
set_option maxRecDepth 65536 in
set_option maxHeartbeats 40000000 in
theorem comes_1 {Post : Tables → Env → Array Value → State → Outcome → State → Prop} (hpost : ∀ tb e args s v u, (limb_1_1.after args s (.returned v) u = true ∧ limb_1_2.after args s (.returned v) u = true ∧ True) → FramedW s (.returned v) u (Jvm.fieldLocs frame_1_writes args s ++ Jvm.arrayLocs frame_1_arrays args s ++ Jvm.staticLocs frame_1_statics s) 40 1408 → Post tb e args s (.returned v) u) :
    ArmFor flags0 classFile x code maxLocals ret World_1 tables_1 room_1 Calls_1 rest_1 Pre_1 Post := by
  intro l hfl _ _ p e ha hc hk s m args below hf hA hF happ hP
  obtain ⟨hcalls, hrest, hpre⟩ := hP
  obtain ⟨-, -, -, hnamed, -, -, -, hat⟩ := (Spec.applies_iff hf).mp happ
  obtain ⟨hg, hn⟩ := and_e (Cond.before_iff.mp (show (Jvm.Cond.and given_1 narrow_1).before args s = true from hpre))
  obtain ⟨ga1, gb1⟩ := and_e hg
  obtain ⟨ga2, gb2⟩ := and_e gb1
  obtain ⟨ga3, gb3⟩ := and_e gb2
  obtain ⟨ga4, gb4⟩ := and_e gb3
  obtain ⟨w0, w1, w2, w3, rfl⟩ : ∃ w0 w1 w2 w3 : Value, args = #[w0, w1, w2, w3] := by
    have hs : args.size = 4 := by simpa [Cond.value, given_1] using ga1
    obtain ⟨L⟩ := args
    match L, hs with
    | [w0, w1, w2, w3], _ => exact ⟨w0, w1, w2, w3, rfl⟩
  have hw := fun d (hd : d ∈ tables_1) => atoms_spec (ws := Jvm.Cond.code x code maxLocals ret :: tables_1) hat d (List.mem_cons_of_mem _ hd)
  obtain ⟨hsets, -⟩ := atoms_of _ (rest_1_c_eq ▸ (show rest_1_c.before _ s = true from hrest))
  obtain ⟨zc, SC, hz0⟩ := own_compact hsets
  obtain ⟨fv, SF, hfv⟩ := own_sio hsets
  obtain ⟨d1, D1, B1⟩ := own_ones hsets hw
  obtain ⟨d2, D2, B2⟩ := own_tens hsets hw
  obtain ⟨nn0, hn⟩ := and_e hn
  obtain ⟨nn1, hn⟩ := and_e hn
  obtain ⟨nn2, hn⟩ := and_e hn
  obtain ⟨nn3, hn⟩ := and_e hn
  obtain ⟨nn4, hn⟩ := and_e hn
  obtain ⟨nn5, hn⟩ := and_e hn
  obtain ⟨nn6, hn⟩ := and_e hn
  obtain ⟨nn7, hn⟩ := and_e hn
  obtain ⟨nn8, hn⟩ := and_e hn
  obtain ⟨nn9, hn⟩ := and_e hn
  obtain ⟨nn10, hn⟩ := and_e hn
  obtain ⟨kr, S_kr, K_kr⟩ := own_kd (on := 1) (lt := 114) (wd hw 1 rfl) (wd hw 2 rfl) nn0 nn1 nn2
  obtain ⟨ka, S_ka, K_ka⟩ := own_kd (on := 0) (lt := 97) (wd hw 1 rfl) (wd hw 273 rfl) nn3 nn4 nn5
  obtain ⟨kc, S_kc, K_kc⟩ := own_kd (on := 0) (lt := 99) (wd hw 1 rfl) (wd hw 276 rfl) nn6 nn7 nn8
  obtain ⟨kw, S_kw, K_kw⟩ := own_kd (on := 1) (lt := 119) (wd hw 1 rfl) (wd hw 278 rfl) nn9 nn10 hn
  obtain ⟨i0, ei0⟩ := is_v ga2
  obtain rfl : w0 = (.int i0) := Option.some.inj ei0
  obtain ⟨i1, ei1⟩ := is_v ga3
  obtain rfl : w1 = (.int i1) := Option.some.inj ei1
  obtain ⟨i2, ei2⟩ := is_v ga4
  obtain rfl : w2 = (.int i2) := Option.some.inj ei2
  obtain ⟨i3, ei3⟩ := is_v gb4
  obtain rfl : w3 = (.int i3) := Option.some.inj ei3
  obtain ⟨n, o, h1, h2, h3, _, L, rfl, ⟨rfl, N⟩, hq⟩ := rm0 l s _ hw tables_1 i0 i1 i2 i3 kr kw kc ka d1 d2 fv zc s.heap s.heap.size (Nat.le_refl _) SC hz0 (Old.start s) S_kr K_kr S_kw K_kw S_kc K_kc S_ka K_ka D1 B1 D2 B2 SF hfv p e ha hc hk s m _ below hf ((Spec.applies_iff_loose hf).mp happ).1 ⟨rfl, State.Warmed39.refl s, rfl⟩ trivial
  refine ⟨n, _, h1, h2, h3, hpost _ _ _ _ _ _ ⟨Cond.after_iff.mpr rfl, Cond.after_iff.mpr (eq_i res_at (Term.int_eval (1)) rfl), trivial⟩ ⟨hq.1, hq.2.1, hq.2.2.1, (hq.2.2.2.sift fun y hy => Or.inr (N y hy)).mono (by decide) (by decide)⟩⟩
theorem main_1_1 : Claimed_1_1 := comes_1 fun _ _ _ _ _ _ h hF => ⟨h.1, hF⟩
theorem main_1_2 : Claimed_1_2 := comes_1 fun _ _ _ _ _ _ h hF => ⟨h.2.1, hF⟩
end Jvm.Pilot.@@N@@
namespace Jvm.Pilot.@@N@@
open Jvm Jvm.ClassFile Sem Op Lib Jvm.Free Jvm.Stand Jvm.Pilot.@@N@@.Jvm.D
/-! MADE BY PROGRAM (witnessworld.py) out of the Statement's table words and the real class files: 32 classes; the members and pool entries that the words name. The judged class is class 1, her method 1. -/
namespace start1
open Jvm.ClassFile
def u (s : String) : CpInfo := .utf8 (stringToUtf16 s)
/-- a pool by its gaps: so many unusable entries, then the entry; so many at the end -/
def gap : Nat → List CpInfo → List CpInfo
  | 0, r => r
  | n + 1, r => .unusable :: gap n r
def poolList (es : List (Nat × CpInfo)) (last : Nat) : List CpInfo := es.foldr (fun e r => gap e.1 (e.2 :: r)) (gap last [])
def pool (es : List (Nat × CpInfo)) (last : Nat) : Array CpInfo := ⟨poolList es last⟩
def fileOf (pool : Array CpInfo) (this : Nat) (attrs : Array Attribute := #[]) (ms : Array MethodInfo := #[]) (fl : Nat := 33) (sup : Nat := 0) (ifs : Array Nat := #[]) (fds : Array FieldInfo := #[]) : ClassFile where
  minorVersion := 0
  majorVersion := 65
  constantPool := pool
  accessFlags := fl
  thisClass := this
  superClass := sup
  interfaces := ifs
  fields := fds
  methods := ms
  attributes := attrs
def plain (name : String) (sup : Option ClassId) : Class where
  name := name
  kind := .ordinary
  loader := none
  accessFlags := 33
  super := sup
  interfaces := #[]
  cf := none
  fields := #[]
  methods := #[]
  instanceTypes := #[]
  staticTypes := #[]
  resolved := #[]
  callSites := []
  init := .initialized
  statics := none
  mirror := none

def pool0 : Array CpInfo := pool [(5, u "<init>"), (0, u "()V"), (1, .class_ 10), (1, u "java/lang/Object"), (85, u "clone"), (0, u "()Ljava/lang/Object;")] 26

def k0c0 : Code := { maxStack := 0, maxLocals := 1, code := object_method_1_code, exceptionTable := #[], attributes := #[] }
def k0m0 : Method := { name := "<init>", desc := "()V", sig := { parameters := [], returnType := none }, accessFlags := 1, code := some k0c0 }
def k0m1 : Method := { name := "clone", desc := "()Ljava/lang/Object;", sig := { parameters := [], returnType := some (.object "java/lang/Object") }, accessFlags := 260, code := none }
/-- java/lang/Object -/
def k0 : Class := { plain "java/lang/Object" none with
  accessFlags := 33
  interfaces := #[]
  cf := some (fileOf pool0 8 #[] #[{ accessFlags := 1, nameIndex := 5, descriptorIndex := 6, attributes := #[] }, { accessFlags := 260, nameIndex := 96, descriptorIndex := 97, attributes := #[] }] 33 0 #[] #[])
  fields := #[]
  methods := #[k0m0, k0m1]
  instanceTypes := #[]
  staticTypes := #[]
  resolved := Array.replicate 124 none
  statics := none }

def pool1 : Array CpInfo := pool [(2, .class_ 4), (1, u "java/lang/Object"), (0, u "<init>"), (0, u "()V"), (0, .fieldref 8 9), (0, .class_ 10), (0, .nameAndType 11 12), (0, u "com/example/interleave/interleave/core/Operation$Kind"), (0, u "READ"), (0, u "Lcom/example/interleave/interleave/core/Operation$Kind;"), (0, .fieldref 8 14), (0, .nameAndType 15 12), (0, u "WRITE"), (0, .fieldref 8 17), (0, .nameAndType 18 12), (0, u "COMMIT"), (0, .fieldref 8 20), (0, .nameAndType 21 12), (0, u "ABORT"), (0, .integer 2147483647), (0, .methodref 24 25), (0, .class_ 26), (0, .nameAndType 27 28), (0, u "com/example/interleave/interleave/core/OperationToStringPinLaw"), (0, u "ch"), (0, u "(I)C"), (0, .class_ 30), (0, u "java/lang/String"), (0, .methodref 29 32), (0, .nameAndType 5 33), (0, u "([C)V"), (0, .integer 100000), (0, .integer 1000000), (0, .integer 10000000), (0, .integer 100000000), (0, .integer 1000000000), (0, .class_ 40), (0, u "com/example/interleave/interleave/core/Operation"), (0, .methodref 39 42), (0, .nameAndType 5 43), (0, u "(Lcom/example/interleave/interleave/core/Operation$Kind;ILjava/lang/String;)V"), (0, .methodref 39 45), (0, .nameAndType 46 47), (0, u "toString"), (0, u "()Ljava/lang/String;"), (0, .methodref 24 49), (0, .nameAndType 50 51), (0, u "put"), (0, u "([CII[II)V"), (0, .methodref 29 53), (0, .nameAndType 54 55), (0, u "length"), (0, u "()I"), (0, .methodref 24 57), (0, .nameAndType 58 59), (0, u "at"), (0, u "(Ljava/lang/String;[CII)Z"), (0, .methodref 29 61), (0, .nameAndType 62 28), (0, u "charAt"), (2, u "law"), (0, u "(IIII)Z")] 9

def k1m0 : Method := { name := "<init>", desc := "()V", sig := { parameters := [], returnType := none }, accessFlags := 1, code := none }
def k1c1 : Code := { maxStack := 6, maxLocals := 21, code := code, exceptionTable := #[], attributes := #[] }
def k1m1 : Method := { name := "law", desc := "(IIII)Z", sig := { parameters := [.int, .int, .int, .int], returnType := some .boolean }, accessFlags := 9, code := some k1c1 }
def k1c2 : Code := { maxStack := 3, maxLocals := 1, code := method_3_code, exceptionTable := #[], attributes := #[] }
def k1m2 : Method := { name := "ch", desc := "(I)C", sig := { parameters := [.int], returnType := some .char }, accessFlags := 10, code := some k1c2 }
def k1c3 : Code := { maxStack := 7, maxLocals := 5, code := method_4_code, exceptionTable := #[], attributes := #[] }
def k1m3 : Method := { name := "put", desc := "([CII[II)V", sig := { parameters := [(.array .char), .int, .int, (.array .int), .int], returnType := none }, accessFlags := 10, code := some k1c3 }
def k1c4 : Code := { maxStack := 3, maxLocals := 4, code := method_5_code, exceptionTable := #[], attributes := #[] }
def k1m4 : Method := { name := "at", desc := "(Ljava/lang/String;[CII)Z", sig := { parameters := [(.object "java/lang/String"), (.array .char), .int, .int], returnType := some .boolean }, accessFlags := 10, code := some k1c4 }
/-- com/example/interleave/interleave/core/OperationToStringPinLaw -/
def k1 : Class := { plain "com/example/interleave/interleave/core/OperationToStringPinLaw" (some 0) with
  accessFlags := 49
  interfaces := #[]
  cf := some (fileOf pool1 24 #[] #[{ accessFlags := 1, nameIndex := 5, descriptorIndex := 6, attributes := #[] }, { accessFlags := 9, nameIndex := 65, descriptorIndex := 66, attributes := #[] }, { accessFlags := 10, nameIndex := 27, descriptorIndex := 28, attributes := #[] }, { accessFlags := 10, nameIndex := 50, descriptorIndex := 51, attributes := #[] }, { accessFlags := 10, nameIndex := 58, descriptorIndex := 59, attributes := #[] }] 49 2 #[] #[])
  fields := #[]
  methods := #[k1m0, k1m1, k1m2, k1m3, k1m4]
  instanceTypes := #[]
  staticTypes := #[]
  resolved := Array.replicate 76 none
  statics := none }

def pool2 : Array CpInfo := pool [(1, .class_ 2), (0, u "java/lang/constant/Constable"), (0, .class_ 4), (0, u "java/lang/Object")] 6

/-- java/lang/constant/Constable -/
def k2 : Class := { plain "java/lang/constant/Constable" (some 0) with
  accessFlags := 1537
  interfaces := #[]
  cf := some (fileOf pool2 1 #[] #[] 1537 3 #[] #[])
  fields := #[]
  methods := #[]
  instanceTypes := #[]
  staticTypes := #[]
  resolved := Array.replicate 11 none
  statics := none }

def pool3 : Array CpInfo := pool [(1, .class_ 2), (0, u "java/lang/Comparable"), (0, .class_ 4), (0, u "java/lang/Object")] 7

/-- java/lang/Comparable -/
def k3 : Class := { plain "java/lang/Comparable" (some 0) with
  accessFlags := 1537
  interfaces := #[]
  cf := some (fileOf pool3 1 #[] #[] 1537 3 #[] #[])
  fields := #[]
  methods := #[]
  instanceTypes := #[]
  staticTypes := #[]
  resolved := Array.replicate 12 none
  statics := none }

def pool4 : Array CpInfo := pool [(1, .class_ 2), (0, u "java/io/Serializable"), (0, .class_ 4), (0, u "java/lang/Object")] 2

/-- java/io/Serializable -/
def k4 : Class := { plain "java/io/Serializable" (some 0) with
  accessFlags := 1537
  interfaces := #[]
  cf := some (fileOf pool4 1 #[] #[] 1537 3 #[] #[])
  fields := #[]
  methods := #[]
  instanceTypes := #[]
  staticTypes := #[]
  resolved := Array.replicate 7 none
  statics := none }

def pool5 : Array CpInfo := pool [(2, .class_ 4), (1, u "java/lang/Enum"), (0, u "name"), (0, u "Ljava/lang/String;"), (2, u "ordinal"), (0, u "I"), (1, .class_ 14), (1, u "java/lang/Object"), (4, u "hash"), (86, .class_ 108), (1, u "java/lang/Enum$EnumDesc"), (2, .class_ 112), (0, u "java/lang/constant/Constable"), (0, .class_ 114), (0, u "java/lang/Comparable"), (0, .class_ 116), (0, u "java/io/Serializable")] 87

/-- java/lang/Enum -/
def k5 : Class := { plain "java/lang/Enum" (some 0) with
  accessFlags := 1057
  interfaces := #[2, 3, 4]
  cf := some (fileOf pool5 2 #[.nestMembers #[106]] #[] 1057 12 #[111, 113, 115] #[{ accessFlags := 18, nameIndex := 5, descriptorIndex := 6, attributes := #[] }, { accessFlags := 18, nameIndex := 9, descriptorIndex := 10, attributes := #[] }, { accessFlags := 2, nameIndex := 19, descriptorIndex := 10, attributes := #[] }])
  fields := #[{ name := "name", type := (.object "java/lang/String"), accessFlags := 18, slot := 0, constantValue := 0 }, { name := "ordinal", type := .int, accessFlags := 18, slot := 1, constantValue := 0 }, { name := "hash", type := .int, accessFlags := 2, slot := 2, constantValue := 0 }]
  methods := #[]
  instanceTypes := #[(.object "java/lang/String"), .int, .int]
  staticTypes := #[]
  resolved := Array.replicate 204 none
  statics := none }

def pool6 : Array CpInfo := pool [(1, .class_ 2), (0, u "com/example/interleave/interleave/core/Operation$Kind"), (2, u "READ"), (0, u "Lcom/example/interleave/interleave/core/Operation$Kind;"), (2, u "WRITE"), (2, u "COMMIT"), (2, u "ABORT"), (2, u "$VALUES"), (0, u "[Lcom/example/interleave/interleave/core/Operation$Kind;"), (6, .class_ 28), (1, u "java/lang/Enum"), (6, .fieldref 1 36), (0, .nameAndType 37 38), (0, u "letter"), (0, u "C"), (0, .fieldref 1 40), (0, .nameAndType 41 42), (0, u "onItem"), (0, u "Z"), (18, u "()C"), (0, u "()Z"), (6, .class_ 70), (0, u "com/example/interleave/interleave/core/Operation")] 2

def k6c0 : Code := { maxStack := 1, maxLocals := 1, code := prog_24_method_4_code, exceptionTable := #[], attributes := #[] }
def k6m0 : Method := { name := "letter", desc := "()C", sig := { parameters := [], returnType := some .char }, accessFlags := 1, code := some k6c0 }
def k6c1 : Code := { maxStack := 1, maxLocals := 1, code := prog_24_method_5_code, exceptionTable := #[], attributes := #[] }
def k6m1 : Method := { name := "onItem", desc := "()Z", sig := { parameters := [], returnType := some .boolean }, accessFlags := 1, code := some k6c1 }
/-- com/example/interleave/interleave/core/Operation$Kind -/
def k6 : Class := { plain "com/example/interleave/interleave/core/Operation$Kind" (some 5) with
  accessFlags := 16433
  interfaces := #[]
  cf := some (fileOf pool6 1 #[.nestHost 69] #[{ accessFlags := 1, nameIndex := 37, descriptorIndex := 61, attributes := #[] }, { accessFlags := 1, nameIndex := 41, descriptorIndex := 62, attributes := #[] }] 16433 26 #[] #[{ accessFlags := 16409, nameIndex := 5, descriptorIndex := 6, attributes := #[] }, { accessFlags := 16409, nameIndex := 9, descriptorIndex := 6, attributes := #[] }, { accessFlags := 16409, nameIndex := 12, descriptorIndex := 6, attributes := #[] }, { accessFlags := 16409, nameIndex := 15, descriptorIndex := 6, attributes := #[] }, { accessFlags := 18, nameIndex := 37, descriptorIndex := 38, attributes := #[] }, { accessFlags := 18, nameIndex := 41, descriptorIndex := 42, attributes := #[] }, { accessFlags := 4122, nameIndex := 18, descriptorIndex := 19, attributes := #[] }])
  fields := #[{ name := "READ", type := (.object "com/example/interleave/interleave/core/Operation$Kind"), accessFlags := 16409, slot := 0, constantValue := 0 }, { name := "WRITE", type := (.object "com/example/interleave/interleave/core/Operation$Kind"), accessFlags := 16409, slot := 1, constantValue := 0 }, { name := "COMMIT", type := (.object "com/example/interleave/interleave/core/Operation$Kind"), accessFlags := 16409, slot := 2, constantValue := 0 }, { name := "ABORT", type := (.object "com/example/interleave/interleave/core/Operation$Kind"), accessFlags := 16409, slot := 3, constantValue := 0 }, { name := "letter", type := .char, accessFlags := 18, slot := 3, constantValue := 0 }, { name := "onItem", type := .boolean, accessFlags := 18, slot := 4, constantValue := 0 }, { name := "$VALUES", type := (.array (.object "com/example/interleave/interleave/core/Operation$Kind")), accessFlags := 4122, slot := 4, constantValue := 0 }]
  methods := #[k6m0, k6m1]
  instanceTypes := #[(.object "java/lang/String"), .int, .int, .char, .boolean]
  staticTypes := #[(.object "com/example/interleave/interleave/core/Operation$Kind"), (.object "com/example/interleave/interleave/core/Operation$Kind"), (.object "com/example/interleave/interleave/core/Operation$Kind"), (.object "com/example/interleave/interleave/core/Operation$Kind"), (.array (.object "com/example/interleave/interleave/core/Operation$Kind"))]
  resolved := Array.replicate 73 none
  statics := some 0 }

def pool7 : Array CpInfo := pool [(2, .class_ 4), (1, u "java/lang/CharSequence"), (42, .class_ 48), (0, u "java/lang/CharSequence$1CodePointIterator"), (10, .class_ 60), (0, u "java/lang/CharSequence$1CharIterator"), (5, .class_ 67), (0, u "java/lang/Object")] 63

/-- java/lang/CharSequence -/
def k7 : Class := { plain "java/lang/CharSequence" (some 0) with
  accessFlags := 1537
  interfaces := #[]
  cf := some (fileOf pool7 2 #[.nestMembers #[47, 59]] #[] 1537 66 #[] #[])
  fields := #[]
  methods := #[]
  instanceTypes := #[]
  staticTypes := #[]
  resolved := Array.replicate 131 none
  statics := none }

def pool8 : Array CpInfo := pool [(1, .class_ 2), (0, u "java/lang/constant/ConstantDesc"), (0, .class_ 4), (0, u "java/lang/Object")] 32

/-- java/lang/constant/ConstantDesc -/
def k8 : Class := { plain "java/lang/constant/ConstantDesc" (some 0) with
  accessFlags := 1537
  interfaces := #[]
  cf := some (fileOf pool8 1 #[] #[] 1537 3 #[] #[])
  fields := #[]
  methods := #[]
  instanceTypes := #[]
  staticTypes := #[]
  resolved := Array.replicate 37 none
  statics := none }

def pool9 : Array CpInfo := pool [(1, .methodref 2 3), (0, .class_ 4), (0, .nameAndType 5 6), (0, u "java/lang/Object"), (0, u "<init>"), (0, u "()V"), (2, .fieldref 10 11), (0, .class_ 12), (0, .nameAndType 13 14), (0, u "java/lang/String"), (0, u "value"), (0, u "[B"), (0, .fieldref 10 16), (0, .nameAndType 17 18), (0, u "coder"), (0, u "B"), (2, u "hash"), (0, u "I"), (2, u "hashIsZero"), (0, u "Z"), (0, .methodref 10 28), (0, .nameAndType 5 29), (0, u "([CIILjava/lang/Void;)V"), (8, .fieldref 10 39), (0, .nameAndType 40 26), (0, u "COMPACT_STRINGS"), (1, .class_ 44), (1, u "java/lang/StringUTF16"), (0, u "compress"), (1, .methodref 42 48), (0, .nameAndType 49 50), (0, u "coderFromArrayLen"), (0, u "([BI)B"), (3, .methodref 55 56), (0, .class_ 57), (0, .nameAndType 58 59), (0, u "java/util/Arrays"), (0, u "copyOfRange"), (0, u "([BII)[B"), (47, .class_ 109), (1, u "java/lang/StringLatin1"), (32, u "()Z"), (34, .methodref 42 178), (0, .nameAndType 45 179), (0, u "([CII)[B"), (13, .class_ 195), (1, u "java/lang/System"), (15, u "([BB)V"), (0, .methodref 193 213), (0, .nameAndType 214 215), (0, u "arraycopy"), (0, u "(Ljava/lang/Object;ILjava/lang/Object;II)V"), (118, u "()I"), (0, .methodref 10 336), (0, .nameAndType 17 337), (0, u "()B"), (2, u "()[B"), (22, u "([BI)C"), (27, u "(II)V"), (35, u "(I)C"), (61, .methodref 10 490), (0, .nameAndType 5 491), (0, u "(Ljava/lang/AbstractStringBuilder;Ljava/lang/Void;)V"), (0, .methodref 10 493), (0, .nameAndType 494 142), (0, u "isLatin1"), (0, .methodref 107 496), (0, .nameAndType 497 363), (0, u "charAt"), (3, u "checkIndex"), (4, .nameAndType 507 334), (0, u "length"), (24, u "getBytes"), (16, .methodref 550 506), (0, .class_ 551), (0, u "java/lang/AbstractStringBuilder"), (0, .methodref 550 553), (0, .nameAndType 554 340), (0, u "getValue"), (20, .class_ 576), (0, u "java/lang/CharSequence"), (22, u "CASE_INSENSITIVE_ORDER"), (0, u "Ljava/util/Comparator;"), (91, u "isEmpty"), (128, u "([BIB)V"), (188, u "([C)V"), (36, .methodref 550 493), (5, .fieldref 1054 1055), (0, .class_ 1056), (0, .nameAndType 1057 1058), (0, u "jdk/internal/util/Preconditions"), (0, u "SIOOBE_FORMATTER"), (0, u "Ljava/util/function/BiFunction;"), (0, .methodref 1054 1060), (0, .nameAndType 501 1061), (0, u "(IILjava/util/function/BiFunction;)I"), (39, u "serialPersistentFields"), (0, u "[Ljava/io/ObjectStreamField;"), (0, .class_ 1104), (0, u "java/lang/String$CaseInsensitiveComparator"), (1, .class_ 1107), (0, u "java/io/Serializable"), (0, .class_ 1109), (0, u "java/lang/Comparable"), (0, .class_ 1111), (0, u "java/lang/constant/Constable"), (0, .class_ 1113), (0, u "java/lang/constant/ConstantDesc"), (2, u "serialVersionUID"), (0, u "J"), (3, u "REPL"), (0, u "C"), (2, u "LATIN1"), (1, u "UTF16"), (105, u "(Ljava/lang/StringBuilder;)V")] 217

def k9m0 : Method := { name := "<init>", desc := "()V", sig := { parameters := [], returnType := none }, accessFlags := 1, code := none }
def k9c1 : Code := { maxStack := 5, maxLocals := 2, code := jdk_42_method_3_code, exceptionTable := #[], attributes := #[] }
def k9m1 : Method := { name := "<init>", desc := "([C)V", sig := { parameters := [(.array .char)], returnType := none }, accessFlags := 1, code := some k9c1 }
def k9c2 : Code := { maxStack := 3, maxLocals := 2, code := jdk_42_method_53_code, exceptionTable := #[], attributes := #[] }
def k9m2 : Method := { name := "<init>", desc := "(Ljava/lang/StringBuilder;)V", sig := { parameters := [(.object "java/lang/StringBuilder")], returnType := none }, accessFlags := 1, code := some k9c2 }
def k9c3 : Code := { maxStack := 2, maxLocals := 1, code := jdk_42_method_54_code, exceptionTable := #[], attributes := #[] }
def k9m3 : Method := { name := "length", desc := "()I", sig := { parameters := [], returnType := some .int }, accessFlags := 1, code := some k9c3 }
def k9c4 : Code := { maxStack := 1, maxLocals := 1, code := jdk_42_method_55_code, exceptionTable := #[], attributes := #[] }
def k9m4 : Method := { name := "isEmpty", desc := "()Z", sig := { parameters := [], returnType := some .boolean }, accessFlags := 1, code := some k9c4 }
def k9c5 : Code := { maxStack := 2, maxLocals := 2, code := jdk_42_method_56_code, exceptionTable := #[], attributes := #[] }
def k9m5 : Method := { name := "charAt", desc := "(I)C", sig := { parameters := [.int], returnType := some .char }, accessFlags := 1, code := some k9c5 }
def k9c6 : Code := { maxStack := 5, maxLocals := 4, code := jdk_42_method_147_code, exceptionTable := #[], attributes := #[] }
def k9m6 : Method := { name := "getBytes", desc := "([BIB)V", sig := { parameters := [(.array .byte), .int, .byte], returnType := none }, accessFlags := 0, code := some k9c6 }
def k9c7 : Code := { maxStack := 4, maxLocals := 6, code := jdk_42_method_149_code, exceptionTable := #[], attributes := #[] }
def k9m7 : Method := { name := "<init>", desc := "([CIILjava/lang/Void;)V", sig := { parameters := [(.array .char), .int, .int, (.object "java/lang/Void")], returnType := none }, accessFlags := 2, code := some k9c7 }
def k9c8 : Code := { maxStack := 5, maxLocals := 5, code := jdk_42_method_150_code, exceptionTable := #[], attributes := #[] }
def k9m8 : Method := { name := "<init>", desc := "(Ljava/lang/AbstractStringBuilder;Ljava/lang/Void;)V", sig := { parameters := [(.object "java/lang/AbstractStringBuilder"), (.object "java/lang/Void")], returnType := none }, accessFlags := 0, code := some k9c8 }
def k9c9 : Code := { maxStack := 2, maxLocals := 3, code := jdk_42_method_151_code, exceptionTable := #[], attributes := #[] }
def k9m9 : Method := { name := "<init>", desc := "([BB)V", sig := { parameters := [(.array .byte), .byte], returnType := none }, accessFlags := 0, code := some k9c9 }
def k9c10 : Code := { maxStack := 1, maxLocals := 1, code := jdk_42_method_152_code, exceptionTable := #[], attributes := #[] }
def k9m10 : Method := { name := "coder", desc := "()B", sig := { parameters := [], returnType := some .byte }, accessFlags := 0, code := some k9c10 }
def k9c11 : Code := { maxStack := 1, maxLocals := 1, code := jdk_42_method_154_code, exceptionTable := #[], attributes := #[] }
def k9m11 : Method := { name := "isLatin1", desc := "()Z", sig := { parameters := [], returnType := some .boolean }, accessFlags := 0, code := some k9c11 }
def k9c12 : Code := { maxStack := 3, maxLocals := 2, code := jdk_42_method_155_code, exceptionTable := #[], attributes := #[] }
def k9m12 : Method := { name := "checkIndex", desc := "(II)V", sig := { parameters := [.int, .int], returnType := none }, accessFlags := 8, code := some k9c12 }
/-- java/lang/String -/
def k9 : Class := { plain "java/lang/String" (some 0) with
  accessFlags := 49
  interfaces := #[4, 3, 7, 2, 8]
  cf := some (fileOf pool9 10 #[.nestMembers #[1103]] #[{ accessFlags := 1, nameIndex := 5, descriptorIndex := 6, attributes := #[] }, { accessFlags := 1, nameIndex := 5, descriptorIndex := 1010, attributes := #[] }, { accessFlags := 1, nameIndex := 5, descriptorIndex := 1233, attributes := #[] }, { accessFlags := 1, nameIndex := 507, descriptorIndex := 334, attributes := #[] }, { accessFlags := 1, nameIndex := 692, descriptorIndex := 142, attributes := #[] }, { accessFlags := 1, nameIndex := 497, descriptorIndex := 427, attributes := #[] }, { accessFlags := 0, nameIndex := 532, descriptorIndex := 821, attributes := #[] }, { accessFlags := 2, nameIndex := 5, descriptorIndex := 29, attributes := #[] }, { accessFlags := 0, nameIndex := 5, descriptorIndex := 491, attributes := #[] }, { accessFlags := 0, nameIndex := 5, descriptorIndex := 211, attributes := #[] }, { accessFlags := 0, nameIndex := 17, descriptorIndex := 337, attributes := #[] }, { accessFlags := 0, nameIndex := 494, descriptorIndex := 142, attributes := #[] }, { accessFlags := 8, nameIndex := 501, descriptorIndex := 391, attributes := #[] }] 49 2 #[1106, 1108, 575, 1110, 1112] #[{ accessFlags := 18, nameIndex := 13, descriptorIndex := 14, attributes := #[] }, { accessFlags := 18, nameIndex := 17, descriptorIndex := 18, attributes := #[] }, { accessFlags := 2, nameIndex := 21, descriptorIndex := 22, attributes := #[] }, { accessFlags := 2, nameIndex := 25, descriptorIndex := 26, attributes := #[] }, { accessFlags := 26, nameIndex := 1116, descriptorIndex := 1117, attributes := #[] }, { accessFlags := 24, nameIndex := 40, descriptorIndex := 26, attributes := #[] }, { accessFlags := 26, nameIndex := 1101, descriptorIndex := 1102, attributes := #[] }, { accessFlags := 26, nameIndex := 1121, descriptorIndex := 1122, attributes := #[] }, { accessFlags := 25, nameIndex := 599, descriptorIndex := 600, attributes := #[] }, { accessFlags := 24, nameIndex := 1125, descriptorIndex := 18, attributes := #[] }, { accessFlags := 24, nameIndex := 1127, descriptorIndex := 18, attributes := #[] }])
  fields := #[{ name := "value", type := (.array .byte), accessFlags := 18, slot := 0, constantValue := 0 }, { name := "coder", type := .byte, accessFlags := 18, slot := 1, constantValue := 0 }, { name := "hash", type := .int, accessFlags := 2, slot := 2, constantValue := 0 }, { name := "hashIsZero", type := .boolean, accessFlags := 2, slot := 3, constantValue := 0 }, { name := "serialVersionUID", type := .long, accessFlags := 26, slot := 0, constantValue := 0 }, { name := "COMPACT_STRINGS", type := .boolean, accessFlags := 24, slot := 1, constantValue := 0 }, { name := "serialPersistentFields", type := (.array (.object "java/io/ObjectStreamField")), accessFlags := 26, slot := 2, constantValue := 0 }, { name := "REPL", type := .char, accessFlags := 26, slot := 3, constantValue := 0 }, { name := "CASE_INSENSITIVE_ORDER", type := (.object "java/util/Comparator"), accessFlags := 25, slot := 4, constantValue := 0 }, { name := "LATIN1", type := .byte, accessFlags := 24, slot := 5, constantValue := 0 }, { name := "UTF16", type := .byte, accessFlags := 24, slot := 6, constantValue := 0 }]
  methods := #[k9m0, k9m1, k9m2, k9m3, k9m4, k9m5, k9m6, k9m7, k9m8, k9m9, k9m10, k9m11, k9m12]
  instanceTypes := #[(.array .byte), .byte, .int, .boolean]
  staticTypes := #[.long, .boolean, (.array (.object "java/io/ObjectStreamField")), .char, (.object "java/util/Comparator"), .byte, .byte]
  resolved := Array.replicate 1451 none
  statics := some 1 }

def pool10 : Array CpInfo := pool [(6, .class_ 8), (1, u "java/lang/Object"), (0, u "<init>"), (0, u "()V"), (1, .class_ 14), (1, u "java/lang/StringUTF16"), (31, u "$assertionsDisabled"), (0, u "Z"), (13, u "HI_BYTE_SHIFT"), (0, u "I"), (2, u "LO_BYTE_SHIFT"), (49, .methodref 12 116), (0, .nameAndType 117 118), (0, u "compress"), (0, u "([CI[BII)I"), (3, u "([CII)[B"), (138, u "coderFromArrayLen"), (0, u "([BI)B"), (106, .class_ 371), (1, u "java/lang/StringUTF16$LinesSpliterator"), (58, u "MAX_LENGTH"), (196, .class_ 628), (0, u "java/lang/StringUTF16$CodePointsSpliterator"), (0, .class_ 630), (0, u "java/lang/StringUTF16$CharsSpliterator")] 4

def k10m0 : Method := { name := "<init>", desc := "()V", sig := { parameters := [], returnType := none }, accessFlags := 0, code := none }
def k10c1 : Code := { maxStack := 2, maxLocals := 2, code := jdk_52_method_15_code, exceptionTable := #[], attributes := #[] }
def k10m1 : Method := { name := "coderFromArrayLen", desc := "([BI)B", sig := { parameters := [(.array .byte), .int], returnType := some .byte }, accessFlags := 8, code := some k10c1 }
def k10c2 : Code := { maxStack := 5, maxLocals := 6, code := jdk_52_method_16_code, exceptionTable := #[], attributes := #[] }
def k10m2 : Method := { name := "compress", desc := "([CII)[B", sig := { parameters := [(.array .char), .int, .int], returnType := some (.array .byte) }, accessFlags := 9, code := some k10c2 }
def k10c3 : Code := { maxStack := 3, maxLocals := 7, code := jdk_52_method_21_code, exceptionTable := #[], attributes := #[] }
def k10m3 : Method := { name := "compress", desc := "([CI[BII)I", sig := { parameters := [(.array .char), .int, (.array .byte), .int, .int], returnType := some .int }, accessFlags := 9, code := some k10c3 }
/-- java/lang/StringUTF16 -/
def k10 : Class := { plain "java/lang/StringUTF16" (some 0) with
  accessFlags := 48
  interfaces := #[]
  cf := some (fileOf pool10 12 #[.nestMembers #[627, 629, 369]] #[{ accessFlags := 0, nameIndex := 9, descriptorIndex := 10, attributes := #[] }, { accessFlags := 8, nameIndex := 261, descriptorIndex := 262, attributes := #[] }, { accessFlags := 9, nameIndex := 117, descriptorIndex := 122, attributes := #[] }, { accessFlags := 9, nameIndex := 117, descriptorIndex := 118, attributes := #[] }] 48 6 #[] #[{ accessFlags := 26, nameIndex := 61, descriptorIndex := 62, attributes := #[] }, { accessFlags := 26, nameIndex := 65, descriptorIndex := 62, attributes := #[] }, { accessFlags := 24, nameIndex := 430, descriptorIndex := 62, attributes := #[] }, { accessFlags := 4120, nameIndex := 46, descriptorIndex := 47, attributes := #[] }])
  fields := #[{ name := "HI_BYTE_SHIFT", type := .int, accessFlags := 26, slot := 0, constantValue := 0 }, { name := "LO_BYTE_SHIFT", type := .int, accessFlags := 26, slot := 1, constantValue := 0 }, { name := "MAX_LENGTH", type := .int, accessFlags := 24, slot := 2, constantValue := 0 }, { name := "$assertionsDisabled", type := .boolean, accessFlags := 4120, slot := 3, constantValue := 0 }]
  methods := #[k10m0, k10m1, k10m2, k10m3]
  instanceTypes := #[]
  staticTypes := #[.int, .int, .int, .boolean]
  resolved := Array.replicate 635 none
  statics := none }

def pool11 : Array CpInfo := pool [(1, .methodref 2 3), (0, .class_ 4), (0, .nameAndType 5 6), (0, u "java/lang/Object"), (0, u "<init>"), (0, u "()V"), (0, .class_ 8), (0, u "java/lang/Record")] 13

def k11c0 : Code := { maxStack := 1, maxLocals := 1, code := jdk_30_method_1_code, exceptionTable := #[], attributes := #[] }
def k11m0 : Method := { name := "<init>", desc := "()V", sig := { parameters := [], returnType := none }, accessFlags := 4, code := some k11c0 }
/-- java/lang/Record -/
def k11 : Class := { plain "java/lang/Record" (some 0) with
  accessFlags := 1057
  interfaces := #[]
  cf := some (fileOf pool11 7 #[] #[{ accessFlags := 4, nameIndex := 5, descriptorIndex := 6, attributes := #[] }] 1057 2 #[] #[])
  fields := #[]
  methods := #[k11m0]
  instanceTypes := #[]
  staticTypes := #[]
  resolved := Array.replicate 22 none
  statics := none }

def pool12 : Array CpInfo := pool [(1, .methodref 2 3), (0, .class_ 4), (0, .nameAndType 5 6), (0, u "java/lang/Record"), (0, u "<init>"), (0, u "()V"), (0, .string 8), (0, u "kind"), (0, .methodref 10 11), (0, .class_ 12), (0, .nameAndType 13 14), (0, u "java/util/Objects"), (0, u "requireNonNull"), (0, u "(Ljava/lang/Object;Ljava/lang/String;)Ljava/lang/Object;"), (0, .methodref 16 17), (0, .class_ 18), (0, .nameAndType 19 20), (0, u "com/example/interleave/interleave/core/Operation"), (0, u "fault"), (0, u "(Lcom/example/interleave/interleave/core/Operation$Kind;ILjava/lang/String;)Ljava/lang/String;"), (5, .fieldref 16 27), (0, .nameAndType 8 28), (0, u "Lcom/example/interleave/interleave/core/Operation$Kind;"), (0, .fieldref 16 30), (0, .nameAndType 31 32), (0, u "transaction"), (0, u "I"), (0, .fieldref 16 34), (0, .nameAndType 35 36), (0, u "item"), (0, u "Ljava/lang/String;"), (2, .methodref 40 41), (0, .class_ 42), (0, .nameAndType 43 44), (0, u "java/lang/String"), (0, u "isEmpty"), (0, u "()Z"), (2, .methodref 40 48), (0, .nameAndType 49 50), (0, u "charAt"), (0, u "(I)C"), (4, .class_ 56), (0, u "java/lang/StringBuilder"), (0, .methodref 55 3), (2, .methodref 55 61), (0, .nameAndType 62 63), (0, u "append"), (0, u "(Ljava/lang/String;)Ljava/lang/StringBuilder;"), (6, .nameAndType 72 73), (1, u "toString"), (0, u "(I)Ljava/lang/String;"), (2, .methodref 55 77), (0, .nameAndType 72 78), (0, u "()Ljava/lang/String;"), (4, .methodref 40 84), (0, .nameAndType 85 86), (0, u "length"), (0, u "()I"), (0, .methodref 16 88), (0, .nameAndType 89 90), (0, u "isAsciiDigit"), (0, u "(C)Z"), (2, .class_ 94), (0, u "java/lang/Integer"), (14, .methodref 110 111), (0, .class_ 112), (0, .nameAndType 113 44), (0, u "com/example/interleave/interleave/core/Operation$Kind"), (0, u "onItem"), (24, u "(Lcom/example/interleave/interleave/core/Operation$Kind;ILjava/lang/String;)V"), (3, .methodref 110 143), (0, .nameAndType 144 145), (0, u "letter"), (0, u "()C"), (0, .methodref 55 147), (0, .nameAndType 62 148), (0, u "(C)Ljava/lang/StringBuilder;"), (0, .methodref 93 70), (22, .methodref 16 173), (0, .nameAndType 174 175), (0, u "itemFault"), (0, u "(Ljava/lang/String;)Ljava/lang/String;"), (4, .methodref 16 181), (0, .nameAndType 182 90), (0, u "isAsciiLetter")] 52

def k12c0 : Code := { maxStack := 3, maxLocals := 5, code := prog_23_method_1_code, exceptionTable := #[], attributes := #[] }
def k12m0 : Method := { name := "<init>", desc := "(Lcom/example/interleave/interleave/core/Operation$Kind;ILjava/lang/String;)V", sig := { parameters := [(.object "com/example/interleave/interleave/core/Operation$Kind"), .int, (.object "java/lang/String")], returnType := none }, accessFlags := 1, code := some k12c0 }
def k12c1 : Code := { maxStack := 2, maxLocals := 2, code := prog_23_method_3_code, exceptionTable := #[], attributes := #[] }
def k12m1 : Method := { name := "toString", desc := "()Ljava/lang/String;", sig := { parameters := [], returnType := some (.object "java/lang/String") }, accessFlags := 1, code := some k12c1 }
def k12c2 : Code := { maxStack := 3, maxLocals := 4, code := prog_23_method_4_code, exceptionTable := #[], attributes := #[] }
def k12m2 : Method := { name := "fault", desc := "(Lcom/example/interleave/interleave/core/Operation$Kind;ILjava/lang/String;)Ljava/lang/String;", sig := { parameters := [(.object "com/example/interleave/interleave/core/Operation$Kind"), .int, (.object "java/lang/String")], returnType := some (.object "java/lang/String") }, accessFlags := 10, code := some k12c2 }
def k12c3 : Code := { maxStack := 3, maxLocals := 3, code := prog_23_method_5_code, exceptionTable := #[], attributes := #[] }
def k12m3 : Method := { name := "itemFault", desc := "(Ljava/lang/String;)Ljava/lang/String;", sig := { parameters := [(.object "java/lang/String")], returnType := some (.object "java/lang/String") }, accessFlags := 10, code := some k12c3 }
def k12c4 : Code := { maxStack := 2, maxLocals := 1, code := prog_23_method_8_code, exceptionTable := #[], attributes := #[] }
def k12m4 : Method := { name := "isAsciiLetter", desc := "(C)Z", sig := { parameters := [.char], returnType := some .boolean }, accessFlags := 10, code := some k12c4 }
def k12c5 : Code := { maxStack := 2, maxLocals := 1, code := prog_23_method_9_code, exceptionTable := #[], attributes := #[] }
def k12m5 : Method := { name := "isAsciiDigit", desc := "(C)Z", sig := { parameters := [.char], returnType := some .boolean }, accessFlags := 10, code := some k12c5 }
/-- com/example/interleave/interleave/core/Operation -/
def k12 : Class := { plain "com/example/interleave/interleave/core/Operation" (some 11) with
  accessFlags := 49
  interfaces := #[]
  cf := some (fileOf pool12 16 #[.nestMembers #[110]] #[{ accessFlags := 1, nameIndex := 5, descriptorIndex := 138, attributes := #[] }, { accessFlags := 1, nameIndex := 72, descriptorIndex := 78, attributes := #[] }, { accessFlags := 10, nameIndex := 19, descriptorIndex := 20, attributes := #[] }, { accessFlags := 10, nameIndex := 174, descriptorIndex := 175, attributes := #[] }, { accessFlags := 10, nameIndex := 182, descriptorIndex := 90, attributes := #[] }, { accessFlags := 10, nameIndex := 89, descriptorIndex := 90, attributes := #[] }] 49 2 #[] #[{ accessFlags := 18, nameIndex := 8, descriptorIndex := 28, attributes := #[] }, { accessFlags := 18, nameIndex := 31, descriptorIndex := 32, attributes := #[] }, { accessFlags := 18, nameIndex := 35, descriptorIndex := 36, attributes := #[] }])
  fields := #[{ name := "kind", type := (.object "com/example/interleave/interleave/core/Operation$Kind"), accessFlags := 18, slot := 0, constantValue := 0 }, { name := "transaction", type := .int, accessFlags := 18, slot := 1, constantValue := 0 }, { name := "item", type := (.object "java/lang/String"), accessFlags := 18, slot := 2, constantValue := 0 }]
  methods := #[k12m0, k12m1, k12m2, k12m3, k12m4, k12m5]
  instanceTypes := #[(.object "com/example/interleave/interleave/core/Operation$Kind"), .int, (.object "java/lang/String")]
  staticTypes := #[]
  resolved := Array.replicate 235 none
  statics := none }

def pool13 : Array CpInfo := pool [(2, .class_ 4), (1, u "java/lang/Object"), (0, u "<init>"), (0, u "()V"), (35, .class_ 44), (1, u "java/util/Objects"), (0, u "requireNonNull"), (48, u "(Ljava/lang/Object;Ljava/lang/String;)Ljava/lang/Object;")] 89

def k13m0 : Method := { name := "<init>", desc := "()V", sig := { parameters := [], returnType := none }, accessFlags := 2, code := none }
def k13c1 : Code := { maxStack := 3, maxLocals := 2, code := jdk_31_method_11_code, exceptionTable := #[], attributes := #[] }
def k13m1 : Method := { name := "requireNonNull", desc := "(Ljava/lang/Object;Ljava/lang/String;)Ljava/lang/Object;", sig := { parameters := [(.object "java/lang/Object"), (.object "java/lang/String")], returnType := some (.object "java/lang/Object") }, accessFlags := 9, code := some k13c1 }
/-- java/util/Objects -/
def k13 : Class := { plain "java/util/Objects" (some 0) with
  accessFlags := 49
  interfaces := #[]
  cf := some (fileOf pool13 42 #[] #[{ accessFlags := 2, nameIndex := 5, descriptorIndex := 6, attributes := #[] }, { accessFlags := 9, nameIndex := 45, descriptorIndex := 94, attributes := #[] }] 49 2 #[] #[])
  fields := #[]
  methods := #[k13m0, k13m1]
  instanceTypes := #[]
  staticTypes := #[]
  resolved := Array.replicate 184 none
  statics := none }

def pool14 : Array CpInfo := pool [(1, .class_ 2), (0, u "java/lang/String"), (1, .class_ 6), (1, u "java/lang/Object"), (0, u "<init>"), (0, u "()V"), (0, .methodref 1 10), (0, .nameAndType 11 12), (0, u "checkIndex"), (0, u "(II)V"), (1, .class_ 16), (1, u "java/lang/StringLatin1"), (36, u "([BI)C"), (36, u "canEncode"), (14, u "(C)Z"), (15, u "$assertionsDisabled"), (0, u "Z"), (98, .class_ 223), (1, u "java/lang/StringLatin1$LinesSpliterator"), (28, u "charAt"), (137, .class_ 391), (0, u "java/lang/StringLatin1$CharsSpliterator")] 3

def k14m0 : Method := { name := "<init>", desc := "()V", sig := { parameters := [], returnType := none }, accessFlags := 0, code := none }
def k14c1 : Code := { maxStack := 2, maxLocals := 2, code := jdk_43_method_2_code, exceptionTable := #[], attributes := #[] }
def k14m1 : Method := { name := "charAt", desc := "([BI)C", sig := { parameters := [(.array .byte), .int], returnType := some .char }, accessFlags := 9, code := some k14c1 }
def k14c2 : Code := { maxStack := 2, maxLocals := 1, code := jdk_43_method_3_code, exceptionTable := #[], attributes := #[] }
def k14m2 : Method := { name := "canEncode", desc := "(C)Z", sig := { parameters := [.char], returnType := some .boolean }, accessFlags := 9, code := some k14c2 }
/-- java/lang/StringLatin1 -/
def k14 : Class := { plain "java/lang/StringLatin1" (some 0) with
  accessFlags := 48
  interfaces := #[]
  cf := some (fileOf pool14 14 #[.nestMembers #[390, 221]] #[{ accessFlags := 0, nameIndex := 7, descriptorIndex := 8, attributes := #[] }, { accessFlags := 9, nameIndex := 252, descriptorIndex := 53, attributes := #[] }, { accessFlags := 9, nameIndex := 90, descriptorIndex := 105, attributes := #[] }] 48 4 #[] #[{ accessFlags := 4120, nameIndex := 121, descriptorIndex := 122, attributes := #[] }])
  fields := #[{ name := "$assertionsDisabled", type := .boolean, accessFlags := 4120, slot := 0, constantValue := 0 }]
  methods := #[k14m0, k14m1, k14m2]
  instanceTypes := #[]
  staticTypes := #[.boolean]
  resolved := Array.replicate 395 none
  statics := none }

def pool15 : Array CpInfo := pool [(2, .class_ 4), (1, u "java/lang/Object"), (0, u "<init>"), (0, u "()V"), (17, .class_ 26), (1, u "jdk/internal/util/Preconditions"), (6, u "checkIndex"), (21, .class_ 56), (0, u "jdk/internal/util/Preconditions$4"), (57, .class_ 115), (0, u "jdk/internal/util/Preconditions$1"), (7, u "SIOOBE_FORMATTER"), (0, u "Ljava/util/function/BiFunction;"), (0, .class_ 126), (0, u "jdk/internal/util/Preconditions$2"), (3, u "AIOOBE_FORMATTER"), (0, .class_ 132), (0, u "jdk/internal/util/Preconditions$3"), (3, u "IOOBE_FORMATTER"), (41, u "(IILjava/util/function/BiFunction;)I")] 15

def k15m0 : Method := { name := "<init>", desc := "()V", sig := { parameters := [], returnType := none }, accessFlags := 1, code := none }
def k15c1 : Code := { maxStack := 3, maxLocals := 3, code := jdk_41_method_11_code, exceptionTable := #[], attributes := #[] }
def k15m1 : Method := { name := "checkIndex", desc := "(IILjava/util/function/BiFunction;)I", sig := { parameters := [.int, .int, (.object "java/util/function/BiFunction")], returnType := some .int }, accessFlags := 9, code := some k15c1 }
/-- jdk/internal/util/Preconditions -/
def k15 : Class := { plain "jdk/internal/util/Preconditions" (some 0) with
  accessFlags := 33
  interfaces := #[]
  cf := some (fileOf pool15 24 #[.nestMembers #[55, 131, 125, 114]] #[{ accessFlags := 1, nameIndex := 5, descriptorIndex := 6, attributes := #[] }, { accessFlags := 9, nameIndex := 33, descriptorIndex := 178, attributes := #[] }] 33 2 #[] #[{ accessFlags := 25, nameIndex := 123, descriptorIndex := 124, attributes := #[] }, { accessFlags := 25, nameIndex := 130, descriptorIndex := 124, attributes := #[] }, { accessFlags := 25, nameIndex := 136, descriptorIndex := 124, attributes := #[] }])
  fields := #[{ name := "SIOOBE_FORMATTER", type := (.object "java/util/function/BiFunction"), accessFlags := 25, slot := 0, constantValue := 0 }, { name := "AIOOBE_FORMATTER", type := (.object "java/util/function/BiFunction"), accessFlags := 25, slot := 1, constantValue := 0 }, { name := "IOOBE_FORMATTER", type := (.object "java/util/function/BiFunction"), accessFlags := 25, slot := 2, constantValue := 0 }]
  methods := #[k15m0, k15m1]
  instanceTypes := #[]
  staticTypes := #[(.object "java/util/function/BiFunction"), (.object "java/util/function/BiFunction"), (.object "java/util/function/BiFunction")]
  resolved := Array.replicate 194 none
  statics := some 2 }

def pool16 : Array CpInfo := pool [(1, .class_ 2), (0, u "java/lang/Appendable"), (0, .class_ 4), (0, u "java/lang/Object")] 9

/-- java/lang/Appendable -/
def k16 : Class := { plain "java/lang/Appendable" (some 0) with
  accessFlags := 1537
  interfaces := #[]
  cf := some (fileOf pool16 1 #[] #[] 1537 3 #[] #[])
  fields := #[]
  methods := #[]
  instanceTypes := #[]
  staticTypes := #[]
  resolved := Array.replicate 14 none
  statics := none }

def pool17 : Array CpInfo := pool [(1, .class_ 2), (0, u "java/lang/String"), (0, .methodref 4 5), (0, .class_ 6), (0, .nameAndType 7 8), (0, u "java/lang/Object"), (0, u "<init>"), (0, u "()V"), (1, .class_ 12), (1, u "java/lang/AbstractStringBuilder"), (0, u "EMPTYVALUE"), (0, u "[B"), (0, .fieldref 10 16), (0, .nameAndType 17 14), (0, u "value"), (0, .fieldref 1 19), (0, .nameAndType 20 21), (0, u "COMPACT_STRINGS"), (0, u "Z"), (0, .fieldref 10 23), (0, .nameAndType 24 25), (0, u "coder"), (0, u "B"), (6, .methodref 1 33), (0, .nameAndType 34 35), (0, u "length"), (0, u "()I"), (3, .integer 2147483647), (0, .methodref 1 41), (0, .nameAndType 24 42), (0, u "()B"), (2, u "append"), (0, u "(Ljava/lang/String;)Ljava/lang/AbstractStringBuilder;"), (1, .class_ 49), (0, u "java/lang/CharSequence"), (19, u "(Ljava/lang/String;)V"), (5, u "maybeLatin1"), (3, .fieldref 10 80), (0, .nameAndType 81 82), (0, u "count"), (0, u "I"), (0, .methodref 10 84), (0, .nameAndType 85 86), (0, u "isLatin1"), (0, u "()Z"), (1, .class_ 90), (1, u "java/lang/StringLatin1"), (9, .methodref 10 101), (0, .nameAndType 102 103), (0, u "ensureCapacityInternal"), (0, u "(I)V"), (0, .methodref 10 105), (0, .nameAndType 106 107), (0, u "newCapacity"), (0, u "(I)I"), (0, .methodref 109 110), (0, .class_ 111), (0, .nameAndType 112 113), (0, u "java/util/Arrays"), (0, u "copyOf"), (0, u "([BI)[B"), (0, .methodref 115 116), (0, .class_ 117), (0, .nameAndType 118 119), (0, u "jdk/internal/util/ArraysSupport"), (0, u "newLength"), (0, u "(III)I"), (71, .methodref 88 192), (0, .nameAndType 193 194), (0, u "canEncode"), (0, u "(C)Z"), (13, .methodref 10 209), (0, .nameAndType 210 211), (0, u "putStringAt"), (0, u "(ILjava/lang/String;)V"), (5, u "inflateIfNeededFor"), (2, .nameAndType 221 222), (0, u "getBytes"), (0, u "([BIB)V"), (69, u "(C)Ljava/lang/AbstractStringBuilder;"), (104, .methodref 10 398), (0, .nameAndType 217 69), (0, .methodref 1 220), (3, u "()[B"), (40, .class_ 445), (0, u "java/lang/Appendable"), (106, u "getValue")] 56

def k17m0 : Method := { name := "<init>", desc := "()V", sig := { parameters := [], returnType := none }, accessFlags := 0, code := none }
def k17c1 : Code := { maxStack := 2, maxLocals := 2, code := jdk_68_method_2_code, exceptionTable := #[], attributes := #[] }
def k17m1 : Method := { name := "<init>", desc := "(I)V", sig := { parameters := [.int], returnType := none }, accessFlags := 0, code := some k17c1 }
def k17c2 : Code := { maxStack := 1, maxLocals := 1, code := jdk_68_method_6_code, exceptionTable := #[], attributes := #[] }
def k17m2 : Method := { name := "length", desc := "()I", sig := { parameters := [], returnType := some .int }, accessFlags := 1, code := some k17c2 }
def k17c3 : Code := { maxStack := 4, maxLocals := 3, code := jdk_68_method_9_code, exceptionTable := #[], attributes := #[] }
def k17m3 : Method := { name := "ensureCapacityInternal", desc := "(I)V", sig := { parameters := [.int], returnType := none }, accessFlags := 2, code := some k17c3 }
def k17c4 : Code := { maxStack := 5, maxLocals := 6, code := jdk_68_method_10_code, exceptionTable := #[], attributes := #[] }
def k17m4 : Method := { name := "newCapacity", desc := "(I)I", sig := { parameters := [.int], returnType := some .int }, accessFlags := 2, code := some k17c4 }
def k17c5 : Code := { maxStack := 3, maxLocals := 3, code := jdk_68_method_22_code, exceptionTable := #[], attributes := #[] }
def k17m5 : Method := { name := "append", desc := "(Ljava/lang/String;)Ljava/lang/AbstractStringBuilder;", sig := { parameters := [(.object "java/lang/String")], returnType := some (.object "java/lang/AbstractStringBuilder") }, accessFlags := 1, code := some k17c5 }
def k17c6 : Code := { maxStack := 5, maxLocals := 2, code := jdk_68_method_31_code, exceptionTable := #[], attributes := #[] }
def k17m6 : Method := { name := "append", desc := "(C)Ljava/lang/AbstractStringBuilder;", sig := { parameters := [.char], returnType := some (.object "java/lang/AbstractStringBuilder") }, accessFlags := 1, code := some k17c6 }
def k17c7 : Code := { maxStack := 1, maxLocals := 1, code := jdk_68_method_64_code, exceptionTable := #[], attributes := #[] }
def k17m7 : Method := { name := "getValue", desc := "()[B", sig := { parameters := [], returnType := some (.array .byte) }, accessFlags := 16, code := some k17c7 }
def k17c8 : Code := { maxStack := 1, maxLocals := 1, code := jdk_68_method_68_code, exceptionTable := #[], attributes := #[] }
def k17m8 : Method := { name := "isLatin1", desc := "()Z", sig := { parameters := [], returnType := some .boolean }, accessFlags := 16, code := some k17c8 }
def k17c9 : Code := { maxStack := 2, maxLocals := 2, code := jdk_68_method_71_code, exceptionTable := #[], attributes := #[] }
def k17m9 : Method := { name := "inflateIfNeededFor", desc := "(Ljava/lang/String;)V", sig := { parameters := [(.object "java/lang/String")], returnType := none }, accessFlags := 2, code := some k17c9 }
def k17c10 : Code := { maxStack := 4, maxLocals := 3, code := jdk_68_method_73_code, exceptionTable := #[], attributes := #[] }
def k17m10 : Method := { name := "putStringAt", desc := "(ILjava/lang/String;)V", sig := { parameters := [.int, (.object "java/lang/String")], returnType := none }, accessFlags := 2, code := some k17c10 }
/-- java/lang/AbstractStringBuilder -/
def k17 : Class := { plain "java/lang/AbstractStringBuilder" (some 0) with
  accessFlags := 1056
  interfaces := #[16, 7]
  cf := some (fileOf pool17 10 #[] #[{ accessFlags := 0, nameIndex := 7, descriptorIndex := 8, attributes := #[] }, { accessFlags := 0, nameIndex := 7, descriptorIndex := 103, attributes := #[] }, { accessFlags := 1, nameIndex := 34, descriptorIndex := 35, attributes := #[] }, { accessFlags := 2, nameIndex := 102, descriptorIndex := 103, attributes := #[] }, { accessFlags := 2, nameIndex := 106, descriptorIndex := 107, attributes := #[] }, { accessFlags := 1, nameIndex := 45, descriptorIndex := 46, attributes := #[] }, { accessFlags := 1, nameIndex := 45, descriptorIndex := 292, attributes := #[] }, { accessFlags := 16, nameIndex := 552, descriptorIndex := 403, attributes := #[] }, { accessFlags := 16, nameIndex := 85, descriptorIndex := 86, attributes := #[] }, { accessFlags := 2, nameIndex := 217, descriptorIndex := 69, attributes := #[] }, { accessFlags := 2, nameIndex := 210, descriptorIndex := 211, attributes := #[] }] 1056 4 #[444, 48] #[{ accessFlags := 0, nameIndex := 17, descriptorIndex := 14, attributes := #[] }, { accessFlags := 0, nameIndex := 24, descriptorIndex := 25, attributes := #[] }, { accessFlags := 0, nameIndex := 75, descriptorIndex := 21, attributes := #[] }, { accessFlags := 0, nameIndex := 81, descriptorIndex := 82, attributes := #[] }, { accessFlags := 26, nameIndex := 13, descriptorIndex := 14, attributes := #[] }])
  fields := #[{ name := "value", type := (.array .byte), accessFlags := 0, slot := 0, constantValue := 0 }, { name := "coder", type := .byte, accessFlags := 0, slot := 1, constantValue := 0 }, { name := "maybeLatin1", type := .boolean, accessFlags := 0, slot := 2, constantValue := 0 }, { name := "count", type := .int, accessFlags := 0, slot := 3, constantValue := 0 }, { name := "EMPTYVALUE", type := (.array .byte), accessFlags := 26, slot := 0, constantValue := 0 }]
  methods := #[k17m0, k17m1, k17m2, k17m3, k17m4, k17m5, k17m6, k17m7, k17m8, k17m9, k17m10]
  instanceTypes := #[(.array .byte), .byte, .boolean, .int]
  staticTypes := #[(.array .byte)]
  resolved := Array.replicate 609 none
  statics := none }

def pool18 : Array CpInfo := pool [(1, .methodref 2 3), (0, .class_ 4), (0, .nameAndType 5 6), (0, u "java/lang/AbstractStringBuilder"), (0, u "<init>"), (0, u "(I)V"), (11, .class_ 20), (1, u "java/lang/String"), (3, .class_ 26), (1, u "java/lang/StringBuilder"), (0, u "append"), (0, u "(Ljava/lang/String;)Ljava/lang/StringBuilder;"), (0, .methodref 2 30), (0, .nameAndType 27 31), (0, u "(Ljava/lang/String;)Ljava/lang/AbstractStringBuilder;"), (18, .methodref 2 51), (0, .nameAndType 27 52), (0, u "(C)Ljava/lang/AbstractStringBuilder;"), (84, .methodref 18 138), (0, .nameAndType 5 139), (0, u "(Ljava/lang/StringBuilder;)V"), (5, u "()V"), (10, u "()I"), (129, u "(C)Ljava/lang/StringBuilder;"), (56, .methodref 2 344), (0, .nameAndType 345 156), (0, u "length"), (3, .class_ 350), (0, u "java/lang/Appendable"), (0, .class_ 352), (0, u "java/io/Serializable"), (0, .class_ 354), (0, u "java/lang/Comparable"), (0, .class_ 356), (0, u "java/lang/CharSequence"), (0, u "serialVersionUID"), (0, u "J"), (40, u "toString"), (0, u "()Ljava/lang/String;")] 21

def k18c0 : Code := { maxStack := 2, maxLocals := 1, code := jdk_67_method_1_code, exceptionTable := #[], attributes := #[] }
def k18m0 : Method := { name := "<init>", desc := "()V", sig := { parameters := [], returnType := none }, accessFlags := 1, code := some k18c0 }
def k18c1 : Code := { maxStack := 2, maxLocals := 2, code := jdk_67_method_7_code, exceptionTable := #[], attributes := #[] }
def k18m1 : Method := { name := "append", desc := "(Ljava/lang/String;)Ljava/lang/StringBuilder;", sig := { parameters := [(.object "java/lang/String")], returnType := some (.object "java/lang/StringBuilder") }, accessFlags := 1, code := some k18c1 }
def k18c2 : Code := { maxStack := 2, maxLocals := 2, code := jdk_67_method_14_code, exceptionTable := #[], attributes := #[] }
def k18m2 : Method := { name := "append", desc := "(C)Ljava/lang/StringBuilder;", sig := { parameters := [.char], returnType := some (.object "java/lang/StringBuilder") }, accessFlags := 1, code := some k18c2 }
def k18c3 : Code := { maxStack := 3, maxLocals := 1, code := jdk_67_method_42_code, exceptionTable := #[], attributes := #[] }
def k18m3 : Method := { name := "toString", desc := "()Ljava/lang/String;", sig := { parameters := [], returnType := some (.object "java/lang/String") }, accessFlags := 1, code := some k18c3 }
def k18c4 : Code := { maxStack := 1, maxLocals := 1, code := jdk_67_method_93_code, exceptionTable := #[], attributes := #[] }
def k18m4 : Method := { name := "length", desc := "()I", sig := { parameters := [], returnType := some .int }, accessFlags := 4161, code := some k18c4 }
/-- java/lang/StringBuilder -/
def k18 : Class := { plain "java/lang/StringBuilder" (some 17) with
  accessFlags := 49
  interfaces := #[16, 4, 3, 7]
  cf := some (fileOf pool18 24 #[] #[{ accessFlags := 1, nameIndex := 5, descriptorIndex := 145, attributes := #[] }, { accessFlags := 1, nameIndex := 27, descriptorIndex := 28, attributes := #[] }, { accessFlags := 1, nameIndex := 27, descriptorIndex := 286, attributes := #[] }, { accessFlags := 1, nameIndex := 399, descriptorIndex := 400, attributes := #[] }, { accessFlags := 4161, nameIndex := 345, descriptorIndex := 156, attributes := #[] }] 49 2 #[349, 351, 353, 355] #[{ accessFlags := 24, nameIndex := 357, descriptorIndex := 358, attributes := #[] }])
  fields := #[{ name := "serialVersionUID", type := .long, accessFlags := 24, slot := 0, constantValue := 0 }]
  methods := #[k18m0, k18m1, k18m2, k18m3, k18m4]
  instanceTypes := #[(.array .byte), .byte, .boolean, .int]
  staticTypes := #[.long]
  resolved := Array.replicate 422 none
  statics := none }

def pool19 : Array CpInfo := pool [(2, .class_ 4), (1, u "java/lang/Object"), (0, u "<init>"), (0, u "()V"), (1, .class_ 10), (1, u "java/lang/Number"), (2, .class_ 14), (0, u "java/io/Serializable"), (0, u "serialVersionUID"), (0, u "J")] 20

def k19m0 : Method := { name := "<init>", desc := "()V", sig := { parameters := [], returnType := none }, accessFlags := 1, code := none }
/-- java/lang/Number -/
def k19 : Class := { plain "java/lang/Number" (some 0) with
  accessFlags := 1057
  interfaces := #[4]
  cf := some (fileOf pool19 8 #[] #[{ accessFlags := 1, nameIndex := 5, descriptorIndex := 6, attributes := #[] }] 1057 2 #[13] #[{ accessFlags := 26, nameIndex := 15, descriptorIndex := 16, attributes := #[] }])
  fields := #[{ name := "serialVersionUID", type := .long, accessFlags := 26, slot := 0, constantValue := 0 }]
  methods := #[k19m0]
  instanceTypes := #[]
  staticTypes := #[.long]
  resolved := Array.replicate 37 none
  statics := none }

def pool20 : Array CpInfo := pool [(1, .class_ 2), (0, u "java/lang/Integer"), (2, .class_ 6), (0, u "java/lang/String"), (4, u "toString"), (0, u "(I)Ljava/lang/String;"), (0, .fieldref 5 14), (0, .nameAndType 15 16), (0, u "COMPACT_STRINGS"), (0, u "Z"), (2, u "digits"), (0, u "[C"), (33, u "(I)I"), (10, .methodref 5 66), (0, .nameAndType 67 68), (0, u "<init>"), (0, u "([BB)V"), (3, .methodref 1 73), (0, .nameAndType 74 54), (0, u "stringSize"), (0, .methodref 1 76), (0, .nameAndType 77 78), (0, u "getChars"), (0, u "(II[B)I"), (4, .fieldref 1 84), (0, .nameAndType 85 86), (0, u "DigitOnes"), (0, u "[B"), (0, .fieldref 1 88), (0, .nameAndType 89 86), (0, u "DigitTens"), (99, .class_ 190), (0, u "java/lang/Integer$IntegerCache"), (3, u "I"), (8, .class_ 204), (0, u "java/lang/Number"), (2, u "value"), (94, u "TYPE"), (0, u "Ljava/lang/Class;"), (0, .class_ 305), (0, u "java/lang/Comparable"), (0, .class_ 307), (0, u "java/lang/constant/Constable"), (0, .class_ 309), (0, u "java/lang/constant/ConstantDesc"), (0, u "MIN_VALUE"), (1, u "MAX_VALUE"), (3, u "SIZE"), (1, u "BYTES"), (1, u "serialVersionUID"), (0, u "J")] 131

def k20c0 : Code := { maxStack := 4, maxLocals := 3, code := jdk_33_method_10_code, exceptionTable := #[], attributes := #[] }
def k20m0 : Method := { name := "toString", desc := "(I)Ljava/lang/String;", sig := { parameters := [.int], returnType := some (.object "java/lang/String") }, accessFlags := 9, code := some k20c0 }
def k20c1 : Code := { maxStack := 4, maxLocals := 7, code := jdk_33_method_12_code, exceptionTable := #[], attributes := #[] }
def k20m1 : Method := { name := "getChars", desc := "(II[B)I", sig := { parameters := [.int, .int, (.array .byte)], returnType := some .int }, accessFlags := 8, code := some k20c1 }
def k20c2 : Code := { maxStack := 2, maxLocals := 4, code := jdk_33_method_13_code, exceptionTable := #[], attributes := #[] }
def k20m2 : Method := { name := "stringSize", desc := "(I)I", sig := { parameters := [.int], returnType := some .int }, accessFlags := 8, code := some k20c2 }
/-- java/lang/Integer -/
def k20 : Class := { plain "java/lang/Integer" (some 19) with
  accessFlags := 49
  interfaces := #[3, 2, 8]
  cf := some (fileOf pool20 1 #[.nestMembers #[189]] #[{ accessFlags := 9, nameIndex := 11, descriptorIndex := 12, attributes := #[] }, { accessFlags := 8, nameIndex := 77, descriptorIndex := 78, attributes := #[] }, { accessFlags := 8, nameIndex := 74, descriptorIndex := 54, attributes := #[] }] 49 203 #[304, 306, 308] #[{ accessFlags := 25, nameIndex := 310, descriptorIndex := 194, attributes := #[] }, { accessFlags := 25, nameIndex := 312, descriptorIndex := 194, attributes := #[] }, { accessFlags := 25, nameIndex := 302, descriptorIndex := 303, attributes := #[] }, { accessFlags := 24, nameIndex := 19, descriptorIndex := 20, attributes := #[] }, { accessFlags := 24, nameIndex := 89, descriptorIndex := 86, attributes := #[] }, { accessFlags := 24, nameIndex := 85, descriptorIndex := 86, attributes := #[] }, { accessFlags := 18, nameIndex := 207, descriptorIndex := 194, attributes := #[] }, { accessFlags := 25, nameIndex := 316, descriptorIndex := 194, attributes := #[] }, { accessFlags := 25, nameIndex := 318, descriptorIndex := 194, attributes := #[] }, { accessFlags := 26, nameIndex := 320, descriptorIndex := 321, attributes := #[] }])
  fields := #[{ name := "MIN_VALUE", type := .int, accessFlags := 25, slot := 0, constantValue := 0 }, { name := "MAX_VALUE", type := .int, accessFlags := 25, slot := 1, constantValue := 0 }, { name := "TYPE", type := (.object "java/lang/Class"), accessFlags := 25, slot := 2, constantValue := 0 }, { name := "digits", type := (.array .char), accessFlags := 24, slot := 3, constantValue := 0 }, { name := "DigitTens", type := (.array .byte), accessFlags := 24, slot := 4, constantValue := 0 }, { name := "DigitOnes", type := (.array .byte), accessFlags := 24, slot := 5, constantValue := 0 }, { name := "value", type := .int, accessFlags := 18, slot := 0, constantValue := 0 }, { name := "SIZE", type := .int, accessFlags := 25, slot := 6, constantValue := 0 }, { name := "BYTES", type := .int, accessFlags := 25, slot := 7, constantValue := 0 }, { name := "serialVersionUID", type := .long, accessFlags := 26, slot := 8, constantValue := 0 }]
  methods := #[k20m0, k20m1, k20m2]
  instanceTypes := #[.int]
  staticTypes := #[.int, .int, (.object "java/lang/Class"), (.array .char), (.array .byte), (.array .byte), .int, .int, .long]
  resolved := Array.replicate 453 none
  statics := some 3 }

def pool21 : Array CpInfo := pool [(2, .class_ 4), (1, u "java/lang/Object"), (0, u "<init>"), (0, u "()V"), (1, .class_ 10), (1, u "java/lang/System"), (0, u "allowSecurityManager"), (0, u "I"), (16, u "cons"), (0, u "Ljava/io/Console;"), (77, .class_ 110), (1, u "java/lang/System$CallersHolder"), (43, u "initialErrStream"), (0, u "Ljava/io/PrintStream;"), (19, u "security"), (0, u "Ljava/lang/SecurityManager;"), (31, .class_ 209), (0, u "java/lang/System$1"), (7, u "props"), (0, u "Ljava/util/Properties;"), (2, u "lineSeparator"), (0, u "Ljava/lang/String;"), (96, .class_ 321), (1, u "java/lang/System$LoggerFinder"), (5, .class_ 328), (0, u "java/lang/System$Logger"), (67, u "err"), (2, u "out"), (91, u "notSupportedJnuEncoding"), (15, u "in"), (17, u "initialIn"), (0, u "Ljava/io/InputStream;"), (35, u "bootLayer"), (0, u "Ljava/lang/ModuleLayer;"), (99, .class_ 664), (0, u "java/lang/System$2"), (9, u "NEVER"), (2, u "MAYBE"), (49, u "arraycopy"), (0, u "(Ljava/lang/Object;ILjava/lang/Object;II)V"), (72, .class_ 802), (0, u "java/lang/System$Logger$Level")] 31

def k21m0 : Method := { name := "<init>", desc := "()V", sig := { parameters := [], returnType := none }, accessFlags := 2, code := none }
def k21m1 : Method := { name := "arraycopy", desc := "(Ljava/lang/Object;ILjava/lang/Object;II)V", sig := { parameters := [(.object "java/lang/Object"), .int, (.object "java/lang/Object"), .int, .int], returnType := none }, accessFlags := 265, code := none }
/-- java/lang/System -/
def k21 : Class := { plain "java/lang/System" (some 0) with
  accessFlags := 49
  interfaces := #[]
  cf := some (fileOf pool21 8 #[.nestMembers #[319, 327, 801, 108, 663, 208]] #[{ accessFlags := 2, nameIndex := 5, descriptorIndex := 6, attributes := #[] }, { accessFlags := 265, nameIndex := 727, descriptorIndex := 728, attributes := #[] }] 49 2 #[] #[{ accessFlags := 25, nameIndex := 507, descriptorIndex := 526, attributes := #[] }, { accessFlags := 25, nameIndex := 399, descriptorIndex := 155, attributes := #[] }, { accessFlags := 25, nameIndex := 396, descriptorIndex := 155, attributes := #[] }, { accessFlags := 10, nameIndex := 525, descriptorIndex := 526, attributes := #[] }, { accessFlags := 26, nameIndex := 674, descriptorIndex := 12, attributes := #[] }, { accessFlags := 26, nameIndex := 677, descriptorIndex := 12, attributes := #[] }, { accessFlags := 10, nameIndex := 11, descriptorIndex := 12, attributes := #[] }, { accessFlags := 74, nameIndex := 175, descriptorIndex := 176, attributes := #[] }, { accessFlags := 10, nameIndex := 491, descriptorIndex := 222, attributes := #[] }, { accessFlags := 74, nameIndex := 29, descriptorIndex := 30, attributes := #[] }, { accessFlags := 74, nameIndex := 154, descriptorIndex := 155, attributes := #[] }, { accessFlags := 10, nameIndex := 217, descriptorIndex := 218, attributes := #[] }, { accessFlags := 10, nameIndex := 221, descriptorIndex := 222, attributes := #[] }, { accessFlags := 8, nameIndex := 562, descriptorIndex := 563, attributes := #[] }])
  fields := #[{ name := "in", type := (.object "java/io/InputStream"), accessFlags := 25, slot := 0, constantValue := 0 }, { name := "out", type := (.object "java/io/PrintStream"), accessFlags := 25, slot := 1, constantValue := 0 }, { name := "err", type := (.object "java/io/PrintStream"), accessFlags := 25, slot := 2, constantValue := 0 }, { name := "initialIn", type := (.object "java/io/InputStream"), accessFlags := 10, slot := 3, constantValue := 0 }, { name := "NEVER", type := .int, accessFlags := 26, slot := 4, constantValue := 0 }, { name := "MAYBE", type := .int, accessFlags := 26, slot := 5, constantValue := 0 }, { name := "allowSecurityManager", type := .int, accessFlags := 10, slot := 6, constantValue := 0 }, { name := "security", type := (.object "java/lang/SecurityManager"), accessFlags := 74, slot := 7, constantValue := 0 }, { name := "notSupportedJnuEncoding", type := (.object "java/lang/String"), accessFlags := 10, slot := 8, constantValue := 0 }, { name := "cons", type := (.object "java/io/Console"), accessFlags := 74, slot := 9, constantValue := 0 }, { name := "initialErrStream", type := (.object "java/io/PrintStream"), accessFlags := 74, slot := 10, constantValue := 0 }, { name := "props", type := (.object "java/util/Properties"), accessFlags := 10, slot := 11, constantValue := 0 }, { name := "lineSeparator", type := (.object "java/lang/String"), accessFlags := 10, slot := 12, constantValue := 0 }, { name := "bootLayer", type := (.object "java/lang/ModuleLayer"), accessFlags := 8, slot := 13, constantValue := 0 }]
  methods := #[k21m0, k21m1]
  instanceTypes := #[]
  staticTypes := #[(.object "java/io/InputStream"), (.object "java/io/PrintStream"), (.object "java/io/PrintStream"), (.object "java/io/InputStream"), .int, .int, .int, (.object "java/lang/SecurityManager"), (.object "java/lang/String"), (.object "java/io/Console"), (.object "java/io/PrintStream"), (.object "java/util/Properties"), (.object "java/lang/String"), (.object "java/lang/ModuleLayer")]
  resolved := Array.replicate 834 none
  statics := none }

def pool22 : Array CpInfo := pool [(2, .class_ 4), (1, u "java/lang/Object"), (0, u "<init>"), (0, u "()V"), (7, .class_ 16), (1, u "java/util/Arrays"), (57, .class_ 76), (1, u "java/util/Arrays$NaturalOrder"), (32, u "()Ljava/lang/Object;"), (3, .class_ 115), (1, u "java/util/Arrays$LegacyMergeSort"), (1, u "Z"), (10, .nameAndType 129 109), (0, u "clone"), (9, u "copyOfRange"), (10, .methodref 151 152), (0, .class_ 153), (0, .nameAndType 154 155), (0, u "java/lang/System"), (0, u "arraycopy"), (0, u "(Ljava/lang/Object;ILjava/lang/Object;II)V"), (146, u "copyOf"), (1, .methodref 305 306), (0, .class_ 307), (0, .nameAndType 308 309), (0, u "java/lang/Math"), (0, u "min"), (0, u "(II)I"), (0, .methodref 311 128), (0, .class_ 312), (0, u "[B"), (26, .methodref 14 340), (0, .nameAndType 341 342), (0, u "copyOfRangeByte"), (0, u "([BII)[B"), (0, .methodref 14 344), (0, .nameAndType 345 346), (0, u "checkLength"), (0, u "(II)V"), (28, .class_ 376), (0, u "java/util/Arrays$ArrayList"), (68, u "$assertionsDisabled"), (269, u "MIN_ARRAY_SORT_GRAN"), (0, u "I"), (2, u "INSERTIONSORT_THRESHOLD"), (149, u "([BI)[B"), (105, .class_ 976), (0, u "java/util/Arrays$ArrayItr")] 52

def k22m0 : Method := { name := "<init>", desc := "()V", sig := { parameters := [], returnType := none }, accessFlags := 2, code := none }
def k22c1 : Code := { maxStack := 6, maxLocals := 3, code := jdk_65_method_121_code, exceptionTable := #[], attributes := #[] }
def k22m1 : Method := { name := "copyOf", desc := "([BI)[B", sig := { parameters := [(.array .byte), .int], returnType := some (.array .byte) }, accessFlags := 9, code := some k22c1 }
def k22c2 : Code := { maxStack := 4, maxLocals := 2, code := jdk_65_method_131_code, exceptionTable := #[], attributes := #[] }
def k22m2 : Method := { name := "checkLength", desc := "(II)V", sig := { parameters := [.int, .int], returnType := none }, accessFlags := 10, code := some k22c2 }
def k22c3 : Code := { maxStack := 3, maxLocals := 3, code := jdk_65_method_132_code, exceptionTable := #[], attributes := #[] }
def k22m3 : Method := { name := "copyOfRange", desc := "([BII)[B", sig := { parameters := [(.array .byte), .int, .int], returnType := some (.array .byte) }, accessFlags := 9, code := some k22c3 }
def k22c4 : Code := { maxStack := 6, maxLocals := 5, code := jdk_65_method_133_code, exceptionTable := #[], attributes := #[] }
def k22m4 : Method := { name := "copyOfRangeByte", desc := "([BII)[B", sig := { parameters := [(.array .byte), .int, .int], returnType := some (.array .byte) }, accessFlags := 10, code := some k22c4 }
/-- java/util/Arrays -/
def k22 : Class := { plain "java/util/Arrays" (some 0) with
  accessFlags := 49
  interfaces := #[]
  cf := some (fileOf pool22 14 #[.nestMembers #[975, 375, 113, 74]] #[{ accessFlags := 2, nameIndex := 5, descriptorIndex := 6, attributes := #[] }, { accessFlags := 9, nameIndex := 302, descriptorIndex := 869, attributes := #[] }, { accessFlags := 10, nameIndex := 345, descriptorIndex := 346, attributes := #[] }, { accessFlags := 9, nameIndex := 139, descriptorIndex := 342, attributes := #[] }, { accessFlags := 10, nameIndex := 341, descriptorIndex := 342, attributes := #[] }] 49 2 #[] #[{ accessFlags := 26, nameIndex := 715, descriptorIndex := 716, attributes := #[] }, { accessFlags := 26, nameIndex := 719, descriptorIndex := 716, attributes := #[] }, { accessFlags := 4120, nameIndex := 445, descriptorIndex := 117, attributes := #[] }])
  fields := #[{ name := "MIN_ARRAY_SORT_GRAN", type := .int, accessFlags := 26, slot := 0, constantValue := 0 }, { name := "INSERTIONSORT_THRESHOLD", type := .int, accessFlags := 26, slot := 1, constantValue := 0 }, { name := "$assertionsDisabled", type := .boolean, accessFlags := 4120, slot := 2, constantValue := 0 }]
  methods := #[k22m0, k22m1, k22m2, k22m3, k22m4]
  instanceTypes := #[]
  staticTypes := #[.int, .int, .boolean]
  resolved := Array.replicate 1029 none
  statics := none }

def pool23 : Array CpInfo := pool [(1, .class_ 2), (0, u "java/lang/Math"), (1, .class_ 6), (1, u "java/lang/Object"), (0, u "<init>"), (0, u "()V"), (89, .class_ 100), (1, u "java/lang/Math$RandomNumberGeneratorHolder"), (71, u "negativeZeroFloatBits"), (0, u "J"), (2, u "negativeZeroDoubleBits"), (21, u "max"), (2, u "min"), (43, u "$assertionsDisabled"), (0, u "Z"), (88, u "(II)I"), (2, u "twoToTheDoubleScaleDown"), (0, u "D"), (4, u "twoToTheDoubleScaleUp"), (9, u "E"), (3, u "PI"), (2, u "TAU"), (2, u "DEGREES_TO_RADIANS"), (0, u "RADIANS_TO_DEGREES")] 94

def k23m0 : Method := { name := "<init>", desc := "()V", sig := { parameters := [], returnType := none }, accessFlags := 2, code := none }
def k23c1 : Code := { maxStack := 2, maxLocals := 2, code := jdk_29_method_65_code, exceptionTable := #[], attributes := #[] }
def k23m1 : Method := { name := "max", desc := "(II)I", sig := { parameters := [.int, .int], returnType := some .int }, accessFlags := 9, code := some k23c1 }
def k23c2 : Code := { maxStack := 2, maxLocals := 2, code := jdk_29_method_69_code, exceptionTable := #[], attributes := #[] }
def k23m2 : Method := { name := "min", desc := "(II)I", sig := { parameters := [.int, .int], returnType := some .int }, accessFlags := 9, code := some k23c2 }
/-- java/lang/Math -/
def k23 : Class := { plain "java/lang/Math" (some 0) with
  accessFlags := 49
  interfaces := #[]
  cf := some (fileOf pool23 1 #[.nestMembers #[98]] #[{ accessFlags := 2, nameIndex := 7, descriptorIndex := 8, attributes := #[] }, { accessFlags := 9, nameIndex := 198, descriptorIndex := 335, attributes := #[] }, { accessFlags := 9, nameIndex := 201, descriptorIndex := 335, attributes := #[] }] 49 4 #[] #[{ accessFlags := 25, nameIndex := 354, descriptorIndex := 339, attributes := #[] }, { accessFlags := 25, nameIndex := 358, descriptorIndex := 339, attributes := #[] }, { accessFlags := 25, nameIndex := 361, descriptorIndex := 339, attributes := #[] }, { accessFlags := 26, nameIndex := 364, descriptorIndex := 339, attributes := #[] }, { accessFlags := 26, nameIndex := 365, descriptorIndex := 339, attributes := #[] }, { accessFlags := 26, nameIndex := 172, descriptorIndex := 173, attributes := #[] }, { accessFlags := 26, nameIndex := 176, descriptorIndex := 173, attributes := #[] }, { accessFlags := 8, nameIndex := 344, descriptorIndex := 339, attributes := #[] }, { accessFlags := 8, nameIndex := 338, descriptorIndex := 339, attributes := #[] }, { accessFlags := 4120, nameIndex := 245, descriptorIndex := 246, attributes := #[] }])
  fields := #[{ name := "E", type := .double, accessFlags := 25, slot := 0, constantValue := 0 }, { name := "PI", type := .double, accessFlags := 25, slot := 1, constantValue := 0 }, { name := "TAU", type := .double, accessFlags := 25, slot := 2, constantValue := 0 }, { name := "DEGREES_TO_RADIANS", type := .double, accessFlags := 26, slot := 3, constantValue := 0 }, { name := "RADIANS_TO_DEGREES", type := .double, accessFlags := 26, slot := 4, constantValue := 0 }, { name := "negativeZeroFloatBits", type := .long, accessFlags := 26, slot := 5, constantValue := 0 }, { name := "negativeZeroDoubleBits", type := .long, accessFlags := 26, slot := 6, constantValue := 0 }, { name := "twoToTheDoubleScaleUp", type := .double, accessFlags := 8, slot := 7, constantValue := 0 }, { name := "twoToTheDoubleScaleDown", type := .double, accessFlags := 8, slot := 8, constantValue := 0 }, { name := "$assertionsDisabled", type := .boolean, accessFlags := 4120, slot := 9, constantValue := 0 }]
  methods := #[k23m0, k23m1, k23m2]
  instanceTypes := #[]
  staticTypes := #[.double, .double, .double, .double, .double, .long, .long, .double, .double, .boolean]
  resolved := Array.replicate 460 none
  statics := none }

def pool24 : Array CpInfo := pool [(9, u "<init>"), (6, .class_ 18), (1, u "java/lang/Object"), (0, u "()V"), (1, .class_ 23), (1, u "jdk/internal/util/ArraysSupport"), (0, u "LOG2_ARRAY_LONG_INDEX_SCALE"), (0, u "I"), (2, u "U"), (0, u "Ljdk/internal/misc/Unsafe;"), (8, u "BIG_ENDIAN"), (0, u "Z"), (8, u "LOG2_BYTE_BIT_SIZE"), (4, u "LOG2_ARRAY_INT_INDEX_SCALE"), (54, u "JLA"), (0, u "Ljdk/internal/access/JavaLangAccess;"), (11, u "LOG2_ARRAY_BOOLEAN_INDEX_SCALE"), (9, u "LOG2_ARRAY_BYTE_INDEX_SCALE"), (5, u "LOG2_ARRAY_CHAR_INDEX_SCALE"), (5, u "LOG2_ARRAY_SHORT_INDEX_SCALE"), (18, u "LOG2_ARRAY_FLOAT_INDEX_SCALE"), (24, u "LOG2_ARRAY_DOUBLE_INDEX_SCALE"), (6, .methodref 195 196), (0, .class_ 197), (0, .nameAndType 198 199), (0, u "java/lang/Math"), (0, u "max"), (0, u "(II)I"), (0, .integer 2147483639), (76, u "T_BOOLEAN"), (2, u "T_CHAR"), (1, u "T_FLOAT"), (1, u "T_DOUBLE"), (1, u "T_BYTE"), (1, u "T_SHORT"), (1, u "T_INT"), (1, u "T_LONG"), (1, u "SOFT_MAX_ARRAY_LENGTH"), (56, u "newLength"), (0, u "(III)I")] 25

def k24m0 : Method := { name := "<init>", desc := "()V", sig := { parameters := [], returnType := none }, accessFlags := 2, code := none }
def k24c1 : Code := { maxStack := 3, maxLocals := 4, code := jdk_48_method_27_code, exceptionTable := #[], attributes := #[] }
def k24m1 : Method := { name := "newLength", desc := "(III)I", sig := { parameters := [.int, .int, .int], returnType := some .int }, accessFlags := 9, code := some k24c1 }
/-- jdk/internal/util/ArraysSupport -/
def k24 : Class := { plain "jdk/internal/util/ArraysSupport" (some 0) with
  accessFlags := 33
  interfaces := #[]
  cf := some (fileOf pool24 21 #[] #[{ accessFlags := 2, nameIndex := 9, descriptorIndex := 19, attributes := #[] }, { accessFlags := 9, nameIndex := 351, descriptorIndex := 352, attributes := #[] }] 33 16 #[] #[{ accessFlags := 24, nameIndex := 28, descriptorIndex := 29, attributes := #[] }, { accessFlags := 26, nameIndex := 38, descriptorIndex := 39, attributes := #[] }, { accessFlags := 25, nameIndex := 121, descriptorIndex := 25, attributes := #[] }, { accessFlags := 25, nameIndex := 131, descriptorIndex := 25, attributes := #[] }, { accessFlags := 25, nameIndex := 137, descriptorIndex := 25, attributes := #[] }, { accessFlags := 25, nameIndex := 143, descriptorIndex := 25, attributes := #[] }, { accessFlags := 25, nameIndex := 53, descriptorIndex := 25, attributes := #[] }, { accessFlags := 25, nameIndex := 24, descriptorIndex := 25, attributes := #[] }, { accessFlags := 25, nameIndex := 162, descriptorIndex := 25, attributes := #[] }, { accessFlags := 25, nameIndex := 187, descriptorIndex := 25, attributes := #[] }, { accessFlags := 26, nameIndex := 48, descriptorIndex := 25, attributes := #[] }, { accessFlags := 25, nameIndex := 277, descriptorIndex := 25, attributes := #[] }, { accessFlags := 25, nameIndex := 280, descriptorIndex := 25, attributes := #[] }, { accessFlags := 25, nameIndex := 282, descriptorIndex := 25, attributes := #[] }, { accessFlags := 25, nameIndex := 284, descriptorIndex := 25, attributes := #[] }, { accessFlags := 25, nameIndex := 286, descriptorIndex := 25, attributes := #[] }, { accessFlags := 25, nameIndex := 288, descriptorIndex := 25, attributes := #[] }, { accessFlags := 25, nameIndex := 290, descriptorIndex := 25, attributes := #[] }, { accessFlags := 25, nameIndex := 292, descriptorIndex := 25, attributes := #[] }, { accessFlags := 26, nameIndex := 108, descriptorIndex := 109, attributes := #[] }, { accessFlags := 25, nameIndex := 294, descriptorIndex := 25, attributes := #[] }])
  fields := #[{ name := "U", type := (.object "jdk/internal/misc/Unsafe"), accessFlags := 24, slot := 0, constantValue := 0 }, { name := "BIG_ENDIAN", type := .boolean, accessFlags := 26, slot := 1, constantValue := 0 }, { name := "LOG2_ARRAY_BOOLEAN_INDEX_SCALE", type := .int, accessFlags := 25, slot := 2, constantValue := 0 }, { name := "LOG2_ARRAY_BYTE_INDEX_SCALE", type := .int, accessFlags := 25, slot := 3, constantValue := 0 }, { name := "LOG2_ARRAY_CHAR_INDEX_SCALE", type := .int, accessFlags := 25, slot := 4, constantValue := 0 }, { name := "LOG2_ARRAY_SHORT_INDEX_SCALE", type := .int, accessFlags := 25, slot := 5, constantValue := 0 }, { name := "LOG2_ARRAY_INT_INDEX_SCALE", type := .int, accessFlags := 25, slot := 6, constantValue := 0 }, { name := "LOG2_ARRAY_LONG_INDEX_SCALE", type := .int, accessFlags := 25, slot := 7, constantValue := 0 }, { name := "LOG2_ARRAY_FLOAT_INDEX_SCALE", type := .int, accessFlags := 25, slot := 8, constantValue := 0 }, { name := "LOG2_ARRAY_DOUBLE_INDEX_SCALE", type := .int, accessFlags := 25, slot := 9, constantValue := 0 }, { name := "LOG2_BYTE_BIT_SIZE", type := .int, accessFlags := 26, slot := 10, constantValue := 0 }, { name := "T_BOOLEAN", type := .int, accessFlags := 25, slot := 11, constantValue := 0 }, { name := "T_CHAR", type := .int, accessFlags := 25, slot := 12, constantValue := 0 }, { name := "T_FLOAT", type := .int, accessFlags := 25, slot := 13, constantValue := 0 }, { name := "T_DOUBLE", type := .int, accessFlags := 25, slot := 14, constantValue := 0 }, { name := "T_BYTE", type := .int, accessFlags := 25, slot := 15, constantValue := 0 }, { name := "T_SHORT", type := .int, accessFlags := 25, slot := 16, constantValue := 0 }, { name := "T_INT", type := .int, accessFlags := 25, slot := 17, constantValue := 0 }, { name := "T_LONG", type := .int, accessFlags := 25, slot := 18, constantValue := 0 }, { name := "JLA", type := (.object "jdk/internal/access/JavaLangAccess"), accessFlags := 26, slot := 19, constantValue := 0 }, { name := "SOFT_MAX_ARRAY_LENGTH", type := .int, accessFlags := 25, slot := 20, constantValue := 0 }]
  methods := #[k24m0, k24m1]
  instanceTypes := #[]
  staticTypes := #[(.object "jdk/internal/misc/Unsafe"), .boolean, .int, .int, .int, .int, .int, .int, .int, .int, .int, .int, .int, .int, .int, .int, .int, .int, .int, (.object "jdk/internal/access/JavaLangAccess"), .int]
  resolved := Array.replicate 378 none
  statics := none }

def pool25 : Array CpInfo := pool [(1, .class_ 2), (0, u "java/lang/Cloneable"), (0, .class_ 4), (0, u "java/lang/Object")] 2

/-- java/lang/Cloneable -/
def k25 : Class := { plain "java/lang/Cloneable" (some 0) with
  accessFlags := 1537
  interfaces := #[]
  cf := some (fileOf pool25 1 #[] #[] 1537 3 #[] #[])
  fields := #[]
  methods := #[]
  instanceTypes := #[]
  staticTypes := #[]
  resolved := Array.replicate 7 none
  statics := none }

/-- the primitive byte -/
def k26 : Class := { plain "byte" none with kind := .primitive 'B', accessFlags := 0x411 }
/-- [B -/
def k27 : Class := { plain "[B" (some 0) with kind := .array 26 .byte, interfaces := #[25, 4], accessFlags := 1041 }

/-- the primitive char -/
def k28 : Class := { plain "char" none with kind := .primitive 'C', accessFlags := 0x411 }
/-- [C -/
def k29 : Class := { plain "[C" (some 0) with kind := .array 28 .char, interfaces := #[25, 4], accessFlags := 1041 }

/-- the primitive int -/
def k30 : Class := { plain "int" none with kind := .primitive 'I', accessFlags := 0x411 }
/-- [I -/
def k31 : Class := { plain "[I" (some 0) with kind := .array 30 .int, interfaces := #[25, 4], accessFlags := 1041 }

def heap : Heap := #[{ cls := 6, slots := #[.ref 4, .ref 5, .ref 6, .ref 7, .null], vm := .statics 6 },
  { cls := 9, slots := #[.long 0, .int 1, .null, .int 0, .null, .int 0, .int 0], vm := .statics 9 },
  { cls := 15, slots := #[.null, .null, .null], vm := .statics 15 },
  { cls := 20, slots := #[.int 0, .int 0, .null, .null, .ref 9, .ref 8, .int 0, .int 0, .long 0], vm := .statics 20 },
  { cls := 6, slots := #[.null, .int 0, .int 0, .int 114, .int 1], vm := .none },
  { cls := 6, slots := #[.null, .int 1, .int 0, .int 119, .int 1], vm := .none },
  { cls := 6, slots := #[.null, .int 2, .int 0, .int 99, .int 0], vm := .none },
  { cls := 6, slots := #[.null, .int 3, .int 0, .int 97, .int 0], vm := .none },
  { cls := 27, slots := #[.int 48, .int 49, .int 50, .int 51, .int 52, .int 53, .int 54, .int 55, .int 56, .int 57, .int 48, .int 49, .int 50, .int 51, .int 52, .int 53, .int 54, .int 55, .int 56, .int 57, .int 48, .int 49, .int 50, .int 51, .int 52, .int 53, .int 54, .int 55, .int 56, .int 57, .int 48, .int 49, .int 50, .int 51, .int 52, .int 53, .int 54, .int 55, .int 56, .int 57, .int 48, .int 49, .int 50, .int 51, .int 52, .int 53, .int 54, .int 55, .int 56, .int 57, .int 48, .int 49, .int 50, .int 51, .int 52, .int 53, .int 54, .int 55, .int 56, .int 57, .int 48, .int 49, .int 50, .int 51, .int 52, .int 53, .int 54, .int 55, .int 56, .int 57, .int 48, .int 49, .int 50, .int 51, .int 52, .int 53, .int 54, .int 55, .int 56, .int 57, .int 48, .int 49, .int 50, .int 51, .int 52, .int 53, .int 54, .int 55, .int 56, .int 57, .int 48, .int 49, .int 50, .int 51, .int 52, .int 53, .int 54, .int 55, .int 56, .int 57], vm := .none },
  { cls := 27, slots := #[.int 48, .int 48, .int 48, .int 48, .int 48, .int 48, .int 48, .int 48, .int 48, .int 48, .int 49, .int 49, .int 49, .int 49, .int 49, .int 49, .int 49, .int 49, .int 49, .int 49, .int 50, .int 50, .int 50, .int 50, .int 50, .int 50, .int 50, .int 50, .int 50, .int 50, .int 51, .int 51, .int 51, .int 51, .int 51, .int 51, .int 51, .int 51, .int 51, .int 51, .int 52, .int 52, .int 52, .int 52, .int 52, .int 52, .int 52, .int 52, .int 52, .int 52, .int 53, .int 53, .int 53, .int 53, .int 53, .int 53, .int 53, .int 53, .int 53, .int 53, .int 54, .int 54, .int 54, .int 54, .int 54, .int 54, .int 54, .int 54, .int 54, .int 54, .int 55, .int 55, .int 55, .int 55, .int 55, .int 55, .int 55, .int 55, .int 55, .int 55, .int 56, .int 56, .int 56, .int 56, .int 56, .int 56, .int 56, .int 56, .int 56, .int 56, .int 57, .int 57, .int 57, .int 57, .int 57, .int 57, .int 57, .int 57, .int 57, .int 57], vm := .none }]
def classes : Array Class := #[k0, k1, k2, k3, k4, k5, k6, k7, k8, k9, k10, k11, k12, k13, k14, k15, k16, k17, k18, k19, k20, k21, k22, k23, k24, k25, k26, k27, k28, k29, k30, k31]
def interned : List (Array UInt16 × Addr) := []
def slotsUsed : Nat := 244
def theMethod : MethodId := ⟨1, 1⟩
def args0 : Array Value := #[.int 5, .int 6, .int 7, .int 8]
def aboutOver (below : List Frame) : State where
  vm := { classes := classes, interned := interned.toArray }
  heap := heap
  slotsUsed := slotsUsed
  threads := #[{ frames := .invoking theMethod args0 :: below }]
def below0 : List Frame := [.native { method := ⟨0, 0⟩, args := #[] }]
def about1 : State := aboutOver below0
def p0 : Program := .bare "" "" ""
def e0 : Env := launch0.env 0 0 0
theorem w_frames : about1.frames = Frame.invoking theMethod args0 :: below0 := rfl
set_option maxRecDepth 65536 in
theorem w_args : argsFit about1.vm theMethod args0 = true := by decide +kernel
set_option maxRecDepth 65536 in
theorem w_heap : heapFits about1 = true := by decide +kernel
set_option maxRecDepth 65536 in
theorem w_runnable : about1.curStatus? = some .runnable := by decide +kernel
set_option maxRecDepth 65536 in
theorem w_alone : about1.alone = true := by decide +kernel
set_option maxRecDepth 65536 in
theorem w_named : about1.methodNamed? x = some theMethod := by decide +kernel
set_option maxRecDepth 65536 in
theorem w_hears : about1.hears theMethod below0 = true := by decide +kernel
set_option maxRecDepth 65536 in
theorem w_ripe : about1.ripe theMethod args0 below0 = true := by decide +kernel
theorem w_running : about1.status = .running := rfl
set_option maxRecDepth 65536 in
theorem w_room : about1.hasRoom e0.platform room_1 = true :=
  launch0.hasRoom_least _ room_1 (by decide +kernel) (by decide +kernel) (by decide +kernel) (by decide +kernel) (by decide +kernel) (by decide +kernel)
theorem allAtoms_all (ts : List Jvm.Cond) (a : Array Jvm.Value) (st : Jvm.State) : (allAtoms ts).before a st = ts.all (fun c => c.before a st) := by
  induction ts with
  | nil => rfl
  | cons c t ih =>
    show (Jvm.Cond.and c (allAtoms t)).before a st = _
    rw [Jvm.Cond.before_and, ih, List.all_cons]
def words1 : List Jvm.Cond := Jvm.Cond.code x code maxLocals ret :: tables_1
/-- a 'code' word, met by the world's own term for the bytes: nothing is compared byte by byte -/
theorem code_word {y : MethodName} {bytes : ByteArray} {mx : Nat} {rt : Option FieldType} {a : Array Value} {s : State} {m : MethodId} {meth : Method} {c : Code} (h1 : s.methodNamed? y = some m) (h2 : s.vm.method? m = some meth) (h3 : meth.code = some c) (h4 : c.code = bytes)
    (h5 : (c.maxLocals == mx && c.exceptionTable.isEmpty && decide (c.maxStack ≤ mostOperands) && decide (meth.sig.returnType = rt) && !meth.locks && decide (parseMethodDescriptor y.desc = some meth.sig)) = true) : (Jvm.Cond.code y bytes mx rt).before a s = true := by
  simp only [Bool.and_eq_true, beq_iff_eq, Bool.not_eq_true', decide_eq_true_eq] at h5
  obtain ⟨⟨⟨⟨⟨g1, g2⟩, g3⟩, g4⟩, g5⟩, g6⟩ := h5
  simp [Cond.before, Cond.holds, Cond.value, h1, h2, h3, h4, g1, g2, g3, g4, g5, g6]
def isCode : Jvm.Cond → Bool
  | .code _ _ _ _ => true
  | _ => false
theorem all_split {L : List Jvm.Cond} {P : Jvm.Cond → Bool} (h1 : L.all (fun c => isCode c || P c) = true) (h2 : ∀ c ∈ L.filter isCode, P c = true) : L.all P = true := by
  refine List.all_eq_true.mpr fun c hc => ?_
  have h := List.all_eq_true.mp h1 c hc
  rcases Bool.eq_false_or_eq_true (isCode c) with hi | hi
  · exact h2 c (List.mem_filter.mpr ⟨hc, hi⟩)
  · simpa [hi] using h
set_option maxRecDepth 65536 in
theorem w_c0 : (Jvm.Cond.code x code maxLocals ret).before args0 about1 = true := code_word (m := ⟨1, 1⟩) (meth := k1m1) (c := k1c1) (by decide +kernel) rfl rfl rfl (by decide +kernel)
set_option maxRecDepth 65536 in
theorem w_c1 : (Jvm.Cond.code ({ cls := "com/example/interleave/interleave/core/OperationToStringPinLaw", name := "ch", desc := "(I)C" } : Jvm.MethodName) method_3_code (1 : Nat) (Option.some Jvm.ClassFile.FieldType.char)).before args0 about1 = true := code_word (m := ⟨1, 2⟩) (meth := k1m2) (c := k1c2) (by decide +kernel) rfl rfl rfl (by decide +kernel)
set_option maxRecDepth 65536 in
theorem w_c2 : (Jvm.Cond.code ({ cls := "java/lang/String", name := "<init>", desc := "([C)V" } : Jvm.MethodName) jdk_42_method_3_code (2 : Nat) (Option.none : Option Jvm.ClassFile.FieldType)).before args0 about1 = true := code_word (m := ⟨9, 1⟩) (meth := k9m1) (c := k9c1) (by decide +kernel) rfl rfl rfl (by decide +kernel)
set_option maxRecDepth 65536 in
theorem w_c3 : (Jvm.Cond.code ({ cls := "java/lang/String", name := "<init>", desc := "([CIILjava/lang/Void;)V" } : Jvm.MethodName) jdk_42_method_149_code (6 : Nat) (Option.none : Option Jvm.ClassFile.FieldType)).before args0 about1 = true := code_word (m := ⟨9, 7⟩) (meth := k9m7) (c := k9c7) (by decide +kernel) rfl rfl rfl (by decide +kernel)
set_option maxRecDepth 65536 in
theorem w_c4 : (Jvm.Cond.code ({ cls := "java/lang/Object", name := "<init>", desc := "()V" } : Jvm.MethodName) object_method_1_code (1 : Nat) (Option.none : Option Jvm.ClassFile.FieldType)).before args0 about1 = true := code_word (m := ⟨0, 0⟩) (meth := k0m0) (c := k0c0) (by decide +kernel) rfl rfl rfl (by decide +kernel)
set_option maxRecDepth 65536 in
theorem w_c5 : (Jvm.Cond.code ({ cls := "java/lang/StringUTF16", name := "compress", desc := "([CII)[B" } : Jvm.MethodName) jdk_52_method_16_code (6 : Nat) (Option.some (Jvm.ClassFile.FieldType.array Jvm.ClassFile.FieldType.byte))).before args0 about1 = true := code_word (m := ⟨10, 2⟩) (meth := k10m2) (c := k10c2) (by decide +kernel) rfl rfl rfl (by decide +kernel)
set_option maxRecDepth 65536 in
theorem w_c6 : (Jvm.Cond.code ({ cls := "java/lang/StringUTF16", name := "compress", desc := "([CI[BII)I" } : Jvm.MethodName) jdk_52_method_21_code (7 : Nat) (Option.some Jvm.ClassFile.FieldType.int)).before args0 about1 = true := code_word (m := ⟨10, 3⟩) (meth := k10m3) (c := k10c3) (by decide +kernel) rfl rfl rfl (by decide +kernel)
set_option maxRecDepth 65536 in
theorem w_c7 : (Jvm.Cond.code ({ cls := "java/lang/StringUTF16", name := "coderFromArrayLen", desc := "([BI)B" } : Jvm.MethodName) jdk_52_method_15_code (2 : Nat) (Option.some Jvm.ClassFile.FieldType.byte)).before args0 about1 = true := code_word (m := ⟨10, 1⟩) (meth := k10m1) (c := k10c1) (by decide +kernel) rfl rfl rfl (by decide +kernel)
set_option maxRecDepth 65536 in
theorem w_c8 : (Jvm.Cond.code ({ cls := "com/example/interleave/interleave/core/Operation", name := "<init>", desc := "(Lcom/example/interleave/interleave/core/Operation$Kind;ILjava/lang/String;)V" } : Jvm.MethodName) prog_23_method_1_code (5 : Nat) (Option.none : Option Jvm.ClassFile.FieldType)).before args0 about1 = true := code_word (m := ⟨12, 0⟩) (meth := k12m0) (c := k12c0) (by decide +kernel) rfl rfl rfl (by decide +kernel)
set_option maxRecDepth 65536 in
theorem w_c9 : (Jvm.Cond.code ({ cls := "java/lang/Record", name := "<init>", desc := "()V" } : Jvm.MethodName) jdk_30_method_1_code (1 : Nat) (Option.none : Option Jvm.ClassFile.FieldType)).before args0 about1 = true := code_word (m := ⟨11, 0⟩) (meth := k11m0) (c := k11c0) (by decide +kernel) rfl rfl rfl (by decide +kernel)
set_option maxRecDepth 65536 in
theorem w_c10 : (Jvm.Cond.code ({ cls := "java/util/Objects", name := "requireNonNull", desc := "(Ljava/lang/Object;Ljava/lang/String;)Ljava/lang/Object;" } : Jvm.MethodName) jdk_31_method_11_code (2 : Nat) (Option.some (Jvm.ClassFile.FieldType.object "java/lang/Object"))).before args0 about1 = true := code_word (m := ⟨13, 1⟩) (meth := k13m1) (c := k13c1) (by decide +kernel) rfl rfl rfl (by decide +kernel)
set_option maxRecDepth 65536 in
theorem w_c11 : (Jvm.Cond.code ({ cls := "com/example/interleave/interleave/core/Operation", name := "fault", desc := "(Lcom/example/interleave/interleave/core/Operation$Kind;ILjava/lang/String;)Ljava/lang/String;" } : Jvm.MethodName) prog_23_method_4_code (4 : Nat) (Option.some (Jvm.ClassFile.FieldType.object "java/lang/String"))).before args0 about1 = true := code_word (m := ⟨12, 2⟩) (meth := k12m2) (c := k12c2) (by decide +kernel) rfl rfl rfl (by decide +kernel)
set_option maxRecDepth 65536 in
theorem w_c12 : (Jvm.Cond.code ({ cls := "com/example/interleave/interleave/core/Operation$Kind", name := "onItem", desc := "()Z" } : Jvm.MethodName) prog_24_method_5_code (1 : Nat) (Option.some Jvm.ClassFile.FieldType.boolean)).before args0 about1 = true := code_word (m := ⟨6, 1⟩) (meth := k6m1) (c := k6c1) (by decide +kernel) rfl rfl rfl (by decide +kernel)
set_option maxRecDepth 65536 in
theorem w_c13 : (Jvm.Cond.code ({ cls := "com/example/interleave/interleave/core/Operation", name := "itemFault", desc := "(Ljava/lang/String;)Ljava/lang/String;" } : Jvm.MethodName) prog_23_method_5_code (3 : Nat) (Option.some (Jvm.ClassFile.FieldType.object "java/lang/String"))).before args0 about1 = true := code_word (m := ⟨12, 3⟩) (meth := k12m3) (c := k12c3) (by decide +kernel) rfl rfl rfl (by decide +kernel)
set_option maxRecDepth 65536 in
theorem w_c14 : (Jvm.Cond.code ({ cls := "java/lang/String", name := "isEmpty", desc := "()Z" } : Jvm.MethodName) jdk_42_method_55_code (1 : Nat) (Option.some Jvm.ClassFile.FieldType.boolean)).before args0 about1 = true := code_word (m := ⟨9, 4⟩) (meth := k9m4) (c := k9c4) (by decide +kernel) rfl rfl rfl (by decide +kernel)
set_option maxRecDepth 65536 in
theorem w_c15 : (Jvm.Cond.code ({ cls := "java/lang/String", name := "length", desc := "()I" } : Jvm.MethodName) jdk_42_method_54_code (1 : Nat) (Option.some Jvm.ClassFile.FieldType.int)).before args0 about1 = true := code_word (m := ⟨9, 3⟩) (meth := k9m3) (c := k9c3) (by decide +kernel) rfl rfl rfl (by decide +kernel)
set_option maxRecDepth 65536 in
theorem w_c16 : (Jvm.Cond.code ({ cls := "java/lang/String", name := "coder", desc := "()B" } : Jvm.MethodName) jdk_42_method_152_code (1 : Nat) (Option.some Jvm.ClassFile.FieldType.byte)).before args0 about1 = true := code_word (m := ⟨9, 10⟩) (meth := k9m10) (c := k9c10) (by decide +kernel) rfl rfl rfl (by decide +kernel)
set_option maxRecDepth 65536 in
theorem w_c17 : (Jvm.Cond.code ({ cls := "java/lang/String", name := "charAt", desc := "(I)C" } : Jvm.MethodName) jdk_42_method_56_code (2 : Nat) (Option.some Jvm.ClassFile.FieldType.char)).before args0 about1 = true := code_word (m := ⟨9, 5⟩) (meth := k9m5) (c := k9c5) (by decide +kernel) rfl rfl rfl (by decide +kernel)
set_option maxRecDepth 65536 in
theorem w_c18 : (Jvm.Cond.code ({ cls := "java/lang/String", name := "isLatin1", desc := "()Z" } : Jvm.MethodName) jdk_42_method_154_code (1 : Nat) (Option.some Jvm.ClassFile.FieldType.boolean)).before args0 about1 = true := code_word (m := ⟨9, 11⟩) (meth := k9m11) (c := k9c11) (by decide +kernel) rfl rfl rfl (by decide +kernel)
set_option maxRecDepth 65536 in
theorem w_c19 : (Jvm.Cond.code ({ cls := "java/lang/StringLatin1", name := "charAt", desc := "([BI)C" } : Jvm.MethodName) jdk_43_method_2_code (2 : Nat) (Option.some Jvm.ClassFile.FieldType.char)).before args0 about1 = true := code_word (m := ⟨14, 1⟩) (meth := k14m1) (c := k14c1) (by decide +kernel) rfl rfl rfl (by decide +kernel)
set_option maxRecDepth 65536 in
theorem w_c20 : (Jvm.Cond.code ({ cls := "java/lang/String", name := "checkIndex", desc := "(II)V" } : Jvm.MethodName) jdk_42_method_155_code (2 : Nat) (Option.none : Option Jvm.ClassFile.FieldType)).before args0 about1 = true := code_word (m := ⟨9, 12⟩) (meth := k9m12) (c := k9c12) (by decide +kernel) rfl rfl rfl (by decide +kernel)
set_option maxRecDepth 65536 in
theorem w_c21 : (Jvm.Cond.code ({ cls := "jdk/internal/util/Preconditions", name := "checkIndex", desc := "(IILjava/util/function/BiFunction;)I" } : Jvm.MethodName) jdk_41_method_11_code (3 : Nat) (Option.some Jvm.ClassFile.FieldType.int)).before args0 about1 = true := code_word (m := ⟨15, 1⟩) (meth := k15m1) (c := k15c1) (by decide +kernel) rfl rfl rfl (by decide +kernel)
set_option maxRecDepth 65536 in
theorem w_c22 : (Jvm.Cond.code ({ cls := "com/example/interleave/interleave/core/Operation", name := "isAsciiLetter", desc := "(C)Z" } : Jvm.MethodName) prog_23_method_8_code (1 : Nat) (Option.some Jvm.ClassFile.FieldType.boolean)).before args0 about1 = true := code_word (m := ⟨12, 4⟩) (meth := k12m4) (c := k12c4) (by decide +kernel) rfl rfl rfl (by decide +kernel)
set_option maxRecDepth 65536 in
theorem w_c23 : (Jvm.Cond.code ({ cls := "com/example/interleave/interleave/core/Operation", name := "toString", desc := "()Ljava/lang/String;" } : Jvm.MethodName) prog_23_method_3_code (2 : Nat) (Option.some (Jvm.ClassFile.FieldType.object "java/lang/String"))).before args0 about1 = true := code_word (m := ⟨12, 1⟩) (meth := k12m1) (c := k12c1) (by decide +kernel) rfl rfl rfl (by decide +kernel)
set_option maxRecDepth 65536 in
theorem w_c24 : (Jvm.Cond.code ({ cls := "java/lang/StringBuilder", name := "<init>", desc := "()V" } : Jvm.MethodName) jdk_67_method_1_code (1 : Nat) (Option.none : Option Jvm.ClassFile.FieldType)).before args0 about1 = true := code_word (m := ⟨18, 0⟩) (meth := k18m0) (c := k18c0) (by decide +kernel) rfl rfl rfl (by decide +kernel)
set_option maxRecDepth 65536 in
theorem w_c25 : (Jvm.Cond.code ({ cls := "java/lang/AbstractStringBuilder", name := "<init>", desc := "(I)V" } : Jvm.MethodName) jdk_68_method_2_code (2 : Nat) (Option.none : Option Jvm.ClassFile.FieldType)).before args0 about1 = true := code_word (m := ⟨17, 1⟩) (meth := k17m1) (c := k17c1) (by decide +kernel) rfl rfl rfl (by decide +kernel)
set_option maxRecDepth 65536 in
theorem w_c26 : (Jvm.Cond.code ({ cls := "com/example/interleave/interleave/core/Operation$Kind", name := "letter", desc := "()C" } : Jvm.MethodName) prog_24_method_4_code (1 : Nat) (Option.some Jvm.ClassFile.FieldType.char)).before args0 about1 = true := code_word (m := ⟨6, 0⟩) (meth := k6m0) (c := k6c0) (by decide +kernel) rfl rfl rfl (by decide +kernel)
set_option maxRecDepth 65536 in
theorem w_c27 : (Jvm.Cond.code ({ cls := "java/lang/StringBuilder", name := "append", desc := "(C)Ljava/lang/StringBuilder;" } : Jvm.MethodName) jdk_67_method_14_code (2 : Nat) (Option.some (Jvm.ClassFile.FieldType.object "java/lang/StringBuilder"))).before args0 about1 = true := code_word (m := ⟨18, 2⟩) (meth := k18m2) (c := k18c2) (by decide +kernel) rfl rfl rfl (by decide +kernel)
set_option maxRecDepth 65536 in
theorem w_c28 : (Jvm.Cond.code ({ cls := "java/lang/AbstractStringBuilder", name := "append", desc := "(C)Ljava/lang/AbstractStringBuilder;" } : Jvm.MethodName) jdk_68_method_31_code (2 : Nat) (Option.some (Jvm.ClassFile.FieldType.object "java/lang/AbstractStringBuilder"))).before args0 about1 = true := code_word (m := ⟨17, 6⟩) (meth := k17m6) (c := k17c6) (by decide +kernel) rfl rfl rfl (by decide +kernel)
set_option maxRecDepth 65536 in
theorem w_c29 : (Jvm.Cond.code ({ cls := "java/lang/AbstractStringBuilder", name := "ensureCapacityInternal", desc := "(I)V" } : Jvm.MethodName) jdk_68_method_9_code (3 : Nat) (Option.none : Option Jvm.ClassFile.FieldType)).before args0 about1 = true := code_word (m := ⟨17, 3⟩) (meth := k17m3) (c := k17c3) (by decide +kernel) rfl rfl rfl (by decide +kernel)
set_option maxRecDepth 65536 in
theorem w_c30 : (Jvm.Cond.code ({ cls := "java/lang/AbstractStringBuilder", name := "isLatin1", desc := "()Z" } : Jvm.MethodName) jdk_68_method_68_code (1 : Nat) (Option.some Jvm.ClassFile.FieldType.boolean)).before args0 about1 = true := code_word (m := ⟨17, 8⟩) (meth := k17m8) (c := k17c8) (by decide +kernel) rfl rfl rfl (by decide +kernel)
set_option maxRecDepth 65536 in
theorem w_c31 : (Jvm.Cond.code ({ cls := "java/lang/StringLatin1", name := "canEncode", desc := "(C)Z" } : Jvm.MethodName) jdk_43_method_3_code (1 : Nat) (Option.some Jvm.ClassFile.FieldType.boolean)).before args0 about1 = true := code_word (m := ⟨14, 2⟩) (meth := k14m2) (c := k14c2) (by decide +kernel) rfl rfl rfl (by decide +kernel)
set_option maxRecDepth 65536 in
theorem w_c32 : (Jvm.Cond.code ({ cls := "java/lang/Integer", name := "toString", desc := "(I)Ljava/lang/String;" } : Jvm.MethodName) jdk_33_method_10_code (3 : Nat) (Option.some (Jvm.ClassFile.FieldType.object "java/lang/String"))).before args0 about1 = true := code_word (m := ⟨20, 0⟩) (meth := k20m0) (c := k20c0) (by decide +kernel) rfl rfl rfl (by decide +kernel)
set_option maxRecDepth 65536 in
theorem w_c33 : (Jvm.Cond.code ({ cls := "java/lang/Integer", name := "stringSize", desc := "(I)I" } : Jvm.MethodName) jdk_33_method_13_code (4 : Nat) (Option.some Jvm.ClassFile.FieldType.int)).before args0 about1 = true := code_word (m := ⟨20, 2⟩) (meth := k20m2) (c := k20c2) (by decide +kernel) rfl rfl rfl (by decide +kernel)
set_option maxRecDepth 65536 in
theorem w_c34 : (Jvm.Cond.code ({ cls := "java/lang/Integer", name := "getChars", desc := "(II[B)I" } : Jvm.MethodName) jdk_33_method_12_code (7 : Nat) (Option.some Jvm.ClassFile.FieldType.int)).before args0 about1 = true := code_word (m := ⟨20, 1⟩) (meth := k20m1) (c := k20c1) (by decide +kernel) rfl rfl rfl (by decide +kernel)
set_option maxRecDepth 65536 in
theorem w_c35 : (Jvm.Cond.code ({ cls := "java/lang/String", name := "<init>", desc := "([BB)V" } : Jvm.MethodName) jdk_42_method_151_code (3 : Nat) (Option.none : Option Jvm.ClassFile.FieldType)).before args0 about1 = true := code_word (m := ⟨9, 9⟩) (meth := k9m9) (c := k9c9) (by decide +kernel) rfl rfl rfl (by decide +kernel)
set_option maxRecDepth 65536 in
theorem w_c36 : (Jvm.Cond.code ({ cls := "java/lang/StringBuilder", name := "append", desc := "(Ljava/lang/String;)Ljava/lang/StringBuilder;" } : Jvm.MethodName) jdk_67_method_7_code (2 : Nat) (Option.some (Jvm.ClassFile.FieldType.object "java/lang/StringBuilder"))).before args0 about1 = true := code_word (m := ⟨18, 1⟩) (meth := k18m1) (c := k18c1) (by decide +kernel) rfl rfl rfl (by decide +kernel)
set_option maxRecDepth 65536 in
theorem w_c37 : (Jvm.Cond.code ({ cls := "java/lang/AbstractStringBuilder", name := "append", desc := "(Ljava/lang/String;)Ljava/lang/AbstractStringBuilder;" } : Jvm.MethodName) jdk_68_method_22_code (3 : Nat) (Option.some (Jvm.ClassFile.FieldType.object "java/lang/AbstractStringBuilder"))).before args0 about1 = true := code_word (m := ⟨17, 5⟩) (meth := k17m5) (c := k17c5) (by decide +kernel) rfl rfl rfl (by decide +kernel)
set_option maxRecDepth 65536 in
theorem w_c38 : (Jvm.Cond.code ({ cls := "java/lang/AbstractStringBuilder", name := "putStringAt", desc := "(ILjava/lang/String;)V" } : Jvm.MethodName) jdk_68_method_73_code (3 : Nat) (Option.none : Option Jvm.ClassFile.FieldType)).before args0 about1 = true := code_word (m := ⟨17, 10⟩) (meth := k17m10) (c := k17c10) (by decide +kernel) rfl rfl rfl (by decide +kernel)
set_option maxRecDepth 65536 in
theorem w_c39 : (Jvm.Cond.code ({ cls := "java/lang/AbstractStringBuilder", name := "inflateIfNeededFor", desc := "(Ljava/lang/String;)V" } : Jvm.MethodName) jdk_68_method_71_code (2 : Nat) (Option.none : Option Jvm.ClassFile.FieldType)).before args0 about1 = true := code_word (m := ⟨17, 9⟩) (meth := k17m9) (c := k17c9) (by decide +kernel) rfl rfl rfl (by decide +kernel)
set_option maxRecDepth 65536 in
theorem w_c40 : (Jvm.Cond.code ({ cls := "java/lang/String", name := "getBytes", desc := "([BIB)V" } : Jvm.MethodName) jdk_42_method_147_code (4 : Nat) (Option.none : Option Jvm.ClassFile.FieldType)).before args0 about1 = true := code_word (m := ⟨9, 6⟩) (meth := k9m6) (c := k9c6) (by decide +kernel) rfl rfl rfl (by decide +kernel)
set_option maxRecDepth 65536 in
theorem w_c41 : (Jvm.Cond.code ({ cls := "java/lang/StringBuilder", name := "toString", desc := "()Ljava/lang/String;" } : Jvm.MethodName) jdk_67_method_42_code (1 : Nat) (Option.some (Jvm.ClassFile.FieldType.object "java/lang/String"))).before args0 about1 = true := code_word (m := ⟨18, 3⟩) (meth := k18m3) (c := k18c3) (by decide +kernel) rfl rfl rfl (by decide +kernel)
set_option maxRecDepth 65536 in
theorem w_c42 : (Jvm.Cond.code ({ cls := "java/lang/String", name := "<init>", desc := "(Ljava/lang/StringBuilder;)V" } : Jvm.MethodName) jdk_42_method_53_code (2 : Nat) (Option.none : Option Jvm.ClassFile.FieldType)).before args0 about1 = true := code_word (m := ⟨9, 2⟩) (meth := k9m2) (c := k9c2) (by decide +kernel) rfl rfl rfl (by decide +kernel)
set_option maxRecDepth 65536 in
theorem w_c43 : (Jvm.Cond.code ({ cls := "java/lang/String", name := "<init>", desc := "(Ljava/lang/AbstractStringBuilder;Ljava/lang/Void;)V" } : Jvm.MethodName) jdk_42_method_150_code (5 : Nat) (Option.none : Option Jvm.ClassFile.FieldType)).before args0 about1 = true := code_word (m := ⟨9, 8⟩) (meth := k9m8) (c := k9c8) (by decide +kernel) rfl rfl rfl (by decide +kernel)
set_option maxRecDepth 65536 in
theorem w_c44 : (Jvm.Cond.code ({ cls := "java/lang/AbstractStringBuilder", name := "getValue", desc := "()[B" } : Jvm.MethodName) jdk_68_method_64_code (1 : Nat) (Option.some (Jvm.ClassFile.FieldType.array Jvm.ClassFile.FieldType.byte))).before args0 about1 = true := code_word (m := ⟨17, 7⟩) (meth := k17m7) (c := k17c7) (by decide +kernel) rfl rfl rfl (by decide +kernel)
set_option maxRecDepth 65536 in
theorem w_c45 : (Jvm.Cond.code ({ cls := "java/lang/StringBuilder", name := "length", desc := "()I" } : Jvm.MethodName) jdk_67_method_93_code (1 : Nat) (Option.some Jvm.ClassFile.FieldType.int)).before args0 about1 = true := code_word (m := ⟨18, 4⟩) (meth := k18m4) (c := k18c4) (by decide +kernel) rfl rfl rfl (by decide +kernel)
set_option maxRecDepth 65536 in
theorem w_c46 : (Jvm.Cond.code ({ cls := "java/lang/AbstractStringBuilder", name := "length", desc := "()I" } : Jvm.MethodName) jdk_68_method_6_code (1 : Nat) (Option.some Jvm.ClassFile.FieldType.int)).before args0 about1 = true := code_word (m := ⟨17, 2⟩) (meth := k17m2) (c := k17c2) (by decide +kernel) rfl rfl rfl (by decide +kernel)
set_option maxRecDepth 65536 in
theorem w_c47 : (Jvm.Cond.code ({ cls := "java/util/Arrays", name := "copyOfRange", desc := "([BII)[B" } : Jvm.MethodName) jdk_65_method_132_code (3 : Nat) (Option.some (Jvm.ClassFile.FieldType.array Jvm.ClassFile.FieldType.byte))).before args0 about1 = true := code_word (m := ⟨22, 3⟩) (meth := k22m3) (c := k22c3) (by decide +kernel) rfl rfl rfl (by decide +kernel)
set_option maxRecDepth 65536 in
theorem w_c48 : (Jvm.Cond.code ({ cls := "java/util/Arrays", name := "copyOfRangeByte", desc := "([BII)[B" } : Jvm.MethodName) jdk_65_method_133_code (5 : Nat) (Option.some (Jvm.ClassFile.FieldType.array Jvm.ClassFile.FieldType.byte))).before args0 about1 = true := code_word (m := ⟨22, 4⟩) (meth := k22m4) (c := k22c4) (by decide +kernel) rfl rfl rfl (by decide +kernel)
set_option maxRecDepth 65536 in
theorem w_c49 : (Jvm.Cond.code ({ cls := "java/util/Arrays", name := "checkLength", desc := "(II)V" } : Jvm.MethodName) jdk_65_method_131_code (2 : Nat) (Option.none : Option Jvm.ClassFile.FieldType)).before args0 about1 = true := code_word (m := ⟨22, 2⟩) (meth := k22m2) (c := k22c2) (by decide +kernel) rfl rfl rfl (by decide +kernel)
set_option maxRecDepth 65536 in
theorem w_c50 : (Jvm.Cond.code ({ cls := "java/lang/Math", name := "min", desc := "(II)I" } : Jvm.MethodName) jdk_29_method_69_code (2 : Nat) (Option.some Jvm.ClassFile.FieldType.int)).before args0 about1 = true := code_word (m := ⟨23, 2⟩) (meth := k23m2) (c := k23c2) (by decide +kernel) rfl rfl rfl (by decide +kernel)
set_option maxRecDepth 65536 in
theorem w_c51 : (Jvm.Cond.code ({ cls := "com/example/interleave/interleave/core/OperationToStringPinLaw", name := "put", desc := "([CII[II)V" } : Jvm.MethodName) method_4_code (5 : Nat) (Option.none : Option Jvm.ClassFile.FieldType)).before args0 about1 = true := code_word (m := ⟨1, 3⟩) (meth := k1m3) (c := k1c3) (by decide +kernel) rfl rfl rfl (by decide +kernel)
set_option maxRecDepth 65536 in
theorem w_c52 : (Jvm.Cond.code ({ cls := "com/example/interleave/interleave/core/OperationToStringPinLaw", name := "at", desc := "(Ljava/lang/String;[CII)Z" } : Jvm.MethodName) method_5_code (4 : Nat) (Option.some Jvm.ClassFile.FieldType.boolean)).before args0 about1 = true := code_word (m := ⟨1, 4⟩) (meth := k1m4) (c := k1c4) (by decide +kernel) rfl rfl rfl (by decide +kernel)
set_option maxRecDepth 65536 in
theorem w_c53 : (Jvm.Cond.code ({ cls := "com/example/interleave/interleave/core/Operation", name := "isAsciiDigit", desc := "(C)Z" } : Jvm.MethodName) prog_23_method_9_code (1 : Nat) (Option.some Jvm.ClassFile.FieldType.boolean)).before args0 about1 = true := code_word (m := ⟨12, 5⟩) (meth := k12m5) (c := k12c5) (by decide +kernel) rfl rfl rfl (by decide +kernel)
set_option maxRecDepth 65536 in
theorem w_c54 : (Jvm.Cond.code ({ cls := "java/lang/AbstractStringBuilder", name := "newCapacity", desc := "(I)I" } : Jvm.MethodName) jdk_68_method_10_code (6 : Nat) (Option.some Jvm.ClassFile.FieldType.int)).before args0 about1 = true := code_word (m := ⟨17, 4⟩) (meth := k17m4) (c := k17c4) (by decide +kernel) rfl rfl rfl (by decide +kernel)
set_option maxRecDepth 65536 in
theorem w_c55 : (Jvm.Cond.code ({ cls := "jdk/internal/util/ArraysSupport", name := "newLength", desc := "(III)I" } : Jvm.MethodName) jdk_48_method_27_code (4 : Nat) (Option.some Jvm.ClassFile.FieldType.int)).before args0 about1 = true := code_word (m := ⟨24, 1⟩) (meth := k24m1) (c := k24c1) (by decide +kernel) rfl rfl rfl (by decide +kernel)
set_option maxRecDepth 65536 in
theorem w_c56 : (Jvm.Cond.code ({ cls := "java/lang/Math", name := "max", desc := "(II)I" } : Jvm.MethodName) jdk_29_method_65_code (2 : Nat) (Option.some Jvm.ClassFile.FieldType.int)).before args0 about1 = true := code_word (m := ⟨23, 1⟩) (meth := k23m1) (c := k23c1) (by decide +kernel) rfl rfl rfl (by decide +kernel)
set_option maxRecDepth 65536 in
theorem w_c57 : (Jvm.Cond.code ({ cls := "java/util/Arrays", name := "copyOf", desc := "([BI)[B" } : Jvm.MethodName) jdk_65_method_121_code (3 : Nat) (Option.some (Jvm.ClassFile.FieldType.array Jvm.ClassFile.FieldType.byte))).before args0 about1 = true := code_word (m := ⟨22, 1⟩) (meth := k22m1) (c := k22c1) (by decide +kernel) rfl rfl rfl (by decide +kernel)
def codes1 : List Jvm.Cond := [Jvm.Cond.code x code maxLocals ret, Jvm.Cond.code ({ cls := "com/example/interleave/interleave/core/OperationToStringPinLaw", name := "ch", desc := "(I)C" } : Jvm.MethodName) method_3_code (1 : Nat) (Option.some Jvm.ClassFile.FieldType.char), Jvm.Cond.code ({ cls := "java/lang/String", name := "<init>", desc := "([C)V" } : Jvm.MethodName) jdk_42_method_3_code (2 : Nat) (Option.none : Option Jvm.ClassFile.FieldType), Jvm.Cond.code ({ cls := "java/lang/String", name := "<init>", desc := "([CIILjava/lang/Void;)V" } : Jvm.MethodName) jdk_42_method_149_code (6 : Nat) (Option.none : Option Jvm.ClassFile.FieldType), Jvm.Cond.code ({ cls := "java/lang/Object", name := "<init>", desc := "()V" } : Jvm.MethodName) object_method_1_code (1 : Nat) (Option.none : Option Jvm.ClassFile.FieldType), Jvm.Cond.code ({ cls := "java/lang/StringUTF16", name := "compress", desc := "([CII)[B" } : Jvm.MethodName) jdk_52_method_16_code (6 : Nat) (Option.some (Jvm.ClassFile.FieldType.array Jvm.ClassFile.FieldType.byte)), Jvm.Cond.code ({ cls := "java/lang/StringUTF16", name := "compress", desc := "([CI[BII)I" } : Jvm.MethodName) jdk_52_method_21_code (7 : Nat) (Option.some Jvm.ClassFile.FieldType.int), Jvm.Cond.code ({ cls := "java/lang/StringUTF16", name := "coderFromArrayLen", desc := "([BI)B" } : Jvm.MethodName) jdk_52_method_15_code (2 : Nat) (Option.some Jvm.ClassFile.FieldType.byte), Jvm.Cond.code ({ cls := "com/example/interleave/interleave/core/Operation", name := "<init>", desc := "(Lcom/example/interleave/interleave/core/Operation$Kind;ILjava/lang/String;)V" } : Jvm.MethodName) prog_23_method_1_code (5 : Nat) (Option.none : Option Jvm.ClassFile.FieldType), Jvm.Cond.code ({ cls := "java/lang/Record", name := "<init>", desc := "()V" } : Jvm.MethodName) jdk_30_method_1_code (1 : Nat) (Option.none : Option Jvm.ClassFile.FieldType), Jvm.Cond.code ({ cls := "java/util/Objects", name := "requireNonNull", desc := "(Ljava/lang/Object;Ljava/lang/String;)Ljava/lang/Object;" } : Jvm.MethodName) jdk_31_method_11_code (2 : Nat) (Option.some (Jvm.ClassFile.FieldType.object "java/lang/Object")), Jvm.Cond.code ({ cls := "com/example/interleave/interleave/core/Operation", name := "fault", desc := "(Lcom/example/interleave/interleave/core/Operation$Kind;ILjava/lang/String;)Ljava/lang/String;" } : Jvm.MethodName) prog_23_method_4_code (4 : Nat) (Option.some (Jvm.ClassFile.FieldType.object "java/lang/String")), Jvm.Cond.code ({ cls := "com/example/interleave/interleave/core/Operation$Kind", name := "onItem", desc := "()Z" } : Jvm.MethodName) prog_24_method_5_code (1 : Nat) (Option.some Jvm.ClassFile.FieldType.boolean), Jvm.Cond.code ({ cls := "com/example/interleave/interleave/core/Operation", name := "itemFault", desc := "(Ljava/lang/String;)Ljava/lang/String;" } : Jvm.MethodName) prog_23_method_5_code (3 : Nat) (Option.some (Jvm.ClassFile.FieldType.object "java/lang/String")), Jvm.Cond.code ({ cls := "java/lang/String", name := "isEmpty", desc := "()Z" } : Jvm.MethodName) jdk_42_method_55_code (1 : Nat) (Option.some Jvm.ClassFile.FieldType.boolean), Jvm.Cond.code ({ cls := "java/lang/String", name := "length", desc := "()I" } : Jvm.MethodName) jdk_42_method_54_code (1 : Nat) (Option.some Jvm.ClassFile.FieldType.int), Jvm.Cond.code ({ cls := "java/lang/String", name := "coder", desc := "()B" } : Jvm.MethodName) jdk_42_method_152_code (1 : Nat) (Option.some Jvm.ClassFile.FieldType.byte), Jvm.Cond.code ({ cls := "java/lang/String", name := "charAt", desc := "(I)C" } : Jvm.MethodName) jdk_42_method_56_code (2 : Nat) (Option.some Jvm.ClassFile.FieldType.char), Jvm.Cond.code ({ cls := "java/lang/String", name := "isLatin1", desc := "()Z" } : Jvm.MethodName) jdk_42_method_154_code (1 : Nat) (Option.some Jvm.ClassFile.FieldType.boolean), Jvm.Cond.code ({ cls := "java/lang/StringLatin1", name := "charAt", desc := "([BI)C" } : Jvm.MethodName) jdk_43_method_2_code (2 : Nat) (Option.some Jvm.ClassFile.FieldType.char), Jvm.Cond.code ({ cls := "java/lang/String", name := "checkIndex", desc := "(II)V" } : Jvm.MethodName) jdk_42_method_155_code (2 : Nat) (Option.none : Option Jvm.ClassFile.FieldType), Jvm.Cond.code ({ cls := "jdk/internal/util/Preconditions", name := "checkIndex", desc := "(IILjava/util/function/BiFunction;)I" } : Jvm.MethodName) jdk_41_method_11_code (3 : Nat) (Option.some Jvm.ClassFile.FieldType.int), Jvm.Cond.code ({ cls := "com/example/interleave/interleave/core/Operation", name := "isAsciiLetter", desc := "(C)Z" } : Jvm.MethodName) prog_23_method_8_code (1 : Nat) (Option.some Jvm.ClassFile.FieldType.boolean), Jvm.Cond.code ({ cls := "com/example/interleave/interleave/core/Operation", name := "toString", desc := "()Ljava/lang/String;" } : Jvm.MethodName) prog_23_method_3_code (2 : Nat) (Option.some (Jvm.ClassFile.FieldType.object "java/lang/String")), Jvm.Cond.code ({ cls := "java/lang/StringBuilder", name := "<init>", desc := "()V" } : Jvm.MethodName) jdk_67_method_1_code (1 : Nat) (Option.none : Option Jvm.ClassFile.FieldType), Jvm.Cond.code ({ cls := "java/lang/AbstractStringBuilder", name := "<init>", desc := "(I)V" } : Jvm.MethodName) jdk_68_method_2_code (2 : Nat) (Option.none : Option Jvm.ClassFile.FieldType), Jvm.Cond.code ({ cls := "com/example/interleave/interleave/core/Operation$Kind", name := "letter", desc := "()C" } : Jvm.MethodName) prog_24_method_4_code (1 : Nat) (Option.some Jvm.ClassFile.FieldType.char), Jvm.Cond.code ({ cls := "java/lang/StringBuilder", name := "append", desc := "(C)Ljava/lang/StringBuilder;" } : Jvm.MethodName) jdk_67_method_14_code (2 : Nat) (Option.some (Jvm.ClassFile.FieldType.object "java/lang/StringBuilder")), Jvm.Cond.code ({ cls := "java/lang/AbstractStringBuilder", name := "append", desc := "(C)Ljava/lang/AbstractStringBuilder;" } : Jvm.MethodName) jdk_68_method_31_code (2 : Nat) (Option.some (Jvm.ClassFile.FieldType.object "java/lang/AbstractStringBuilder")), Jvm.Cond.code ({ cls := "java/lang/AbstractStringBuilder", name := "ensureCapacityInternal", desc := "(I)V" } : Jvm.MethodName) jdk_68_method_9_code (3 : Nat) (Option.none : Option Jvm.ClassFile.FieldType), Jvm.Cond.code ({ cls := "java/lang/AbstractStringBuilder", name := "isLatin1", desc := "()Z" } : Jvm.MethodName) jdk_68_method_68_code (1 : Nat) (Option.some Jvm.ClassFile.FieldType.boolean), Jvm.Cond.code ({ cls := "java/lang/StringLatin1", name := "canEncode", desc := "(C)Z" } : Jvm.MethodName) jdk_43_method_3_code (1 : Nat) (Option.some Jvm.ClassFile.FieldType.boolean), Jvm.Cond.code ({ cls := "java/lang/Integer", name := "toString", desc := "(I)Ljava/lang/String;" } : Jvm.MethodName) jdk_33_method_10_code (3 : Nat) (Option.some (Jvm.ClassFile.FieldType.object "java/lang/String")), Jvm.Cond.code ({ cls := "java/lang/Integer", name := "stringSize", desc := "(I)I" } : Jvm.MethodName) jdk_33_method_13_code (4 : Nat) (Option.some Jvm.ClassFile.FieldType.int), Jvm.Cond.code ({ cls := "java/lang/Integer", name := "getChars", desc := "(II[B)I" } : Jvm.MethodName) jdk_33_method_12_code (7 : Nat) (Option.some Jvm.ClassFile.FieldType.int), Jvm.Cond.code ({ cls := "java/lang/String", name := "<init>", desc := "([BB)V" } : Jvm.MethodName) jdk_42_method_151_code (3 : Nat) (Option.none : Option Jvm.ClassFile.FieldType), Jvm.Cond.code ({ cls := "java/lang/StringBuilder", name := "append", desc := "(Ljava/lang/String;)Ljava/lang/StringBuilder;" } : Jvm.MethodName) jdk_67_method_7_code (2 : Nat) (Option.some (Jvm.ClassFile.FieldType.object "java/lang/StringBuilder")), Jvm.Cond.code ({ cls := "java/lang/AbstractStringBuilder", name := "append", desc := "(Ljava/lang/String;)Ljava/lang/AbstractStringBuilder;" } : Jvm.MethodName) jdk_68_method_22_code (3 : Nat) (Option.some (Jvm.ClassFile.FieldType.object "java/lang/AbstractStringBuilder")), Jvm.Cond.code ({ cls := "java/lang/AbstractStringBuilder", name := "putStringAt", desc := "(ILjava/lang/String;)V" } : Jvm.MethodName) jdk_68_method_73_code (3 : Nat) (Option.none : Option Jvm.ClassFile.FieldType), Jvm.Cond.code ({ cls := "java/lang/AbstractStringBuilder", name := "inflateIfNeededFor", desc := "(Ljava/lang/String;)V" } : Jvm.MethodName) jdk_68_method_71_code (2 : Nat) (Option.none : Option Jvm.ClassFile.FieldType), Jvm.Cond.code ({ cls := "java/lang/String", name := "getBytes", desc := "([BIB)V" } : Jvm.MethodName) jdk_42_method_147_code (4 : Nat) (Option.none : Option Jvm.ClassFile.FieldType), Jvm.Cond.code ({ cls := "java/lang/StringBuilder", name := "toString", desc := "()Ljava/lang/String;" } : Jvm.MethodName) jdk_67_method_42_code (1 : Nat) (Option.some (Jvm.ClassFile.FieldType.object "java/lang/String")), Jvm.Cond.code ({ cls := "java/lang/String", name := "<init>", desc := "(Ljava/lang/StringBuilder;)V" } : Jvm.MethodName) jdk_42_method_53_code (2 : Nat) (Option.none : Option Jvm.ClassFile.FieldType), Jvm.Cond.code ({ cls := "java/lang/String", name := "<init>", desc := "(Ljava/lang/AbstractStringBuilder;Ljava/lang/Void;)V" } : Jvm.MethodName) jdk_42_method_150_code (5 : Nat) (Option.none : Option Jvm.ClassFile.FieldType), Jvm.Cond.code ({ cls := "java/lang/AbstractStringBuilder", name := "getValue", desc := "()[B" } : Jvm.MethodName) jdk_68_method_64_code (1 : Nat) (Option.some (Jvm.ClassFile.FieldType.array Jvm.ClassFile.FieldType.byte)), Jvm.Cond.code ({ cls := "java/lang/StringBuilder", name := "length", desc := "()I" } : Jvm.MethodName) jdk_67_method_93_code (1 : Nat) (Option.some Jvm.ClassFile.FieldType.int), Jvm.Cond.code ({ cls := "java/lang/AbstractStringBuilder", name := "length", desc := "()I" } : Jvm.MethodName) jdk_68_method_6_code (1 : Nat) (Option.some Jvm.ClassFile.FieldType.int), Jvm.Cond.code ({ cls := "java/util/Arrays", name := "copyOfRange", desc := "([BII)[B" } : Jvm.MethodName) jdk_65_method_132_code (3 : Nat) (Option.some (Jvm.ClassFile.FieldType.array Jvm.ClassFile.FieldType.byte)), Jvm.Cond.code ({ cls := "java/util/Arrays", name := "copyOfRangeByte", desc := "([BII)[B" } : Jvm.MethodName) jdk_65_method_133_code (5 : Nat) (Option.some (Jvm.ClassFile.FieldType.array Jvm.ClassFile.FieldType.byte)), Jvm.Cond.code ({ cls := "java/util/Arrays", name := "checkLength", desc := "(II)V" } : Jvm.MethodName) jdk_65_method_131_code (2 : Nat) (Option.none : Option Jvm.ClassFile.FieldType), Jvm.Cond.code ({ cls := "java/lang/Math", name := "min", desc := "(II)I" } : Jvm.MethodName) jdk_29_method_69_code (2 : Nat) (Option.some Jvm.ClassFile.FieldType.int), Jvm.Cond.code ({ cls := "com/example/interleave/interleave/core/OperationToStringPinLaw", name := "put", desc := "([CII[II)V" } : Jvm.MethodName) method_4_code (5 : Nat) (Option.none : Option Jvm.ClassFile.FieldType), Jvm.Cond.code ({ cls := "com/example/interleave/interleave/core/OperationToStringPinLaw", name := "at", desc := "(Ljava/lang/String;[CII)Z" } : Jvm.MethodName) method_5_code (4 : Nat) (Option.some Jvm.ClassFile.FieldType.boolean), Jvm.Cond.code ({ cls := "com/example/interleave/interleave/core/Operation", name := "isAsciiDigit", desc := "(C)Z" } : Jvm.MethodName) prog_23_method_9_code (1 : Nat) (Option.some Jvm.ClassFile.FieldType.boolean), Jvm.Cond.code ({ cls := "java/lang/AbstractStringBuilder", name := "newCapacity", desc := "(I)I" } : Jvm.MethodName) jdk_68_method_10_code (6 : Nat) (Option.some Jvm.ClassFile.FieldType.int), Jvm.Cond.code ({ cls := "jdk/internal/util/ArraysSupport", name := "newLength", desc := "(III)I" } : Jvm.MethodName) jdk_48_method_27_code (4 : Nat) (Option.some Jvm.ClassFile.FieldType.int), Jvm.Cond.code ({ cls := "java/lang/Math", name := "max", desc := "(II)I" } : Jvm.MethodName) jdk_29_method_65_code (2 : Nat) (Option.some Jvm.ClassFile.FieldType.int), Jvm.Cond.code ({ cls := "java/util/Arrays", name := "copyOf", desc := "([BI)[B" } : Jvm.MethodName) jdk_65_method_121_code (3 : Nat) (Option.some (Jvm.ClassFile.FieldType.array Jvm.ClassFile.FieldType.byte))]
set_option maxRecDepth 65536 in
theorem codes_eq : words1.filter isCode = codes1 := rfl
theorem w_codes : ∀ c ∈ words1.filter isCode, c.before args0 about1 = true := by
  rw [codes_eq]
  intro c hc
  simp only [codes1, List.mem_cons, List.not_mem_nil, or_false] at hc
  rcases hc with rfl | rfl | rfl | rfl | rfl | rfl | rfl | rfl | rfl | rfl | rfl | rfl | rfl | rfl | rfl | rfl | rfl | rfl | rfl | rfl | rfl | rfl | rfl | rfl | rfl | rfl | rfl | rfl | rfl | rfl | rfl | rfl | rfl | rfl | rfl | rfl | rfl | rfl | rfl | rfl | rfl | rfl | rfl | rfl | rfl | rfl | rfl | rfl | rfl | rfl | rfl | rfl | rfl | rfl | rfl | rfl | rfl | rfl
  · exact w_c0
  · exact w_c1
  · exact w_c2
  · exact w_c3
  · exact w_c4
  · exact w_c5
  · exact w_c6
  · exact w_c7
  · exact w_c8
  · exact w_c9
  · exact w_c10
  · exact w_c11
  · exact w_c12
  · exact w_c13
  · exact w_c14
  · exact w_c15
  · exact w_c16
  · exact w_c17
  · exact w_c18
  · exact w_c19
  · exact w_c20
  · exact w_c21
  · exact w_c22
  · exact w_c23
  · exact w_c24
  · exact w_c25
  · exact w_c26
  · exact w_c27
  · exact w_c28
  · exact w_c29
  · exact w_c30
  · exact w_c31
  · exact w_c32
  · exact w_c33
  · exact w_c34
  · exact w_c35
  · exact w_c36
  · exact w_c37
  · exact w_c38
  · exact w_c39
  · exact w_c40
  · exact w_c41
  · exact w_c42
  · exact w_c43
  · exact w_c44
  · exact w_c45
  · exact w_c46
  · exact w_c47
  · exact w_c48
  · exact w_c49
  · exact w_c50
  · exact w_c51
  · exact w_c52
  · exact w_c53
  · exact w_c54
  · exact w_c55
  · exact w_c56
  · exact w_c57
set_option maxRecDepth 65536 in
theorem w_t1 : (words1.take 24).all (fun c => isCode c || c.before args0 about1) = true := by decide +kernel
set_option maxRecDepth 65536 in
theorem w_t2 : ((words1.drop 24).take 24).all (fun c => isCode c || c.before args0 about1) = true := by decide +kernel
set_option maxRecDepth 65536 in
theorem w_t3 : (((words1.drop 24).drop 24).take 24).all (fun c => isCode c || c.before args0 about1) = true := by decide +kernel
set_option maxRecDepth 65536 in
theorem w_t4 : ((((words1.drop 24).drop 24).drop 24).take 24).all (fun c => isCode c || c.before args0 about1) = true := by decide +kernel
set_option maxRecDepth 65536 in
theorem w_t5 : (((((words1.drop 24).drop 24).drop 24).drop 24).take 24).all (fun c => isCode c || c.before args0 about1) = true := by decide +kernel
set_option maxRecDepth 65536 in
theorem w_t6 : ((((((words1.drop 24).drop 24).drop 24).drop 24).drop 24).take 24).all (fun c => isCode c || c.before args0 about1) = true := by decide +kernel
set_option maxRecDepth 65536 in
theorem w_t7 : (((((((words1.drop 24).drop 24).drop 24).drop 24).drop 24).drop 24).take 24).all (fun c => isCode c || c.before args0 about1) = true := by decide +kernel
set_option maxRecDepth 65536 in
theorem w_t8 : ((((((((words1.drop 24).drop 24).drop 24).drop 24).drop 24).drop 24).drop 24).take 24).all (fun c => isCode c || c.before args0 about1) = true := by decide +kernel
set_option maxRecDepth 65536 in
theorem w_t9 : (((((((((words1.drop 24).drop 24).drop 24).drop 24).drop 24).drop 24).drop 24).drop 24).take 24).all (fun c => isCode c || c.before args0 about1) = true := by decide +kernel
set_option maxRecDepth 65536 in
theorem w_t10 : ((((((((((words1.drop 24).drop 24).drop 24).drop 24).drop 24).drop 24).drop 24).drop 24).drop 24).take 24).all (fun c => isCode c || c.before args0 about1) = true := by decide +kernel
set_option maxRecDepth 65536 in
theorem w_t11 : (((((((((((words1.drop 24).drop 24).drop 24).drop 24).drop 24).drop 24).drop 24).drop 24).drop 24).drop 24).take 24).all (fun c => isCode c || c.before args0 about1) = true := by decide +kernel
set_option maxRecDepth 65536 in
theorem w_t12 : ((((((((((((words1.drop 24).drop 24).drop 24).drop 24).drop 24).drop 24).drop 24).drop 24).drop 24).drop 24).drop 24).take 24).all (fun c => isCode c || c.before args0 about1) = true := by decide +kernel
set_option maxRecDepth 65536 in
theorem w_t13 : ((((((((((((words1.drop 24).drop 24).drop 24).drop 24).drop 24).drop 24).drop 24).drop 24).drop 24).drop 24).drop 24).drop 24).all (fun c => isCode c || c.before args0 about1) = true := by decide +kernel
theorem w_tables : (allAtoms (Jvm.Cond.code x code maxLocals ret :: tables_1)).before args0 about1 = true := by
  rw [allAtoms_all]
  show words1.all (fun c => c.before args0 about1) = true
  refine all_split ?_ w_codes
  rw [← List.take_append_drop 24 words1, List.all_append, w_t1, ← List.take_append_drop 24 (words1.drop 24), List.all_append, w_t2, ← List.take_append_drop 24 ((words1.drop 24).drop 24), List.all_append, w_t3, ← List.take_append_drop 24 (((words1.drop 24).drop 24).drop 24), List.all_append, w_t4, ← List.take_append_drop 24 ((((words1.drop 24).drop 24).drop 24).drop 24), List.all_append, w_t5, ← List.take_append_drop 24 (((((words1.drop 24).drop 24).drop 24).drop 24).drop 24), List.all_append, w_t6, ← List.take_append_drop 24 ((((((words1.drop 24).drop 24).drop 24).drop 24).drop 24).drop 24), List.all_append, w_t7, ← List.take_append_drop 24 (((((((words1.drop 24).drop 24).drop 24).drop 24).drop 24).drop 24).drop 24), List.all_append, w_t8, ← List.take_append_drop 24 ((((((((words1.drop 24).drop 24).drop 24).drop 24).drop 24).drop 24).drop 24).drop 24), List.all_append, w_t9, ← List.take_append_drop 24 (((((((((words1.drop 24).drop 24).drop 24).drop 24).drop 24).drop 24).drop 24).drop 24).drop 24), List.all_append, w_t10, ← List.take_append_drop 24 ((((((((((words1.drop 24).drop 24).drop 24).drop 24).drop 24).drop 24).drop 24).drop 24).drop 24).drop 24), List.all_append, w_t11, ← List.take_append_drop 24 (((((((((((words1.drop 24).drop 24).drop 24).drop 24).drop 24).drop 24).drop 24).drop 24).drop 24).drop 24).drop 24), List.all_append, w_t12, w_t13]
  rfl
set_option maxRecDepth 65536 in
theorem w_rest : rest_1_c.before args0 about1 = true := by decide +kernel
set_option maxRecDepth 65536 in
theorem w_case : (Jvm.Cond.and given_1 narrow_1).before args0 about1 = true := by decide +kernel
theorem w_applies : (headSpec (Jvm.Cond.code x code maxLocals ret :: tables_1) room_1).applies x e0.platform about1 = true :=
  (Spec.applies_iff w_frames).mpr ⟨w_running, w_runnable, w_alone, w_named, w_hears, w_ripe, w_room, w_tables⟩
theorem atStart : AtStart classFile x code maxLocals ret World_1 tables_1 room_1 Calls_1 rest_1 Pre_1 launch0 p0 e0 about1 theMethod args0 below0 :=
  ⟨lists_1, trivial, launch0.admits_env _ _ _, launch0.least_env, fairChoices_fair.cas, fairChoices_fair.clock, w_frames, w_args, w_heap, w_applies, trivial, w_rest, w_case⟩
end start1
theorem witness_1 : WitnessClaimed_1 := ⟨start1.p0, start1.e0, start1.about1, start1.theMethod, start1.args0, start1.below0, start1.atStart⟩
end Jvm.Pilot.@@N@@
