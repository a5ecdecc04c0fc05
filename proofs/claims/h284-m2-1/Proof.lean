import JvmDerived
import JvmDerived.Pilot.@@N@@Statement
import JvmDerived.Pilot.@@N@@Code
set_option linter.unusedVariables false
set_option linter.unusedSimpArgs false
/- laws to paste: Road.backV (cut by pick.py; bodies as the Statement names them) -/
namespace Jvm.Pilot.@@N@@
namespace StrChars
open Jvm Sem ClassFile Op Lib Jvm.Stand Jvm.Free.XT Jvm.Free.ALB Jvm.Free.JM Jvm.Free
open Jvm.Lib.Cold (StaticIs)
/-- a char array whose places are chars -/
def Ch (a : Addr) (A : Cell) (U : State) : Prop := Arr .char a A U ∧ Typed .char A
theorem Ch.mv {a : Addr} {A : Cell} {U U' : State} (h : Ch a A U) (hal : U.vm.Alike U'.vm) (hh : U'.heap = U.heap) : Ch a A U' := ⟨h.1.mv hal hh, h.2⟩
theorem Ch.keep {a : Addr} {A : Cell} {U U' : State} (h : Ch a A U) (hal : U.vm.Alike U'.vm) (hk : U'.heap[a]? = some A) : Ch a A U' := ⟨h.1.keep hal hk, h.2⟩
/-- what place i of a char[]'s cell holds -/
def cv (A : Cell) (i : Nat) : Int32 := match A.slots[i]? with | some (.int x) => x | _ => 0
theorem Ch.get {a : Addr} {A : Cell} {U : State} (h : Ch a A U) {i : Nat} (hi : i < A.slots.size) : A.slots[i]? = some (.int (cv A i)) := by
  have e := Array.getElem?_eq_getElem hi
  have f := h.2 i _ e
  unfold cv; rw [e]
  generalize A.slots[i] = v at f
  cases v <;> simp [fits] at f ⊢
/-- the byte that i2b leaves of a char -/
def lo8 (x : Int32) : Int32 := x.toInt8.toInt32
theorem fits_lo8 (y : Int32) : fits .byte (.int (lo8 y)) = true := by
  have h1 := y.toInt8.le_toInt
  have h2 := y.toInt8.toInt_lt
  simp only [lo8, fits, Bool.and_eq_true, decide_eq_true_eq, Int32.le_iff_toInt_le, Int8.toInt_toInt32, show (-128 : Int32).toInt = -128 from by decide, show (127 : Int32).toInt = 127 from by decide]
  omega
/-- A' is A but that each place j of lo .. hi - 1 holds f j -/
def Laid (A A' : Cell) (lo hi : Nat) (f : Nat → Value) : Prop := A'.cls = A.cls ∧ A'.vm = A.vm ∧ A'.slots.size = A.slots.size ∧ ∀ i, A'.slots[i]? = if lo ≤ i ∧ i < hi then some (f i) else A.slots[i]?
theorem Laid.zero (A : Cell) (lo : Nat) (f : Nat → Value) : Laid A A lo (lo + 0) f := ⟨rfl, rfl, rfl, fun i => by rw [if_neg (by omega)]⟩
theorem Laid.step {A Ak : Cell} {lo k : Nat} {f : Nat → Value} {v : Value} (h : Laid A Ak lo k f) (hlo : lo ≤ k) (hk : k < Ak.slots.size) (hv : v = f k) : Laid A (Ak.setSlot k v) lo (k + 1) f := by
  refine ⟨h.1, h.2.1, by simpa [Cell.setSlot] using h.2.2.1, fun i => ?_⟩
  by_cases e : k = i
  · subst e; rw [Cell.slots_setSlot_self v hk, if_pos (by omega), hv]
  · rw [Cell.slots_setSlot_ne v e, h.2.2.2 i]
    by_cases q : lo ≤ i ∧ i < k
    · rw [if_pos q, if_pos (by omega)]
    · rw [if_neg q, if_neg (by omega)]
def U16 : String := "java/lang/StringUTF16"
namespace Cmp5
def yN : MethodName := ⟨"java/lang/StringUTF16", "compress", "([CI[BII)I"⟩
abbrev yB : ByteArray := jdk_52_method_21_code
theorem d0 : decode yB 0 = .ok (.iconst 0, 1) := by decide +kernel
theorem d1 : decode yB 1 = .ok (.istore 5, 2) := by decide +kernel
theorem d3 : decode yB 3 = .ok (.iload 5, 2) := by decide +kernel
theorem d5 : decode yB 5 = .ok (.iload 4, 2) := by decide +kernel
theorem d7 : decode yB 7 = .ok (.if_icmp (.ge) 37, 3) := by decide +kernel
theorem d10 : decode yB 10 = .ok (.aload_n 0, 1) := by decide +kernel
theorem d11 : decode yB 11 = .ok (.iload_n 1, 1) := by decide +kernel
theorem d12 : decode yB 12 = .ok (.caload, 1) := by decide +kernel
theorem d13 : decode yB 13 = .ok (.istore 6, 2) := by decide +kernel
theorem d15 : decode yB 15 = .ok (.iload 6, 2) := by decide +kernel
theorem d17 : decode yB 17 = .ok (.sipush 255, 3) := by decide +kernel
theorem d20 : decode yB 20 = .ok (.if_icmp (.le) 6, 3) := by decide +kernel
theorem d26 : decode yB 26 = .ok (.aload_n 2, 1) := by decide +kernel
theorem d27 : decode yB 27 = .ok (.iload_n 3, 1) := by decide +kernel
theorem d28 : decode yB 28 = .ok (.iload 6, 2) := by decide +kernel
theorem d30 : decode yB 30 = .ok (.i2b, 1) := by decide +kernel
theorem d31 : decode yB 31 = .ok (.bastore, 1) := by decide +kernel
theorem d32 : decode yB 32 = .ok (.iinc 1 1, 3) := by decide +kernel
theorem d35 : decode yB 35 = .ok (.iinc 3 1, 3) := by decide +kernel
theorem d38 : decode yB 38 = .ok (.iinc 5 1, 3) := by decide +kernel
theorem d41 : decode yB 41 = .ok (.goto (-38), 3) := by decide +kernel
theorem d44 : decode yB 44 = .ok (.iload 4, 2) := by decide +kernel
theorem d46 : decode yB 46 = .ok (.ireturn, 1) := by decide +kernel
def site : List Cond := []
def tab : Cond := tabOf yN yB 7 (some .int) site
def P (b : Addr) (A : Cell) (d : Addr) (B : Cell) (o q len : Nat) (args : Array Value) (s : State) : Prop := args = #[.ref b, .int (Int32.ofNat o), .ref d, .int (Int32.ofNat q), .int (Int32.ofNat len)] ∧ Ch b A s ∧ Arr .byte d B s ∧ b ≠ d ∧ o + len ≤ A.slots.size ∧ q + len ≤ B.slots.size ∧ ∀ i, i < len → ¬ 255 < cv A (o + i)
def E (b : Addr) (A : Cell) (d : Addr) (B : Cell) (o q len : Nat) (r : Option Value) (s u : State) : Prop := r = some (.int (Int32.ofNat len)) ∧ ∃ B', Put d B' s u ∧ Laid B B' q (q + len) (fun j => Value.int (lo8 (cv A (o + (j - q)))))
/-- no char of the range above 255: len; the places written hold each char's low byte -/
theorem law (l : Launch) (b : Addr) (A : Cell) (d : Addr) (B : Cell) (o q len : Nat) : Law l yN 5 5 0 0 yB 7 (some .int) site (P b A d B o q len) (E b A d B o q len) (copyLocs d q len) 0 0 := by
  refine Law.of_walk (plainFor_of_name (by decide +kernel)) (by decide +kernel) (by decide +kernel) (by decide) (fun _ _ h => by rw [h.1]; rfl) (fun _ U U' hal hh h => ⟨h.1, h.2.1.mv hal hh, h.2.2.1.mv hal hh, h.2.2.2⟩) (fun r U U' V V' h1 hal h2 h => ⟨h.1, h.2.elim fun B' q => ⟨B', q.1.mv h1 h2, q.2⟩⟩) ?_
  intro p e s m args below meth c s₁ X0 hexec hbytes hml hret hlk hnm hown hh0 W hP
  obtain ⟨rfl, hA, hB, hne, l1, l2, hp⟩ := hP
  have c1 : Steps p.tables e below (s₁.setTop (entryFrame m #[.ref b, .int (Int32.ofNat o), .ref d, .int (Int32.ofNat q), .int (Int32.ofNat len)] 7)) (s₁.setTop (mkF m 0 #[.val (.ref b), .val (.int (Int32.ofNat o)), .val (.ref d), .val (.int (Int32.ofNat q)), .val (.int (Int32.ofNat len)), .unset, .unset] [])) := entry rfl
  have hA0 := hA.1.mv X0.warmed.alike hh0
  have hB0 := hB.mv X0.warmed.alike hh0
  have a31 := hA.1.2.2.2
  have c2 : Steps p.tables e below (s₁.setTop (entryFrame m #[.ref b, .int (Int32.ofNat o), .ref d, .int (Int32.ofNat q), .int (Int32.ofNat len)] 7)) (s₁.setTop (mkF m 3 #[.val (.ref b), .val (.int (Int32.ofNat o)), .val (.ref d), .val (.int (Int32.ofNat q)), .val (.int (Int32.ofNat len)), .val (.int 0), .unset] [])) := c1.trans (by
    refine iconstV X0.here hexec rfl 0 (hb hbytes d0) (by decide) ?_
    refine XS.istore X0.here hexec rfl (hb hbytes d1) rfl rfl ?_
    exact Steps.refl _)
  have loop : ∀ (r i : Nat), i + r = len → ∀ (z : Slot), (z = .unset ∨ ∃ w, z = .val w ∧ w.category = 1) → ∀ (Tl : State) (Bk : Cell), Stand p l e { frames := 0, locals := 0, cells := 0, slots := 0 } s m #[.ref b, .int (Int32.ofNat o), .ref d, .int (Int32.ofNat q), .int (Int32.ofNat len)] below meth c Tl ([] ++ copyLocs d q i) 0 0 → Put d Bk s₁ Tl → Laid B Bk q (q + i) (fun j => Value.int (lo8 (cv A (o + (j - q))))) →
      Steps p.tables e below (s₁.setTop (entryFrame m #[.ref b, .int (Int32.ofNat o), .ref d, .int (Int32.ofNat q), .int (Int32.ofNat len)] 7)) (Tl.setTop (mkF m 3 #[.val (.ref b), .val (.int (Int32.ofNat (o + i))), .val (.ref d), .val (.int (Int32.ofNat (q + i))), .val (.int (Int32.ofNat len)), .val (.int (Int32.ofNat i)), z] [])) → ∃ (T' : State) (B' : Cell) (z' : Slot), Stand p l e { frames := 0, locals := 0, cells := 0, slots := 0 } s m #[.ref b, .int (Int32.ofNat o), .ref d, .int (Int32.ofNat q), .int (Int32.ofNat len)] below meth c T' ([] ++ copyLocs d q len) 0 0 ∧ Put d B' s₁ T' ∧ Laid B B' q (q + len) (fun j => Value.int (lo8 (cv A (o + (j - q))))) ∧
      Steps p.tables e below (s₁.setTop (entryFrame m #[.ref b, .int (Int32.ofNat o), .ref d, .int (Int32.ofNat q), .int (Int32.ofNat len)] 7)) (T'.setTop (mkF m 3 #[.val (.ref b), .val (.int (Int32.ofNat (o + len))), .val (.ref d), .val (.int (Int32.ofNat (q + len))), .val (.int (Int32.ofNat len)), .val (.int (Int32.ofNat len)), z'] [])) := by
    intro r
    induction r with
    | zero =>
      intro i hi z hz Tl Bk Xl pl fl cl
      have hil : i = len := by omega
      rw [hil] at Xl fl cl
      exact ⟨Tl, Bk, z, Xl, pl, fl, cl⟩
    | succ r ih =>
      intro i hi z hz Tl Bk Xl pl fl cl
      have all := X0.warmed.alike.symm.trans Xl.warmed.alike
      have hAl := hA0.keep all (pl.other hne hA0.1)
      have hBk := hB0.like all pl.1 fl.1 fl.2.1 fl.2.2.1
      have hlt : q + i < Bk.slots.size := by rw [fl.2.2.1]; omega
      have c3 : Steps p.tables e below (s₁.setTop (entryFrame m #[.ref b, .int (Int32.ofNat o), .ref d, .int (Int32.ofNat q), .int (Int32.ofNat len)] 7)) (Tl.setTop (mkF m 12 #[.val (.ref b), .val (.int (Int32.ofNat (o + i))), .val (.ref d), .val (.int (Int32.ofNat (q + i))), .val (.int (Int32.ofNat len)), .val (.int (Int32.ofNat i)), z] [.int (Int32.ofNat (o + i)), .ref b])) := cl.trans (by
        refine XS.iload Xl.here hexec rfl (hb hbytes d3) rfl ?_
        refine XS.iload Xl.here hexec rfl (hb hbytes d5) rfl ?_
        refine XS.icmpNo Xl.here hexec rfl (hb hbytes d7) rfl (ii_ge_f (lt32 (by omega) (by omega))) ?_
        refine XS.aloadN Xl.here hexec rfl (hb hbytes d10) rfl rfl ?_
        refine XS.iloadN Xl.here hexec rfl (hb hbytes d11) rfl ?_
        exact Steps.refl _)
      have c4 : Steps p.tables e below (s₁.setTop (entryFrame m #[.ref b, .int (Int32.ofNat o), .ref d, .int (Int32.ofNat q), .int (Int32.ofNat len)] 7)) (Tl.setTop (mkF m 13 #[.val (.ref b), .val (.int (Int32.ofNat (o + i))), .val (.ref d), .val (.int (Int32.ofNat (q + i))), .val (.int (Int32.ofNat len)), .val (.int (Int32.ofNat i)), z] [.int (cv A (o + i))])) := c3.trans (by
        refine Xl.aget hexec hAl rfl (hA.get (i := o + i) (by omega)) rfl rfl (hb hbytes d12) ?_
        exact Steps.refl _)
      have c5 : Steps p.tables e below (s₁.setTop (entryFrame m #[.ref b, .int (Int32.ofNat o), .ref d, .int (Int32.ofNat q), .int (Int32.ofNat len)] 7)) (Tl.setTop (mkF m 15 #[.val (.ref b), .val (.int (Int32.ofNat (o + i))), .val (.ref d), .val (.int (Int32.ofNat (q + i))), .val (.int (Int32.ofNat len)), .val (.int (Int32.ofNat i)), .val (.int (cv A (o + i)))] [])) := c4.trans (by
        refine XS.istoreS Xl.here hexec rfl (hb hbytes d13) rfl rfl hz ?_
        exact Steps.refl _)
      have c6 : Steps p.tables e below (s₁.setTop (entryFrame m #[.ref b, .int (Int32.ofNat o), .ref d, .int (Int32.ofNat q), .int (Int32.ofNat len)] 7)) (Tl.setTop (mkF m 31 #[.val (.ref b), .val (.int (Int32.ofNat (o + i))), .val (.ref d), .val (.int (Int32.ofNat (q + i))), .val (.int (Int32.ofNat len)), .val (.int (Int32.ofNat i)), .val (.int (cv A (o + i)))] [.int (lo8 (cv A (o + i))), .int (Int32.ofNat (q + i)), .ref d])) := c5.trans (by
        refine XS.iload Xl.here hexec rfl (hb hbytes d15) rfl ?_
        refine sipushV Xl.here hexec rfl 255 (hb hbytes d17) (by decide) ?_
        refine XS.icmpYes Xl.here hexec rfl (pc0 := 20) rfl (hb hbytes d20) rfl (ii_le_t (hp i (by omega))) (by decide) rfl ?_
        refine XS.aloadN Xl.here hexec rfl (hb hbytes d26) rfl rfl ?_
        refine XS.iloadN Xl.here hexec rfl (hb hbytes d27) rfl ?_
        refine XS.iload Xl.here hexec rfl (hb hbytes d28) rfl ?_
        refine i2b Xl.here hexec rfl (hb hbytes d30) rfl ?_
        exact Steps.refl _)
      obtain ⟨T7, X7, p7, st7⟩ := Xl.aput hexec hBk rfl hlt rfl (fits_lo8 (cv A (o + i))) (g := (mkF m 31 #[.val (.ref b), .val (.int (Int32.ofNat (o + i))), .val (.ref d), .val (.int (Int32.ofNat (q + i))), .val (.int (Int32.ofNat len)), .val (.int (Int32.ofNat i)), .val (.int (cv A (o + i)))] [.int (lo8 (cv A (o + i))), .int (Int32.ofNat (q + i)), .ref d])) rfl (rest := []) rfl (hb hbytes d31)
      have c8 : Steps p.tables e below (s₁.setTop (entryFrame m #[.ref b, .int (Int32.ofNat o), .ref d, .int (Int32.ofNat q), .int (Int32.ofNat len)] 7)) (T7.setTop (mkF m 32 #[.val (.ref b), .val (.int (Int32.ofNat (o + i))), .val (.ref d), .val (.int (Int32.ofNat (q + i))), .val (.int (Int32.ofNat len)), .val (.int (Int32.ofNat i)), .val (.int (cv A (o + i)))] [])) := c6.trans (st7 _ (Steps.refl _))
      have c9 : Steps p.tables e below (s₁.setTop (entryFrame m #[.ref b, .int (Int32.ofNat o), .ref d, .int (Int32.ofNat q), .int (Int32.ofNat len)] 7)) (T7.setTop (mkF m 3 #[.val (.ref b), .val (.int (Int32.ofNat (o + i) + 1)), .val (.ref d), .val (.int (Int32.ofNat (q + i) + 1)), .val (.int (Int32.ofNat len)), .val (.int (Int32.ofNat i + 1)), .val (.int (cv A (o + i)))] [])) := c8.trans (by
        refine iincV X7.here hexec rfl 1 (hb hbytes d32) (by decide) rfl rfl ?_
        refine iincV X7.here hexec rfl 1 (hb hbytes d35) (by decide) rfl rfl ?_
        refine iincV X7.here hexec rfl 1 (hb hbytes d38) (by decide) rfl rfl ?_
        refine XS.goto X7.here hexec rfl (pc0 := 41) rfl (hb hbytes d41) (by decide) rfl ?_
        exact Steps.refl _)
      have c10 : Steps p.tables e below (s₁.setTop (entryFrame m #[.ref b, .int (Int32.ofNat o), .ref d, .int (Int32.ofNat q), .int (Int32.ofNat len)] 7)) (T7.setTop (mkF m 3 #[.val (.ref b), .val (.int (Int32.ofNat (o + (i + 1)))), .val (.ref d), .val (.int (Int32.ofNat (q + (i + 1)))), .val (.int (Int32.ofNat len)), .val (.int (Int32.ofNat (i + 1))), .val (.int (cv A (o + i)))] [])) := by
        have := c9
        rw [succ32, succ32, succ32] at this
        exact this
      exact ih (i + 1) (by omega) _ (Or.inr ⟨_, rfl, rfl⟩) T7 _ (by rw [copyLocs_step, ← List.append_assoc]; exact X7) (pl.trans p7) (fl.step (by omega) hlt (by simp)) c10
  obtain ⟨T9, B9, z9, X9, p9, f9, g9⟩ := loop len 0 (by omega) .unset (Or.inl rfl) s₁ B (by simpa [copyLocs] using X0) ⟨hB0.1, fun _ _ => rfl, rfl⟩ (Laid.zero _ _ _) c2
  have c11 : Steps p.tables e below (s₁.setTop (entryFrame m #[.ref b, .int (Int32.ofNat o), .ref d, .int (Int32.ofNat q), .int (Int32.ofNat len)] 7)) (T9.setTop (mkF m 46 #[.val (.ref b), .val (.int (Int32.ofNat (o + len))), .val (.ref d), .val (.int (Int32.ofNat (q + len))), .val (.int (Int32.ofNat len)), .val (.int (Int32.ofNat len)), z9] [.int (Int32.ofNat len)])) := g9.trans (by
    refine XS.iload X9.here hexec rfl (hb hbytes d3) rfl ?_
    refine XS.iload X9.here hexec rfl (hb hbytes d5) rfl ?_
    refine XS.icmpYes X9.here hexec rfl (pc0 := 7) rfl (hb hbytes d7) rfl (ii_ge_t (nlt32 (by omega) (Nat.le_refl _))) (by decide) rfl ?_
    refine XS.iload X9.here hexec rfl (hb hbytes d44) rfl ?_
    exact Steps.refl _)
  exact ⟨T9, some (.int (Int32.ofNat len)), _, _, _, X9, by simp, rfl, rfl, (fun h => by cases h), ⟨rfl, B9, p9.from hh0, f9⟩, fun fs hl => c11.trans (X9.ireturnOut hexec hret rfl (Or.inl rfl) (hb hbytes d46) hl)⟩
end Cmp5
namespace Cmp3
def yN : MethodName := ⟨"java/lang/StringUTF16", "compress", "([CII)[B"⟩
abbrev yB : ByteArray := jdk_52_method_16_code
theorem d0 : decode yB 0 = .ok (.iload_n 2, 1) := by decide +kernel
theorem d1 : decode yB 1 = .ok (.newarray .byte, 2) := by decide +kernel
theorem d3 : decode yB 3 = .ok (.astore_n 3, 1) := by decide +kernel
theorem d4 : decode yB 4 = .ok (.aload_n 0, 1) := by decide +kernel
theorem d5 : decode yB 5 = .ok (.iload_n 1, 1) := by decide +kernel
theorem d6 : decode yB 6 = .ok (.aload_n 3, 1) := by decide +kernel
theorem d7 : decode yB 7 = .ok (.iconst 0, 1) := by decide +kernel
theorem d8 : decode yB 8 = .ok (.iload_n 2, 1) := by decide +kernel
theorem d9 : decode yB 9 = .ok (.invokestatic 115, 3) := by decide +kernel
theorem d12 : decode yB 12 = .ok (.istore 4, 2) := by decide +kernel
theorem d14 : decode yB 14 = .ok (.iload 4, 2) := by decide +kernel
theorem d16 : decode yB 16 = .ok (.iload_n 2, 1) := by decide +kernel
theorem d17 : decode yB 17 = .ok (.if_icmp (.eq) 40, 3) := by decide +kernel
theorem d57 : decode yB 57 = .ok (.aload_n 3, 1) := by decide +kernel
theorem d58 : decode yB 58 = .ok (.areturn, 1) := by decide +kernel
def site : List Cond := [.arrayClass .byte, Cmp5.tab] ++ staticW U16 115 Cmp5.yN
def tab : Cond := tabOf yN yB 6 (some (.array .byte)) site
def P (b : Addr) (A : Cell) (o len : Nat) (args : Array Value) (s : State) : Prop := args = #[.ref b, .int (Int32.ofNat o), .int (Int32.ofNat len)] ∧ Ch b A s ∧ o + len ≤ A.slots.size ∧ len ≤ 536870912 ∧ ∀ i, i < len → ¬ 255 < cv A (o + i)
def E (b : Addr) (A : Cell) (o len : Nat) (r : Option Value) (s u : State) : Prop := NewArr .byte "[B" len (fun j => .int (lo8 (cv A (o + j)))) r s u ∧ u.heap.size = s.heap.size + 1
/-- no char of the range above 255: a new byte[] of their low bytes -/
theorem law (l : Launch) (b : Addr) (A : Cell) (o len : Nat) : Law l yN 3 3 1 18 yB 6 (some (.array .byte)) site (P b A o len) (E b A o len) [] 1 len := by
  refine Law.of_walk (plainFor_of_name (by decide +kernel)) (by decide +kernel) (by decide +kernel) (by decide) (fun _ _ h => by rw [h.1]; rfl) (fun _ U U' hal hh h => ⟨h.1, h.2.1.mv hal hh, h.2.2⟩) (fun r U U' V V' h1 hal h2 h => ⟨NewArr.mv r U U' V V' h1 hal h2 h.1, by rw [h1, h2]; exact h.2⟩) ?_
  intro p e s m args below meth c s₁ X0 hexec hbytes hml hret hlk hnm hown hh0 W hP
  obtain ⟨rfl, hA, l1, l2, hp⟩ := hP
  have a31 := hA.1.2.2.2
  have c1 : Steps p.tables e below (s₁.setTop (entryFrame m #[.ref b, .int (Int32.ofNat o), .int (Int32.ofNat len)] 6)) (s₁.setTop (mkF m 0 #[.val (.ref b), .val (.int (Int32.ofNat o)), .val (.int (Int32.ofNat len)), .unset, .unset, .unset] [])) := entry rfl
  have c2 : Steps p.tables e below (s₁.setTop (entryFrame m #[.ref b, .int (Int32.ofNat o), .int (Int32.ofNat len)] 6)) (s₁.setTop (mkF m 1 #[.val (.ref b), .val (.int (Int32.ofNat o)), .val (.int (Int32.ofNat len)), .unset, .unset, .unset] [.int (Int32.ofNat len)])) := c1.trans (by
    refine XS.iloadN X0.here hexec rfl (hb hbytes d0) rfl ?_
    exact Steps.refl _)
  obtain ⟨T3, B3, X3, ba3, bs3, bv3, bh3, bf3, st3⟩ := X0.anew hexec (atype := .byte) (wk W (.arrayClass .byte)) rfl (by show len * 1 ≤ _; omega) (by omega) (g := (mkF m 1 #[.val (.ref b), .val (.int (Int32.ofNat o)), .val (.int (Int32.ofNat len)), .unset, .unset, .unset] [.int (Int32.ofNat len)])) rfl (hb hbytes d1) (rest := []) rfl (Nat.le_refl _) (by show 0 + len ≤ len; omega)
  rw [hh0] at ba3 st3
  have kp3 : XT.Kept s T3 := (XT.Kept.of_eq hh0).push bh3
  have hA3 := hA.keep X3.warmed.alike (kp3 _ _ hA.1.1)
  have hne : b ≠ s.heap.size := hA.1.ne
  have c4 : Steps p.tables e below (s₁.setTop (entryFrame m #[.ref b, .int (Int32.ofNat o), .int (Int32.ofNat len)] 6)) (T3.setTop (mkF m 3 #[.val (.ref b), .val (.int (Int32.ofNat o)), .val (.int (Int32.ofNat len)), .unset, .unset, .unset] [.ref s.heap.size])) := c2.trans (st3 _ (Steps.refl _))
  have c5 : Steps p.tables e below (s₁.setTop (entryFrame m #[.ref b, .int (Int32.ofNat o), .int (Int32.ofNat len)] 6)) (T3.setTop (mkF m 9 #[.val (.ref b), .val (.int (Int32.ofNat o)), .val (.int (Int32.ofNat len)), .val (.ref s.heap.size), .unset, .unset] [.int (Int32.ofNat len), .int 0, .ref s.heap.size, .int (Int32.ofNat o), .ref b])) := c4.trans (by
    refine XS.astoreN X3.here hexec rfl (hb hbytes d3) rfl rfl rfl ?_
    refine XS.aloadN X3.here hexec rfl (hb hbytes d4) rfl rfl ?_
    refine XS.iloadN X3.here hexec rfl (hb hbytes d5) rfl ?_
    refine XS.aloadN X3.here hexec rfl (hb hbytes d6) rfl rfl ?_
    refine iconstV X3.here hexec rfl 0 (hb hbytes d7) (by decide) ?_
    refine XS.iloadN X3.here hexec rfl (hb hbytes d8) rfl ?_
    exact Steps.refl _)
  obtain ⟨v6, T6, X6, E6, g6⟩ := X3.callS hexec (Cmp5.law l b A s.heap.size B3 o 0 len) hown (wks W (staticW U16 115 Cmp5.yN)) (wk W Cmp5.tab) (W := 0) (Nat.le_of_ble_eq_true rfl) (Nat.le_of_ble_eq_true rfl) (Nat.le_refl _) (by show 0 + len + 0 ≤ len; omega) (g := (mkF m 9 #[.val (.ref b), .val (.int (Int32.ofNat o)), .val (.int (Int32.ofNat len)), .val (.ref s.heap.size), .unset, .unset] [.int (Int32.ofNat len), .int (Int32.ofNat 0), .ref s.heap.size, .int (Int32.ofNat o), .ref b])) rfl (by rw [hml]; rfl) c5 (argsL := [.ref b, .int (Int32.ofNat o), .ref s.heap.size, .int (Int32.ofNat 0), .int (Int32.ofNat len)]) (rest := []) rfl rfl (by show 2 * 0 + 0 ≤ _; decide) (hb hbytes d9) (⟨rfl, hA3, ba3, hne, l1, by rw [bs3]; simp, hp⟩)
  obtain ⟨rfl, B6, p6, f6⟩ := E6
  have c7 : Steps p.tables e below (s₁.setTop (entryFrame m #[.ref b, .int (Int32.ofNat o), .int (Int32.ofNat len)] 6)) (T6.setTop (mkF m 12 #[.val (.ref b), .val (.int (Int32.ofNat o)), .val (.int (Int32.ofNat len)), .val (.ref s.heap.size), .unset, .unset] [.int (Int32.ofNat len)])) := g6
  have c8 : Steps p.tables e below (s₁.setTop (entryFrame m #[.ref b, .int (Int32.ofNat o), .int (Int32.ofNat len)] 6)) (T6.setTop (mkF m 58 #[.val (.ref b), .val (.int (Int32.ofNat o)), .val (.int (Int32.ofNat len)), .val (.ref s.heap.size), .val (.int (Int32.ofNat len)), .unset] [.ref s.heap.size])) := c7.trans (by
    refine XS.istore X6.here hexec rfl (hb hbytes d12) rfl rfl ?_
    refine XS.iload X6.here hexec rfl (hb hbytes d14) rfl ?_
    refine XS.iloadN X6.here hexec rfl (hb hbytes d16) rfl ?_
    refine XS.icmpYes X6.here hexec rfl (pc0 := 17) rfl (hb hbytes d17) rfl (ii_eq_t rfl) (by decide) rfl ?_
    refine XS.aloadN X6.here hexec rfl (hb hbytes d57) rfl rfl ?_
    exact Steps.refl _)
  have X8 := X6.wide (L' := []) (cells' := 1) (slots' := len) (fun x hx hlt => by
    simp only [List.nil_append, copyLocs, List.mem_map, List.mem_range] at hx
    obtain ⟨i, -, rfl⟩ := hx
    exact absurd hlt (Nat.lt_irrefl _)) (Nat.le_refl _) (by omega)
  exact ⟨T6, some (.ref s.heap.size), _, _, _, X8, rfl, rfl, rfl, (fun h => by cases h), ⟨⟨rfl, B6, ba3.like (X3.warmed.alike.symm.trans X6.warmed.alike) p6.1 f6.1 f6.2.1 f6.2.2.1, f6.2.1.trans bv3, by rw [X6.warmed.alike.findClass, f6.1]; exact bf3, by rw [f6.2.2.1, bs3]; simp, fun j hj => by rw [f6.2.2.2 j, if_pos (by omega)]; rfl, kp3.put p6 (Nat.le_refl _)⟩, by rw [p6.2.2, bh3, hh0]; simp⟩, fun fs hl => c8.trans (X8.areturnOut hexec rfl hret rfl (hb hbytes d58) hl)⟩
end Cmp3
namespace CodL
def yN : MethodName := ⟨"java/lang/StringUTF16", "coderFromArrayLen", "([BI)B"⟩
abbrev yB : ByteArray := jdk_52_method_15_code
theorem d0 : decode yB 0 = .ok (.iload_n 1, 1) := by decide +kernel
theorem d1 : decode yB 1 = .ok (.aload_n 0, 1) := by decide +kernel
theorem d2 : decode yB 2 = .ok (.arraylength, 1) := by decide +kernel
theorem d3 : decode yB 3 = .ok (.isub, 1) := by decide +kernel
theorem d4 : decode yB 4 = .ok (.bipush 31, 2) := by decide +kernel
theorem d6 : decode yB 6 = .ok (.iushr, 1) := by decide +kernel
theorem d7 : decode yB 7 = .ok (.i2b, 1) := by decide +kernel
theorem d8 : decode yB 8 = .ok (.ireturn, 1) := by decide +kernel
def site : List Cond := []
def tab : Cond := tabOf yN yB 2 (some .byte) site
def P (d : Addr) (B : Cell) (args : Array Value) (s : State) : Prop := args = #[.ref d, .int (Int32.ofNat B.slots.size)] ∧ Arr .byte d B s
def E (r : Option Value) (s u : State) : Prop := XT.PureE (some (.int 0)) r s u
/-- an array as long as the number of chars: LATIN1 -/
theorem law (l : Launch) (d : Addr) (B : Cell) : Law l yN 2 2 0 0 yB 2 (some .byte) site (P d B) E [] 0 0 := by
  refine Law.of_walk (plainFor_of_name (by decide +kernel)) (by decide +kernel) (by decide +kernel) (by decide) (fun _ _ h => by rw [h.1]; rfl) (fun _ U U' hal hh h => ⟨h.1, h.2.mv hal hh⟩) (fun r U U' V V' h1 hal h2 h => XT.PureE.mv r U U' V V' h1 hal h2 h) ?_
  intro p e s m args below meth c s₁ X0 hexec hbytes hml hret hlk hnm hown hh0 W hP
  obtain ⟨rfl, hB⟩ := hP
  have hB0 := hB.mv X0.warmed.alike hh0
  have c1 : Steps p.tables e below (s₁.setTop (entryFrame m #[.ref d, .int (Int32.ofNat B.slots.size)] 2)) (s₁.setTop (mkF m 0 #[.val (.ref d), .val (.int (Int32.ofNat B.slots.size))] [])) := entry rfl
  have c2 : Steps p.tables e below (s₁.setTop (entryFrame m #[.ref d, .int (Int32.ofNat B.slots.size)] 2)) (s₁.setTop (mkF m 2 #[.val (.ref d), .val (.int (Int32.ofNat B.slots.size))] [.ref d, .int (Int32.ofNat B.slots.size)])) := c1.trans (by
    refine XS.iloadN X0.here hexec rfl (hb hbytes d0) rfl ?_
    refine XS.aloadN X0.here hexec rfl (hb hbytes d1) rfl rfl ?_
    exact Steps.refl _)
  have c3 : Steps p.tables e below (s₁.setTop (entryFrame m #[.ref d, .int (Int32.ofNat B.slots.size)] 2)) (s₁.setTop (mkF m 8 #[.val (.ref d), .val (.int (Int32.ofNat B.slots.size))] [.int (lo8 (ushr (Int32.ofNat B.slots.size - Int32.ofNat B.slots.size) 31))])) := c2.trans (by
    refine X0.alen hexec hB0 rfl rfl (hb hbytes d2) ?_
    refine XS.isub X0.here hexec rfl (hb hbytes d3) rfl ?_
    refine bipushV X0.here hexec rfl 31 (hb hbytes d4) (by decide) ?_
    refine iushr X0.here hexec rfl (hb hbytes d6) rfl ?_
    refine i2b X0.here hexec rfl (hb hbytes d7) rfl ?_
    exact Steps.refl _)
  have e0 : lo8 (ushr (Int32.ofNat B.slots.size - Int32.ofNat B.slots.size) 31) = 0 := by rw [Int32.sub_self]; decide
  rw [e0] at c3
  exact ⟨s₁, some (.int 0), _, _, _, X0, rfl, rfl, rfl, (fun h => by cases h), ⟨rfl, hh0⟩, fun fs hl => c3.trans (X0.ireturnOut hexec hret rfl (Or.inr (Or.inr (Or.inl rfl))) (hb hbytes d8) hl)⟩
end CodL
/-- the String at a is Latin-1 over a new byte[] (the heap's one new cell): the low bytes of the len chars of A from o on; every cell but a is kept -/
def Got (a : Addr) (D : Cell) (fV fC : Field) (A : Cell) (o len : Nat) (r : Option Value) (s u : State) : Prop := r = none ∧ ∃ D' V : Cell, Blank "java/lang/String" a D' u ∧ Same D D' [fV.slot, fC.slot] ∧ D'.slots[fV.slot]? = some (.ref s.heap.size) ∧ D'.slots[fC.slot]? = some (.int 0) ∧ Arr .byte s.heap.size V u ∧ V.vm = .none ∧ u.vm.findClass "[B" = some V.cls ∧ V.slots.size = len ∧ (∀ j, j < len → V.slots[j]? = some (.int (lo8 (cv A (o + j))))) ∧ (∀ (y : Addr) (c : Cell), y ≠ a → s.heap[y]? = some c → u.heap[y]? = some c) ∧ u.heap.size = s.heap.size + 1
theorem Got.mv {a : Addr} {D A : Cell} {fV fC : Field} {o len : Nat} : ∀ r (U U' V V' : State), U'.heap = U.heap → V.vm.Alike V'.vm → V'.heap = V.heap → Got a D fV fC A o len r U V → Got a D fV fC A o len r U' V' :=
  fun r U U' V V' h1 hal h2 ⟨e0, D', X, a1, a2, a3, a4, a5, a6, a7, a8, a9, a10, a11⟩ => ⟨e0, D', X, a1.mv hal h2, a2, by rw [h1]; exact a3, a4, by rw [h1]; exact a5.mv hal h2, a6, by rw [hal.findClass]; exact a7, a8, a9, by rw [h1, h2]; exact a10, by rw [h1, h2]; exact a11⟩
namespace New4
def yN : MethodName := ⟨"java/lang/String", "<init>", "([CIILjava/lang/Void;)V"⟩
abbrev yB : ByteArray := jdk_42_method_149_code
theorem d0 : decode yB 0 = .ok (.aload_n 0, 1) := by decide +kernel
theorem d1 : decode yB 1 = .ok (.invokespecial 1, 3) := by decide +kernel
theorem d4 : decode yB 4 = .ok (.iload_n 3, 1) := by decide +kernel
theorem d5 : decode yB 5 = .ok (.ifCond (.ne) 22, 3) := by decide +kernel
theorem d27 : decode yB 27 = .ok (.getstatic 38, 3) := by decide +kernel
theorem d30 : decode yB 30 = .ok (.ifCond (.eq) 28, 3) := by decide +kernel
theorem d33 : decode yB 33 = .ok (.aload_n 1, 1) := by decide +kernel
theorem d34 : decode yB 34 = .ok (.iload_n 2, 1) := by decide +kernel
theorem d35 : decode yB 35 = .ok (.iload_n 3, 1) := by decide +kernel
theorem d36 : decode yB 36 = .ok (.invokestatic 177, 3) := by decide +kernel
theorem d39 : decode yB 39 = .ok (.astore 5, 2) := by decide +kernel
theorem d41 : decode yB 41 = .ok (.aload_n 0, 1) := by decide +kernel
theorem d42 : decode yB 42 = .ok (.aload 5, 2) := by decide +kernel
theorem d44 : decode yB 44 = .ok (.iload_n 3, 1) := by decide +kernel
theorem d45 : decode yB 45 = .ok (.invokestatic 47, 3) := by decide +kernel
theorem d48 : decode yB 48 = .ok (.putfield 15, 3) := by decide +kernel
theorem d51 : decode yB 51 = .ok (.aload_n 0, 1) := by decide +kernel
theorem d52 : decode yB 52 = .ok (.aload 5, 2) := by decide +kernel
theorem d54 : decode yB 54 = .ok (.putfield 9, 3) := by decide +kernel
theorem d57 : decode yB 57 = .ok (.return_, 1) := by decide +kernel
def site : List Cond := [.fieldLink "java/lang/String" 38 "java/lang/String" "COMPACT_STRINGS" "Z", Cmp3.tab, CodL.tab, .laysFinal "java/lang/String" "java/lang/String" "value" "[B", .fieldLink "java/lang/String" 9 "java/lang/String" "value" "[B", .laysFinal "java/lang/String" "java/lang/String" "coder" "B", .fieldLink "java/lang/String" 15 "java/lang/String" "coder" "B"] ++ objW "java/lang/String" 1 ++ staticW "java/lang/String" 177 Cmp3.yN ++ staticW "java/lang/String" 47 CodL.yN
def tab : Cond := tabOf yN yB 6 none site
def P (a : Addr) (D : Cell) (fV fC : Field) (b : Addr) (A : Cell) (z : Int32) (o len : Nat) (args : Array Value) (s : State) : Prop := args = #[.ref a, .ref b, .int (Int32.ofNat o), .int (Int32.ofNat len), .null] ∧ Blank "java/lang/String" a D s ∧ Found "java/lang/String" "value" "[B" fV s ∧ Found "java/lang/String" "coder" "B" fC s ∧ Ch b A s ∧ StaticIs s "java/lang/String" "COMPACT_STRINGS" "Z" (.int z) ∧ ¬ z = 0 ∧ 0 < len ∧ o + len ≤ A.slots.size ∧ len ≤ 536870912 ∧ ∀ i, i < len → ¬ 255 < cv A (o + i)
def E (a : Addr) (D : Cell) (fV fC : Field) (A : Cell) (o len : Nat) (r : Option Value) (s u : State) : Prop := Got a D fV fC A o len r s u
/-- len > 0, no char of the range above 255: a Latin-1 String of their low bytes -/
theorem law (l : Launch) (a : Addr) (D : Cell) (fV fC : Field) (b : Addr) (A : Cell) (z : Int32) (o len : Nat) : Law l yN 5 4 2 35 yB 6 none site (P a D fV fC b A z o len) (E a D fV fC A o len) [⟨a, fC.slot⟩, ⟨a, fV.slot⟩] 1 len := by
  refine Law.of_walk (plainFor_of_name (by decide +kernel)) (by decide +kernel) (by decide +kernel) (by decide) (fun _ _ h => by rw [h.1]; rfl) (fun _ U U' hal hh h => ⟨h.1, h.2.1.mv hal hh, h.2.2.1.al hal, h.2.2.2.1.al hal, h.2.2.2.2.1.mv hal hh, h.2.2.2.2.2.1.there hal hh, h.2.2.2.2.2.2⟩) (fun r U U' V V' h1 hal h2 h => Got.mv r U U' V V' h1 hal h2 h) ?_
  intro p e s m args below meth c s₁ X0 hexec hbytes hml hret hlk hnm hown hh0 W hP
  obtain ⟨rfl, hB, f1, f2, hA, s1, hz, l0, l1, l2, hp⟩ := hP
  have a31 := hA.1.2.2.2
  have c1 : Steps p.tables e below (s₁.setTop (entryFrame m #[.ref a, .ref b, .int (Int32.ofNat o), .int (Int32.ofNat len), .null] 6)) (s₁.setTop (mkF m 0 #[.val (.ref a), .val (.ref b), .val (.int (Int32.ofNat o)), .val (.int (Int32.ofNat len)), .val .null, .unset] [])) := entry rfl
  have c2 : Steps p.tables e below (s₁.setTop (entryFrame m #[.ref a, .ref b, .int (Int32.ofNat o), .int (Int32.ofNat len), .null] 6)) (s₁.setTop (mkF m 1 #[.val (.ref a), .val (.ref b), .val (.int (Int32.ofNat o)), .val (.int (Int32.ofNat len)), .val .null, .unset] [.ref a])) := c1.trans (by
    refine XS.aloadN X0.here hexec rfl (hb hbytes d0) rfl rfl ?_
    exact Steps.refl _)
  obtain ⟨T3, X3, q3, st3⟩ := X0.oinit hexec hown (wks W (objW "java/lang/String" 1)) (g := (mkF m 1 #[.val (.ref a), .val (.ref b), .val (.int (Int32.ofNat o)), .val (.int (Int32.ofNat len)), .val .null, .unset] [.ref a])) rfl (by rw [hml]; rfl) (rest := []) rfl (hb hbytes d1) (W := 0) (by show 2 * 0 + 0 ≤ _; decide) (Nat.le_of_ble_eq_true rfl) (Nat.le_of_ble_eq_true rfl)
  have hh3 := q3.trans hh0
  have c4 : Steps p.tables e below (s₁.setTop (entryFrame m #[.ref a, .ref b, .int (Int32.ofNat o), .int (Int32.ofNat len), .null] 6)) (T3.setTop (mkF m 27 #[.val (.ref a), .val (.ref b), .val (.int (Int32.ofNat o)), .val (.int (Int32.ofNat len)), .val .null, .unset] [])) := (c2.trans (st3 _ (Steps.refl _))).trans (by
    refine XS.iloadN X3.here hexec rfl (hb hbytes d4) rfl ?_
    refine XS.ifYes X3.here hexec rfl (pc0 := 5) rfl (hb hbytes d5) rfl (i0_ne_t (nz32 (by omega) l0)) (by decide) rfl ?_
    exact Steps.refl _)
  obtain ⟨T5, X5, q5, st5⟩ := X3.sget hexec hown (wk W (.fieldLink "java/lang/String" 38 "java/lang/String" "COMPACT_STRINGS" "Z")) s1 (fun _ _ h => by rw [hh3]; exact h) (g := (mkF m 27 #[.val (.ref a), .val (.ref b), .val (.int (Int32.ofNat o)), .val (.int (Int32.ofNat len)), .val .null, .unset] [])) rfl (hb hbytes d27)
  have hh5 := q5.trans hh3
  have c6 : Steps p.tables e below (s₁.setTop (entryFrame m #[.ref a, .ref b, .int (Int32.ofNat o), .int (Int32.ofNat len), .null] 6)) (T5.setTop (mkF m 30 #[.val (.ref a), .val (.ref b), .val (.int (Int32.ofNat o)), .val (.int (Int32.ofNat len)), .val .null, .unset] [.int z])) := c4.trans (st5 _ (Steps.refl _))
  have c7 : Steps p.tables e below (s₁.setTop (entryFrame m #[.ref a, .ref b, .int (Int32.ofNat o), .int (Int32.ofNat len), .null] 6)) (T5.setTop (mkF m 36 #[.val (.ref a), .val (.ref b), .val (.int (Int32.ofNat o)), .val (.int (Int32.ofNat len)), .val .null, .unset] [.int (Int32.ofNat len), .int (Int32.ofNat o), .ref b])) := c6.trans (by
    refine XS.ifNo X5.here hexec rfl (hb hbytes d30) rfl (i0_eq_f hz) ?_
    refine XS.aloadN X5.here hexec rfl (hb hbytes d33) rfl rfl ?_
    refine XS.iloadN X5.here hexec rfl (hb hbytes d34) rfl ?_
    refine XS.iloadN X5.here hexec rfl (hb hbytes d35) rfl ?_
    exact Steps.refl _)
  obtain ⟨v8, T8, X8, E8, g8⟩ := X5.callS hexec (Cmp3.law l b A o len) hown (wks W (staticW "java/lang/String" 177 Cmp3.yN)) (wk W Cmp3.tab) (W := 0) (Nat.le_of_ble_eq_true rfl) (Nat.le_of_ble_eq_true rfl) (Nat.le_refl _) (by show 0 + len ≤ len; omega) (g := (mkF m 36 #[.val (.ref a), .val (.ref b), .val (.int (Int32.ofNat o)), .val (.int (Int32.ofNat len)), .val .null, .unset] [.int (Int32.ofNat len), .int (Int32.ofNat o), .ref b])) rfl (by rw [hml]; rfl) c7 (argsL := [.ref b, .int (Int32.ofNat o), .int (Int32.ofNat len)]) (rest := []) rfl rfl (by show 2 * 0 + 0 ≤ _; decide) (hb hbytes d36) (⟨rfl, hA.mv X5.warmed.alike hh5, l1, l2, hp⟩)
  obtain ⟨e8, z8⟩ := E8
  obtain ⟨rfl, N, n1, n2, n3, n4, n5, n6⟩ := NewArr.mv _ T5 s _ _ hh5.symm (Vm.Alike.refl _) rfl e8
  rw [hh5] at z8
  have hB1 := hB.keep X8.warmed.alike (n6 _ _ hB.1)
  have hne : s.heap.size ≠ a := (Nat.ne_of_lt (Array.getElem?_eq_some_iff.mp hB.1).1).symm
  have c9 : Steps p.tables e below (s₁.setTop (entryFrame m #[.ref a, .ref b, .int (Int32.ofNat o), .int (Int32.ofNat len), .null] 6)) (T8.setTop (mkF m 39 #[.val (.ref a), .val (.ref b), .val (.int (Int32.ofNat o)), .val (.int (Int32.ofNat len)), .val .null, .unset] [.ref s.heap.size])) := g8
  have c10 : Steps p.tables e below (s₁.setTop (entryFrame m #[.ref a, .ref b, .int (Int32.ofNat o), .int (Int32.ofNat len), .null] 6)) (T8.setTop (mkF m 45 #[.val (.ref a), .val (.ref b), .val (.int (Int32.ofNat o)), .val (.int (Int32.ofNat len)), .val .null, .val (.ref s.heap.size)] [.int (Int32.ofNat N.slots.size), .ref s.heap.size, .ref a])) := by
    have hc : Steps p.tables e below (s₁.setTop (entryFrame m #[.ref a, .ref b, .int (Int32.ofNat o), .int (Int32.ofNat len), .null] 6)) (T8.setTop (mkF m 45 #[.val (.ref a), .val (.ref b), .val (.int (Int32.ofNat o)), .val (.int (Int32.ofNat len)), .val .null, .val (.ref s.heap.size)] [.int (Int32.ofNat len), .ref s.heap.size, .ref a])) := c9.trans (by
      refine XS.astore X8.here hexec rfl (hb hbytes d39) rfl rfl rfl ?_
      refine XS.aloadN X8.here hexec rfl (hb hbytes d41) rfl rfl ?_
      refine XS.aload X8.here hexec rfl (hb hbytes d42) rfl rfl ?_
      refine XS.iloadN X8.here hexec rfl (hb hbytes d44) rfl ?_
      exact Steps.refl _)
    rw [n4]; exact hc
  obtain ⟨v11, T11, X11, E11, g11⟩ := X8.callS hexec (CodL.law l s.heap.size N) hown (wks W (staticW "java/lang/String" 47 CodL.yN)) (wk W CodL.tab) (W := 1) (Nat.le_of_ble_eq_true rfl) (Nat.le_of_ble_eq_true rfl) (Nat.le_refl _) (by show 0 + len + 0 ≤ len; omega) (g := (mkF m 45 #[.val (.ref a), .val (.ref b), .val (.int (Int32.ofNat o)), .val (.int (Int32.ofNat len)), .val .null, .val (.ref s.heap.size)] [.int (Int32.ofNat N.slots.size), .ref s.heap.size, .ref a])) rfl (by rw [hml]; rfl) c10 (argsL := [.ref s.heap.size, .int (Int32.ofNat N.slots.size)]) (rest := [.ref a]) rfl rfl (by show 2 * 0 + (1 + 0) ≤ _; decide) (hb hbytes d45) (⟨rfl, n1⟩)
  obtain ⟨rfl, q11⟩ := E11
  have hB11 := hB1.mv (X8.warmed.alike.symm.trans X11.warmed.alike) q11
  have c12 : Steps p.tables e below (s₁.setTop (entryFrame m #[.ref a, .ref b, .int (Int32.ofNat o), .int (Int32.ofNat len), .null] 6)) (T11.setTop (mkF m 48 #[.val (.ref a), .val (.ref b), .val (.int (Int32.ofNat o)), .val (.int (Int32.ofNat len)), .val .null, .val (.ref s.heap.size)] [.int 0, .ref a])) := g11
  obtain ⟨T13, X13, p13, bl13, sl13, st13⟩ := X11.finit hexec hown (wk W (.fieldLink "java/lang/String" 15 "java/lang/String" "coder" "B")) (Or.inr ⟨_, (wk W (.laysFinal "java/lang/String" "java/lang/String" "coder" "B"))⟩) (Or.inl ⟨rfl, hnm⟩) f2 (Or.inl rfl) hB11 (t := .byte) (by decide +kernel) rfl (g := (mkF m 48 #[.val (.ref a), .val (.ref b), .val (.int (Int32.ofNat o)), .val (.int (Int32.ofNat len)), .val .null, .val (.ref s.heap.size)] [.int 0, .ref a])) rfl (rest := []) rfl (hb hbytes d48)
  have c14 : Steps p.tables e below (s₁.setTop (entryFrame m #[.ref a, .ref b, .int (Int32.ofNat o), .int (Int32.ofNat len), .null] 6)) (T13.setTop (mkF m 54 #[.val (.ref a), .val (.ref b), .val (.int (Int32.ofNat o)), .val (.int (Int32.ofNat len)), .val .null, .val (.ref s.heap.size)] [.ref s.heap.size, .ref a])) := (c12.trans (st13 _ (Steps.refl _))).trans (by
    refine XS.aloadN X13.here hexec rfl (hb hbytes d51) rfl rfl ?_
    refine XS.aload X13.here hexec rfl (hb hbytes d52) rfl rfl ?_
    exact Steps.refl _)
  obtain ⟨T15, X15, p15, bl15, sl15, st15⟩ := X13.finit hexec hown (wk W (.fieldLink "java/lang/String" 9 "java/lang/String" "value" "[B")) (Or.inr ⟨_, (wk W (.laysFinal "java/lang/String" "java/lang/String" "value" "[B"))⟩) (Or.inl ⟨rfl, hnm⟩) f1 (Or.inl rfl) bl13 (t := (.array .byte)) (by decide +kernel) rfl (g := (mkF m 54 #[.val (.ref a), .val (.ref b), .val (.int (Int32.ofNat o)), .val (.int (Int32.ofNat len)), .val .null, .val (.ref s.heap.size)] [.ref s.heap.size, .ref a])) rfl (rest := []) rfl (hb hbytes d54)
  have c16 : Steps p.tables e below (s₁.setTop (entryFrame m #[.ref a, .ref b, .int (Int32.ofNat o), .int (Int32.ofNat len), .null] 6)) (T15.setTop (mkF m 57 #[.val (.ref a), .val (.ref b), .val (.int (Int32.ofNat o)), .val (.int (Int32.ofNat len)), .val .null, .val (.ref s.heap.size)] [])) := c14.trans (st15 _ (Steps.refl _))
  have ap := apart (Or.inr ⟨_, (wk W (.laysFinal "java/lang/String" "java/lang/String" "value" "[B"))⟩) (Or.inr ⟨_, (wk W (.laysFinal "java/lang/String" "java/lang/String" "coder" "B"))⟩) f1 f2 (t₁ := .array .byte) (t₂ := .byte) (by decide +kernel) (by decide +kernel) (by decide)
  have al := X8.warmed.alike.symm.trans X15.warmed.alike
  have n7 : T11.heap[s.heap.size]? = some N := by rw [q11]; exact n1.1
  exact ⟨T15, none, _, _, _, X15, by simp, rfl, by omega, (fun _ => rfl), ⟨rfl, _, N, bl15, ((Same.refl D _).set _ (by simp)).set _ (by simp), sl15, (Cell.slots_setSlot_ne _ ap).trans sl13, n1.keep al (p15.other hne (p13.other hne n7)), n2, by rw [al.findClass]; exact n3, n4, n5, fun y c h1 h2 => p15.other h1 (p13.other h1 (by rw [q11]; exact n6 y c h2)), by rw [p15.2.2, p13.2.2, q11]; exact z8⟩, fun fs hl => c16.trans (X15.returnOut hexec hret (hb hbytes d57) hl)⟩
end New4
namespace New1
def yN : MethodName := ⟨"java/lang/String", "<init>", "([C)V"⟩
abbrev yB : ByteArray := jdk_42_method_3_code
theorem d0 : decode yB 0 = .ok (.aload_n 0, 1) := by decide +kernel
theorem d1 : decode yB 1 = .ok (.aload_n 1, 1) := by decide +kernel
theorem d2 : decode yB 2 = .ok (.iconst 0, 1) := by decide +kernel
theorem d3 : decode yB 3 = .ok (.aload_n 1, 1) := by decide +kernel
theorem d4 : decode yB 4 = .ok (.arraylength, 1) := by decide +kernel
theorem d5 : decode yB 5 = .ok (.aconst_null, 1) := by decide +kernel
theorem d6 : decode yB 6 = .ok (.invokespecial 27, 3) := by decide +kernel
theorem d9 : decode yB 9 = .ok (.return_, 1) := by decide +kernel
def site : List Cond := [New4.tab] ++ initW "java/lang/String" 27 New4.yN
def tab : Cond := tabOf yN yB 2 none site
def P (a : Addr) (D : Cell) (fV fC : Field) (b : Addr) (A : Cell) (z : Int32) (args : Array Value) (s : State) : Prop := args = #[.ref a, .ref b] ∧ Blank "java/lang/String" a D s ∧ Found "java/lang/String" "value" "[B" fV s ∧ Found "java/lang/String" "coder" "B" fC s ∧ Ch b A s ∧ StaticIs s "java/lang/String" "COMPACT_STRINGS" "Z" (.int z) ∧ ¬ z = 0 ∧ 0 < A.slots.size ∧ A.slots.size ≤ 536870912 ∧ ∀ i, i < A.slots.size → ¬ 255 < cv A i
def E (a : Addr) (D : Cell) (fV fC : Field) (A : Cell) (r : Option Value) (s u : State) : Prop := Got a D fV fC A 0 A.slots.size r s u
/-- new String(chars), not empty, no char above 255: a Latin-1 String of their low bytes -/
theorem law (l : Launch) (a : Addr) (D : Cell) (fV fC : Field) (b : Addr) (A : Cell) (z : Int32) : Law l yN 2 1 3 52 yB 2 none site (P a D fV fC b A z) (E a D fV fC A) [⟨a, fC.slot⟩, ⟨a, fV.slot⟩] 1 A.slots.size := by
  refine Law.of_walk (plainFor_of_name (by decide +kernel)) (by decide +kernel) (by decide +kernel) (by decide) (fun _ _ h => by rw [h.1]; rfl) (fun _ U U' hal hh h => ⟨h.1, h.2.1.mv hal hh, h.2.2.1.al hal, h.2.2.2.1.al hal, h.2.2.2.2.1.mv hal hh, h.2.2.2.2.2.1.there hal hh, h.2.2.2.2.2.2⟩) (fun r U U' V V' h1 hal h2 h => Got.mv r U U' V V' h1 hal h2 h) ?_
  intro p e s m args below meth c s₁ X0 hexec hbytes hml hret hlk hnm hown hh0 W hP
  obtain ⟨rfl, hB, f1, f2, hA, s1, hz, l0, l2, hp⟩ := hP
  have c1 : Steps p.tables e below (s₁.setTop (entryFrame m #[.ref a, .ref b] 2)) (s₁.setTop (mkF m 0 #[.val (.ref a), .val (.ref b)] [])) := entry rfl
  have c2 : Steps p.tables e below (s₁.setTop (entryFrame m #[.ref a, .ref b] 2)) (s₁.setTop (mkF m 6 #[.val (.ref a), .val (.ref b)] [.null, .int (Int32.ofNat A.slots.size), .int 0, .ref b, .ref a])) := c1.trans (by
    refine XS.aloadN X0.here hexec rfl (hb hbytes d0) rfl rfl ?_
    refine XS.aloadN X0.here hexec rfl (hb hbytes d1) rfl rfl ?_
    refine iconstV X0.here hexec rfl 0 (hb hbytes d2) (by decide) ?_
    refine XS.aloadN X0.here hexec rfl (hb hbytes d3) rfl rfl ?_
    refine X0.alen hexec (hA.1.mv X0.warmed.alike hh0) rfl rfl (hb hbytes d4) ?_
    refine XS.aconstNull X0.here hexec rfl (hb hbytes d5) ?_
    exact Steps.refl _)
  obtain ⟨v3, T3, X3, E3, g3⟩ := X0.callN hexec (New4.law l a D fV fC b A z 0 A.slots.size) rfl hown (wks W (initW "java/lang/String" 27 New4.yN)) (W New4.tab (by simp only [site, List.mem_cons, List.mem_append, true_or, or_true])) (W := 0) (Nat.le_of_ble_eq_true rfl) (Nat.le_of_ble_eq_true rfl) (Nat.le_refl _) (by show 0 + A.slots.size ≤ A.slots.size; omega) (g := (mkF m 6 #[.val (.ref a), .val (.ref b)] [.null, .int (Int32.ofNat A.slots.size), .int (Int32.ofNat 0), .ref b, .ref a])) rfl (by rw [hml]; rfl) c2 (argsL := [.ref b, .int (Int32.ofNat 0), .int (Int32.ofNat A.slots.size), .null]) (rest := []) rfl rfl (by show 2 * 0 + 0 ≤ _; decide) (hb hbytes d6) (⟨rfl, hB.mv X0.warmed.alike hh0, f1.al X0.warmed.alike, f2.al X0.warmed.alike, hA.mv X0.warmed.alike hh0, s1.there X0.warmed.alike hh0, hz, l0, by omega, l2, fun i hi => by rw [Nat.zero_add]; exact hp i hi⟩)
  have e0 := Got.mv _ s₁ s _ _ hh0.symm (Vm.Alike.refl _) rfl E3
  obtain rfl := e0.1
  have c4 : Steps p.tables e below (s₁.setTop (entryFrame m #[.ref a, .ref b] 2)) (T3.setTop (mkF m 9 #[.val (.ref a), .val (.ref b)] [])) := g3
  exact ⟨T3, none, _, _, _, X3, by simp, rfl, by omega, (fun _ => rfl), e0, fun fs hl => c4.trans (X3.returnOut hexec hret (hb hbytes d9) hl)⟩
theorem pays {l : Launch} {R : Room} {p : Program} {e : Env} {below : List Frame} {s : State} {sargs : Array Value} {len W : Nat} (a : Addr) (D : Cell) (fV fC : Field) (b : Addr) (A : Cell) (z : Int32) (htab : tab.before sargs s = true) (hfr : 4 ≤ R.frames) (hlo : W + 65 ≤ R.locals) :
    Back l R p e below s sargs yN len W (fun A₁ a₁ => A₁.cells + 1 ≤ R.cells ∧ A₁.slots + A.slots.size ≤ R.slots ∧ P a D fV fC b A z a₁ A₁.U) (fun A₁ _ v₁ B₁ => E a D fV fC A v₁ A₁.U B₁.U ∧ B₁.locs = A₁.locs ++ [⟨a, fC.slot⟩, ⟨a, fV.slot⟩] ∧ B₁.cells = A₁.cells + 1 ∧ B₁.slots = A₁.slots + A.slots.size) :=
  (law l a D fV fC b A z).pays htab hfr (by omega)
end New1
end StrChars
namespace StrChars.Road
open Jvm Sem ClassFile Op Lib Jvm.Stand Jvm.Free Jvm.Free.XT
open Jvm.Lib.Cold (StaticIs)
abbrev ST : String := "java/lang/String"
/-- every table word that New1's law asks, flat -/
abbrev words : List Jvm.Cond := [.code New1.yN New1.yB 2 none, .initialized ST, .methodLink ST 27 New4.yN, .instanceMethod New4.yN,
  .code New4.yN New4.yB 6 none, .fieldLink ST 38 ST "COMPACT_STRINGS" "Z", .laysFinal ST ST "value" "[B", .fieldLink ST 9 ST "value" "[B", .laysFinal ST ST "coder" "B", .fieldLink ST 15 ST "coder" "B",
  .methodLink ST 1 Lib.objectInit, .instanceMethod Lib.objectInit, .code Lib.objectInit ⟨#[0xb1]⟩ 1 none, .methodLink ST 177 Cmp3.yN, .static Cmp3.yN, .methodLink ST 47 CodL.yN, .static CodL.yN,
  .code Cmp3.yN Cmp3.yB 6 (some (.array .byte)), .initialized U16, .arrayClass .byte, .methodLink U16 115 Cmp5.yN, .static Cmp5.yN, .code Cmp5.yN Cmp5.yB 7 (some .int), .code CodL.yN CodL.yB 2 (some .byte)]
theorem tab_of {a : Array Value} {s : State} (h : ∀ w ∈ words, w.before a s = true) : New1.tab.before a s = true := by
  have h5 : Cmp5.tab.before a s = true := unparts (wk h (.code Cmp5.yN Cmp5.yB 7 (some .int))) (wks h (.initialized Cmp5.yN.cls :: Cmp5.site))
  have hc : CodL.tab.before a s = true := unparts (wk h (.code CodL.yN CodL.yB 2 (some .byte))) (wks h (.initialized CodL.yN.cls :: CodL.site))
  have q5 : ∀ w ∈ Cmp5.tab :: words, w.before a s = true := fun w hw => (List.mem_cons.mp hw).elim (fun e => e ▸ h5) (h w)
  have h3 : Cmp3.tab.before a s = true := unparts (wk q5 (.code Cmp3.yN Cmp3.yB 6 (some (.array .byte)))) (wks q5 (.initialized Cmp3.yN.cls :: Cmp3.site))
  have q3 : ∀ w ∈ Cmp3.tab :: CodL.tab :: words, w.before a s = true := fun w hw => (List.mem_cons.mp hw).elim (fun e => e ▸ h3) fun hw => (List.mem_cons.mp hw).elim (fun e => e ▸ hc) (h w)
  have h4 : New4.tab.before a s = true := unparts (wk q3 (.code New4.yN New4.yB 6 none)) (wks q3 (.initialized New4.yN.cls :: New4.site))
  have q4 : ∀ w ∈ New4.tab :: words, w.before a s = true := fun w hw => (List.mem_cons.mp hw).elim (fun e => e ▸ h4) (h w)
  exact unparts (wk q4 (.code New1.yN New1.yB 2 none)) (wks q4 (.initialized New1.yN.cls :: New1.site))
/-- the words ride from the start Z to the walk's own state -/
theorem moved {Z s : State} {a0 args : Array Value} (hZ : Z.Warmed39 s.vm) (hw : ∀ d ∈ words, d.before a0 Z = true) : ∀ d ∈ words, d.before args s = true := fun d hd => by
  have q := hw d hd
  have t : ∀ d ∈ words, d = .arrayClass .byte ∨ (d.onTables && d.keepsFace) = true := by decide +kernel
  rcases t d hd with rfl | t
  · exact RoadKit.mvA hZ q
  · exact RoadKit.mv hZ q t
/-- WHAT COMES BACK, over the tables of the start Z: h the heap at the call, h' behind it -/
def Q (Z : State) (x : Addr) (A : Cell) (h : Heap) (v : Option Value) (h' : Heap) (L : List Loc) : Prop := v = none ∧ (∀ y ∈ L, y.base = x) ∧ RoadKit.Keep h h' [x] ∧ h'.size = h.size + 1 ∧ RoadKit.Exa Z h' x ST ∧ RoadKit.Fld Z h' x ST "value" "[B" (.ref h.size) ∧ RoadKit.Fld Z h' x ST "coder" "B" (.int 0) ∧
  (∃ V : Cell, RoadKit.Arr Z h' h.size V .byte ∧ V.vm = .none ∧ Z.vm.findClass "[B" = some V.cls ∧ V.slots.size = A.slots.size ∧ ∀ j, j < A.slots.size → V.slots[j]? = some (.int (lo8 (cv A j)))) ∧
  ∀ (O n d : String) (w : Value), RoadKit.Fld Z h x O n d w → RoadKit.slotOf Z O n d ≠ RoadKit.slotOf Z ST "value" "[B" → RoadKit.slotOf Z O n d ≠ RoadKit.slotOf Z ST "coder" "B" → RoadKit.Fld Z h' x O n d w
/-- **new String(chars) AT A CALL, IN THE ROAD'S FORM**: for specialBack behind newO: x the fresh String, b the char[] with the cell A -/
theorem back {p : Program} {l : Launch} {e : Env} {R : Room} {s : State} {args : Array Value} {below : List Frame} {len W : Nat} {Z : State} {a0 : Array Value} {h : Heap} (hZ : Z.Warmed39 s.vm) (hw : ∀ d ∈ words, d.before a0 Z = true) {kI : Nat} (wi : (Jvm.Cond.instantiable ST kI).before a0 Z = true)
    {x b : Addr} {A : Cell} {z : Int32} {v0 c0 : Value} (E : RoadKit.Exa Z h x ST) (V : RoadKit.Fld Z h x ST "value" "[B" v0) (C : RoadKit.Fld Z h x ST "coder" "B" c0) (K : RoadKit.Arr Z h b A .char) (hty : Typed .char A) (S : RoadKit.Sta Z h ST "COMPACT_STRINGS" "Z" (.int z)) (hz : ¬ z = 0)
    (l0 : 0 < A.slots.size) (l2 : A.slots.size ≤ 536870912) (hp : ∀ i, i < A.slots.size → ¬ 255 < cv A i) (hfr : 4 ≤ R.frames) (hlo : W + 65 ≤ R.locals) :
    Back l R p e below s args New1.yN len W (fun P a => a = #[.ref x, .ref b] ∧ P.U.heap = h ∧ P.cells + 1 ≤ R.cells ∧ P.slots + A.slots.size ≤ R.slots)
      (fun P _ v B => ∃ L, Q Z x A h v B.U.heap L ∧ B.locs = P.locs ++ L ∧ B.cells = P.cells + 1 ∧ B.slots = P.slots + A.slots.size) := by
  intro m meth c P g ig mk a X hg hsize hdg hW hn hp'
  obtain ⟨rfl, rfl, r1, r2⟩ := hp'
  have al : Z.vm.Alike P.U.vm := hZ.alike.trans X.warmed.alike
  obtain ⟨D, cfV, kV, iV, fV, hD, gV, stV, knV, obV, asV, slV⟩ := id V
  obtain ⟨D', cfC, kC, iC, fC, hD', gC, stC, -, -, asC, slC⟩ := id C
  cases hD.symm.trans hD'
  obtain ⟨D2, kD, e1, e2, e3, e4, e5⟩ := id E
  cases hD.symm.trans e1
  obtain ⟨c2, k2, i1, i2, i3, -⟩ := Cond.instantiable_spec wi
  cases e2.symm.trans i1
  cases e3.symm.trans i2
  obtain ⟨kU, u1, u2⟩ := al.2.2 _ _ e3
  have hB : Blank ST x D P.U := ⟨hD, ⟨knV, fun q hq => by rw [hq] at obV; cases obV⟩, by rw [al.findClass]; exact e2, kU, u1, by rw [u2]; exact i3, by rw [u2]; exact e5 i3⟩
  have F1 : Found ST "value" "[B" fV P.U := ⟨SBG.found_only al ⟨cfV, kV, iV, gV⟩, stV⟩
  have F2 : Found ST "coder" "B" fC P.U := ⟨SBG.found_only al ⟨cfC, kC, iC, gC⟩, stC⟩
  have hA : Ch b A P.U := ⟨⟨K.1, State.isArrayOf_alike al K.2.1, K.2.2, by omega⟩, hty⟩
  have hS : StaticIs P.U ST "COMPACT_STRINGS" "Z" (.int z) := by
    obtain ⟨cfS, iS, kS, fS, st, cS, t1, t2, t3, t4, t5, t6, t7⟩ := S
    exact StaticIs.there (s := { Z with heap := P.U.heap }) ⟨cfS, iS, kS, fS, st, cS, t1, t2, t3, t4, t5, (fun q => by rw [q] at t6; cases t6), t7⟩ al rfl
  obtain ⟨v, B, X', ⟨⟨hv, E', V', q1, q2, q3, q4, q5, q6, q7, q8, q9, q10, q11⟩, hl, hc, hs⟩, st⟩ := New1.pays x D fV fC b A z (tab_of (moved hZ hw)) hfr hlo m meth c P g ig mk _ X hg hsize hdg hW hn ⟨r1, r2, rfl, hB, F1, F2, hA, hS, hz, l0, l2, hp⟩
  have al' : Z.vm.Alike B.U.vm := hZ.alike.trans X'.warmed.alike
  have hsz : E'.slots.size = D.slots.size := by
    obtain ⟨-, -, -, kB, w1, w2, w3⟩ := q1
    obtain ⟨kB', y1, y2⟩ := al'.2.2 _ _ e3
    rw [q2.2.1] at w1
    cases w1.symm.trans y1
    rw [w3, e5 i3, y2]
  refine ⟨v, B, X', ⟨_, ⟨hv, ?_, ⟨by omega, fun y cy hy hn' => q10 y cy (by simpa using hn') hy, fun y cy hy => ?_⟩, q11, ⟨E', _, q1.1, by rw [q2.2.1]; exact e2, by rw [q2.2.1]; exact e3, by rw [q2.1]; exact obV, fun _ => by rw [hsz]; exact e5 i3⟩,
    ⟨E', cfV, kV, iV, fV, q1.1, gV, stV, by rw [q2.1]; exact knV, by rw [q2.1]; exact obV, by rw [q2.2.1]; exact asV, q3⟩, ⟨E', cfC, kC, iC, fC, q1.1, gC, stC, by rw [q2.1]; exact knV, by rw [q2.1]; exact obV, by rw [q2.2.1]; exact asC, q4⟩,
    ⟨V', ⟨q5.1, State.isArrayOf_alike al'.symm q5.2.1, q5.2.2.1⟩, q6, by rw [← al'.findClass]; exact q7, q8, fun j hj => by have := q9 j hj; rwa [Nat.zero_add] at this⟩, fun O n d w F n1 n2 => ?_⟩, hl, hc, hs⟩, st⟩
  · intro y hy
    simp only [List.mem_cons, List.not_mem_nil, or_false] at hy
    rcases hy with rfl | rfl <;> rfl
  · by_cases q : y = x
    · subst q
      cases hD.symm.trans hy
      exact ⟨E', q1.1, q2.2.1, q2.1, hsz⟩
    · exact ⟨cy, q10 y cy q hy, rfl, rfl, rfl⟩
  · obtain ⟨D3, cf, k, i, f, g1, g2, g3, g4, g5, g6, g7⟩ := F
    cases hD.symm.trans g1
    simp only [RoadKit.slotOf, g2, gV, gC, Option.map_some, Option.getD_some] at n1 n2
    exact ⟨E', cf, k, i, f, q1.1, g2, g3, by rw [q2.1]; exact g4, by rw [q2.1]; exact g5, by rw [q2.2.1]; exact g6, by rw [q2.2.2 f.slot (by simp [n1, n2])]; exact g7⟩
end StrChars.Road
namespace StrChars.Road
open Jvm Sem ClassFile Op Lib Jvm.Stand Jvm.Free Jvm.Free.XT
/-- WHAT COMES BACK, the byte[] as a list of values -/
def QA (Z : State) (x : Addr) (zn : Int32) (cs : List Int32) (h : Heap) (v : Option Value) (h' : Heap) (L : List Loc) : Prop := v = none ∧ (∀ y ∈ L, y.base = x) ∧ RoadKit.Keep h h' [x] ∧ h'.size = h.size + 1 ∧ RoadKit.Exa Z h' x ST ∧ RoadKit.Fld Z h' x ST "value" "[B" (.ref h.size) ∧ RoadKit.Fld Z h' x ST "coder" "B" (.int 0) ∧
  (∃ kb, Z.vm.findClass "[B" = some kb ∧ RoadKit.Arv Z h' h.size kb .byte zn (cs.map fun c => .int (lo8 c)) (.int 0)) ∧
  ∀ (O n d : String) (w : Value), RoadKit.Fld Z h x O n d w → RoadKit.slotOf Z O n d ≠ RoadKit.slotOf Z ST "value" "[B" → RoadKit.slotOf Z O n d ≠ RoadKit.slotOf Z ST "coder" "B" → RoadKit.Fld Z h' x O n d w
/-- **new String(chars) AT A CALL, THE ARRAYS AS LISTS**: the char[] at b holds cs, not empty, no char above 255 -/
theorem backArv {p : Program} {l : Launch} {e : Env} {R : Room} {s : State} {args : Array Value} {below : List Frame} {len W : Nat} {Z : State} {a0 : Array Value} {h : Heap} (hZ : Z.Warmed39 s.vm) (hw : ∀ d ∈ words, d.before a0 Z = true) {kI : Nat} (wi : (Jvm.Cond.instantiable ST kI).before a0 Z = true)
    {x b : Addr} {k : ClassId} {zn z : Int32} {cs : List Int32} {dv v0 c0 : Value} (E : RoadKit.Exa Z h x ST) (V : RoadKit.Fld Z h x ST "value" "[B" v0) (C : RoadKit.Fld Z h x ST "coder" "B" c0) (K : RoadKit.Arv Z h b k .char zn (cs.map Value.int) dv) (S : RoadKit.Sta Z h ST "COMPACT_STRINGS" "Z" (.int z)) (hz : ¬ z = 0)
    (hlen : zn.toNatClampNeg = cs.length) (h0 : 0 < cs.length) (hbig : cs.length ≤ 536870912) (hall : ∀ c ∈ cs, ¬ 255 < c) (hfr : 4 ≤ R.frames) (hlo : W + 65 ≤ R.locals) :
    Back l R p e below s args New1.yN len W (fun P a => a = #[.ref x, .ref b] ∧ P.U.heap = h ∧ P.cells + 1 ≤ R.cells ∧ P.slots + cs.length ≤ R.slots)
      (fun P _ v B => ∃ L, QA Z x zn cs h v B.U.heap L ∧ B.locs = P.locs ++ L ∧ B.cells = P.cells + 1 ∧ B.slots = P.slots + cs.length) := by
  obtain ⟨A, K1, K2, K3, K4, K5, K6⟩ := K
  have e : A.slots.size = cs.length := K3.trans hlen
  have hat : ∀ (i : Nat) (hi : i < cs.length), A.slots[i]? = some (.int cs[i]) := fun i hi => by rw [K5 i (by omega)]; simp [List.getD_eq_getElem?_getD, hi]
  have hcv : ∀ (i : Nat) (hi : i < cs.length), cv A i = cs[i] := fun i hi => by unfold cv; rw [hat i hi]
  have hty : Typed .char A := fun i v hv => by
    have hi : i < A.slots.size := (Array.getElem?_eq_some_iff.mp hv).1
    have q := K5 i hi
    rw [hv] at q
    rw [Option.some.inj q]
    exact K6 i hi
  refine Back.mono (back hZ hw wi E V C K1 hty S hz (by omega) (by omega) (fun i hi => by rw [hcv i (by omega)]; exact hall _ (List.getElem_mem _)) hfr hlo) (fun P a hp => ⟨hp.1, hp.2.1, hp.2.2.1, by rw [e]; exact hp.2.2.2⟩) (fun P a v B hp hq => ?_)
  obtain ⟨L, ⟨q1, q2, q3, q4, q5, q6, q7, ⟨V', v1, v2, v3, v4, v5⟩, q9⟩, hl, hc, hs⟩ := hq
  refine ⟨L, ⟨q1, q2, q3, q4, q5, q6, q7, ⟨V'.cls, v3, V', v1, rfl, by rw [v4, e, hlen], K4, fun i hi => ?_, fun i hi => ?_⟩, q9⟩, hl, hc, by rw [hs, e]⟩
  · have hi' : i < cs.length := by omega
    rw [v5 i (by omega), hcv i hi']; simp [List.getD_eq_getElem?_getD, hi']
  · have hi' : i < cs.length := by omega
    simp only [List.getD_eq_getElem?_getD, List.getElem?_map, List.getElem?_eq_getElem hi', Option.map_some, Option.getD_some]
    exact fits_lo8 _
end StrChars.Road
namespace StrChars.Road
open Jvm Sem ClassFile Op Lib Jvm.Stand Jvm.Free Jvm.Free.XT
/-- WHAT COMES BACK, in the writer's own shape -/
def QV (Z : State) (x : Addr) (N : Int32) (bs : List Int32) (h : Heap) (n0 : Nat) (v : Option Value) (h' : Heap) (L : List Loc) : Prop := v = none ∧ RoadKit.Fr n0 L ∧ RoadKit.Keep h h' [x] ∧ RoadKit.Exa Z h' x ST ∧ RoadKit.Fld Z h' x ST "coder" "B" (.int 0) ∧
  ∃ (t : Addr) (kb : ClassId), n0 ≤ t ∧ h.size ≤ t ∧ ¬ t = x ∧ RoadKit.Fld Z h' x ST "value" "[B" (.ref t) ∧ RoadKit.Arv Z h' t kb .byte N (bs.map Value.int) (.int 0)
/-- **new String(chars) AT A CALL, FOR THE WRITER**: a char[] of n known ints, each 0 to 255 -/
theorem backV {p : Program} {l : Launch} {e : Env} {R : Room} {s : State} {args : Array Value} {below : List Frame} {len W : Nat} {Z : State} {a0 : Array Value} {h : Heap} (hZ : Z.Warmed39 s.vm) (hw : ∀ d ∈ words, d.before a0 Z = true) {kI : Nat} (wi : (Jvm.Cond.instantiable ST kI).before a0 Z = true)
    {x b : Addr} {kC : ClassId} {cs bs : List Int32} {d v0 c0 : Value} {z N : Int32} {n n0 : Nat} (hx0 : n0 ≤ x) (hh0 : n0 ≤ h.size) (E : RoadKit.Exa Z h x ST) (V : RoadKit.Fld Z h x ST "value" "[B" v0) (C : RoadKit.Fld Z h x ST "coder" "B" c0) (K : RoadKit.Arv Z h b kC .char N (cs.map Value.int) d) (S : RoadKit.Sta Z h ST "COMPACT_STRINGS" "Z" (.int z)) (hz : ¬ z = 0)
    (hn : cs.length = n) (hN : N = Int32.ofNat n) (l0 : 0 < n) (l2 : n ≤ 4000) (hp : ∀ c ∈ cs, ¬ c < 0 ∧ ¬ (255 : Int32) < c) (hb : bs = cs.map (fun c => c.toInt8.toInt32)) (hfr : 4 ≤ R.frames) (hlo : W + 65 ≤ R.locals) :
    Back l R p e below s args (⟨"java/lang/String", "<init>", "([C)V"⟩ : MethodName) len W (fun P a => a = #[.ref x, .ref b] ∧ P.U.heap = h ∧ P.cells + 1 ≤ R.cells ∧ P.slots + n ≤ R.slots)
      (fun P _ v B => ∃ L, QV Z x N bs h n0 v B.U.heap L ∧ B.locs = P.locs ++ L ∧ B.cells = P.cells + 1 ∧ B.slots = P.slots + n) := by
  subst hn hN hb
  refine Back.mono (backArv hZ hw wi E V C K S hz (n32 (by omega)) l0 (by omega) (fun c hc => (hp c hc).2) hfr hlo) (fun P a hp => hp) (fun P a v B hp hq => ?_)
  obtain ⟨L, ⟨q1, q2, q3, q4, q5, q6, q7, ⟨kb, v1, v2⟩, q9⟩, hl, hc, hs⟩ := hq
  exact ⟨L, ⟨q1, fun y hy => by rw [q2 y hy]; exact hx0, q3, q5, q7, h.size, kb, hh0, Nat.le_refl _, Nat.ne_of_gt E.lt, q6, by rw [List.map_map]; exact v2⟩, hl, hc, hs⟩
end StrChars.Road
end Jvm.Pilot.@@N@@

namespace Jvm.Pilot.@@N@@
open Jvm Jvm.ClassFile Sem Op Lib Jvm.Free Jvm.Stand Jvm.LawKit Jvm.RoadKit Bundle Jvm.Pilot.@@N@@.Jvm.D

section OwnKit
variable {p : Program} {l : Launch} {e : Env} {R : Room} {s : State} {m : MethodId} {args : Array Value} {below : List Frame} {meth : Method} {c : Code} {T T' : State} {locs : List Loc} {cells slots : Nat} {Z : State} {h h' : Heap}
/-- from the state T with the frame g on top the run ends well -/
def own_G (p : Program) (e : Env) (below : List Frame) (s : State) (kc ks : Nat) (Q : Option Value → Heap → List Loc → Prop) (T : State) (g : JFrame) : Prop :=
  ∃ (U : State) (o : Outcome), Steps p.tables e below (T.setTop g) U ∧ U.status = .running ∧ Ended U below o ∧ ∃ v L, o = .returned v ∧ Q v U.heap L ∧ FrameEnd s o U L kc ks
variable {kc ks : Nat} {Q : Option Value → Heap → List Loc → Prop}
theorem own_step {g g' : JFrame} (k : ∀ t, Steps p.tables e below (T'.setTop g') t → Steps p.tables e below (T.setTop g) t) (hh : own_G p e below s kc ks Q T' g') : own_G p e below s kc ks Q T g := by
  obtain ⟨U, o, h1, h2⟩ := hh
  exact ⟨U, o, k _ h1, h2⟩
theorem own_retN (X : Stand p l e R s m args below meth c T locs cells slots) (hx : p.tables.exec = Jvm.exec) (hlk : meth.locks = false) {pc : Nat} {Ls : Array Slot} {z w : Int32} {t : FieldType} {rest : List Value} (hret : meth.sig.returnType = some t) (ht : t = .boolean ∨ t = .byte ∨ t = .char ∨ t = .short) (hd : decode c.code pc = .ok (.ireturn, 1)) (hw : nar t z = w) (hc : cells ≤ kc) (hs : slots ≤ ks) (hQ : Q (some (.int w)) T.heap locs) :
    own_G p e below s kc ks Q T (mkF m pc Ls (.int z :: rest)) := by
  subst hw
  obtain ⟨fs, hr, hrun, hended, hW, hsame⟩ := X.leave (v := some (.int (nar t z))) (fun q => by rw [hret] at q; cases q) hlk
  exact ⟨_, _, retN X hx hret ht hd hr, hrun, hended, _, _, rfl, hQ, ⟨_, rfl⟩, hW, hsame.mono hc hs⟩
theorem own_retI (X : Stand p l e R s m args below meth c T locs cells slots) (hx : p.tables.exec = Jvm.exec) (hlk : meth.locks = false) {pc : Nat} {Ls : Array Slot} {z : Int32} {rest : List Value} (hret : meth.sig.returnType = some .int) (hd : decode c.code pc = .ok (.ireturn, 1)) (hc : cells ≤ kc) (hs : slots ≤ ks) (hQ : Q (some (.int z)) T.heap locs) :
    own_G p e below s kc ks Q T (mkF m pc Ls (.int z :: rest)) := by
  obtain ⟨fs, hr, hrun, hended, hW, hsame⟩ := X.leave (v := some (.int z)) (fun q => by rw [hret] at q; cases q) hlk
  exact ⟨_, _, retOut X hx hret rfl (Or.inl ⟨rfl, Or.inl rfl, z, rfl⟩) hd hr, hrun, hended, _, _, rfl, hQ, ⟨_, rfl⟩, hW, hsame.mono hc hs⟩
theorem own_retJ (X : Stand p l e R s m args below meth c T locs cells slots) (hx : p.tables.exec = Jvm.exec) (hlk : meth.locks = false) {pc : Nat} {Ls : Array Slot} {z : Int64} {rest : List Value} (hret : meth.sig.returnType = some .long) (hd : decode c.code pc = .ok (.lreturn, 1)) (hc : cells ≤ kc) (hs : slots ≤ ks) (hQ : Q (some (.long z)) T.heap locs) :
    own_G p e below s kc ks Q T (mkF m pc Ls (.long z :: rest)) := by
  obtain ⟨fs, hr, hrun, hended, hW, hsame⟩ := X.leave (v := some (.long z)) (fun q => by rw [hret] at q; cases q) hlk
  exact ⟨_, _, retOut X hx hret rfl (Or.inr (Or.inl ⟨rfl, rfl, z, rfl⟩)) hd hr, hrun, hended, _, _, rfl, hQ, ⟨_, rfl⟩, hW, hsame.mono hc hs⟩
theorem own_retR (X : Stand p l e R s m args below meth c T locs cells slots) (hx : p.tables.exec = Jvm.exec) (hlk : meth.locks = false) {pc : Nat} {Ls : Array Slot} {w : Value} {t : FieldType} {rest : List Value} (hret : meth.sig.returnType = some t) (ht : t.isReference = true) (hw : w.isRef = true) (hd : decode c.code pc = .ok (.areturn, 1)) (hc : cells ≤ kc) (hs : slots ≤ ks) (hQ : Q (some w) T.heap locs) :
    own_G p e below s kc ks Q T (mkF m pc Ls (w :: rest)) := by
  obtain ⟨fs, hr, hrun, hended, hW, hsame⟩ := X.leave (v := some w) (fun q => by rw [hret] at q; cases q) hlk
  have hn : narrow t w = w := by cases w <;> cases t <;> first | rfl | (cases hw; done) | (cases ht; done)
  exact ⟨_, _, retOut X hx hret hn (Or.inr (Or.inr (Or.inr (Or.inr ⟨rfl, ht, hw⟩)))) hd hr, hrun, hended, _, _, rfl, hQ, ⟨_, rfl⟩, hW, hsame.mono hc hs⟩
theorem own_retV (X : Stand p l e R s m args below meth c T locs cells slots) (hx : p.tables.exec = Jvm.exec) (hlk : meth.locks = false) {pc : Nat} {Ls : Array Slot} (hret : meth.sig.returnType = none) (hd : decode c.code pc = .ok (.return_, 1)) (hc : cells ≤ kc) (hs : slots ≤ ks) (hQ : Q none T.heap locs) :
    own_G p e below s kc ks Q T (mkF m pc Ls []) := by
  obtain ⟨fs, hr, hrun, hended, hW, hsame⟩ := X.leave (v := none) (fun _ => rfl) hlk
  exact ⟨_, _, X.returnOut hx hret hd hr, hrun, hended, _, _, rfl, hQ, ⟨_, rfl⟩, hW, hsame.mono hc hs⟩
theorem own_lksw (X : Stand p l e R s m args below meth c T locs cells slots) (hx : p.tables.exec = Jvm.exec) {g : JFrame} (hg : g.method = m) {d : Int} {prs : Array (Int × Int)} {len : Nat} (hd : decode c.code g.pc = .ok (.lookupswitch d prs, len)) {x : Int32} {rest : List Value} (hs : g.stack = .int x :: rest) (hp : (prs.toList.zip (prs.toList.drop 1)).all (fun (a, next) => a.1 < next.1) = true)
    {o : Int} (ho : lookupswitch.offset prs.toList d x.toInt = o) {pc0 pc' : Nat} (hpc : g.pc = pc0) (h0 : 0 ≤ (pc0 : Int) + o) (hq : ((pc0 : Int) + o).toNat = pc') {target : State}
    (k : Steps p.tables e below (T.setTop { g with pc := pc', stack := rest }) target) : Steps p.tables e below (T.setTop g) target := by
  subst hg hpc hq ho
  jvm_step X.here [X.here.top, hx, hd, hs, lookupswitch.wp_chain, hp, h0]
  exact ⟨by simpa using hp, k⟩
theorem own_sta_keep {C n d : String} {v : Value} {ws : List Addr} (F : Sta Z h C n d v) (K : Keep h h' ws) (q : ∀ a ∈ ws, ∀ cell : Cell, h[a]? = some cell → cell.vm.isStatics = false) : Sta Z h' C n d v := by
  obtain ⟨cf, i, k, f, st, cell, h1, h2, h3, h4, h5, h6, h7⟩ := F
  exact ⟨cf, i, k, f, st, cell, h1, h2, h3, h4, K.2.1 st cell h5 (fun hm => by rw [q st hm cell h5] at h6; cases h6), h6, h7⟩
end OwnKit

theorem own_c255 (x : Int32) : ¬ nar .char ((x &&& (255 : Int32)).toUInt32.toUInt16.toUInt32.toInt32) < 0 ∧ ¬ (255 : Int32) < nar .char ((x &&& (255 : Int32)).toUInt32.toUInt16.toUInt32.toInt32) := by
  have e : nar .char ((x &&& (255 : Int32)).toUInt32.toUInt16.toUInt32.toInt32) = x &&& 255 := by
    show ((x &&& (255 : Int32)).toUInt32.toUInt16.toUInt32.toInt32).toUInt32.toUInt16.toUInt32.toInt32 = _
    rw [i2c_mask, i2c_mask]
  rw [e]
  have h : (x &&& 255).toBitVec.toNat < 256 := by
    simp only [Int32.toBitVec_and, BitVec.toNat_and]
    exact Nat.lt_succ_of_le Nat.and_le_right
  have e2 : (x &&& 255).toInt = ((x &&& 255).toBitVec.toNat : Int) := by
    show (x &&& 255).toBitVec.toInt = _
    rw [BitVec.toInt_eq_toNat_cond, if_pos (by omega)]
  simp only [Int32.lt_iff_toInt_lt, Int32.reduceToInt]
  omega
theorem own_up (cs : List Int32) (h : ∀ c ∈ cs, ¬ c < 0 ∧ ¬ (255 : Int32) < c) : ∀ c ∈ cs, ¬ c < 0 ∧ ¬ (65535 : Int32) < c := fun c hc => by
  have q := h c hc
  simp only [Int32.lt_iff_toInt_lt, Int32.reduceToInt] at q ⊢
  omega
theorem pd_0 : parseMethodDescriptor "([C)V" = some ⟨[(.array .char)], none⟩ := by decide +kernel
theorem pd_1 : parseMethodDescriptor "([CIILjava/lang/Void;)V" = some ⟨[(.array .char), .int, .int, (.object "java/lang/Void")], none⟩ := by decide +kernel
theorem pd_2 : parseMethodDescriptor "()V" = some ⟨[], none⟩ := by decide +kernel
theorem pd_3 : parseMethodDescriptor "([CII)[B" = some ⟨[(.array .char), .int, .int], some (.array .byte)⟩ := by decide +kernel
theorem pd_4 : parseMethodDescriptor "([CI[BII)I" = some ⟨[(.array .char), .int, (.array .byte), .int, .int], some .int⟩ := by decide +kernel
theorem pd_5 : parseMethodDescriptor "([BI)B" = some ⟨[(.array .byte), .int], some .byte⟩ := by decide +kernel
theorem pd_6 : parseMethodDescriptor "(Ljava/lang/String;Ljava/lang/String;Ljava/lang/String;)Lcom/example/tapeloom/tapeloom/Option;" = some ⟨[(.object "java/lang/String"), (.object "java/lang/String"), (.object "java/lang/String")], some (.object "com/example/tapeloom/tapeloom/Option")⟩ := by decide +kernel
theorem pd_7 : parseMethodDescriptor "(Ljava/lang/String;Ljava/lang/String;Ljava/lang/String;Ljava/lang/String;)V" = some ⟨[(.object "java/lang/String"), (.object "java/lang/String"), (.object "java/lang/String"), (.object "java/lang/String")], none⟩ := by decide +kernel
theorem pd_8 : parseMethodDescriptor "()Ljava/lang/String;" = some ⟨[], some (.object "java/lang/String")⟩ := by decide +kernel
theorem pd_9 : parseMethodDescriptor "(Ljava/lang/String;Ljava/lang/String;)Z" = some ⟨[(.object "java/lang/String"), (.object "java/lang/String")], some .boolean⟩ := by decide +kernel
theorem pd_10 : parseMethodDescriptor "(Ljava/lang/Object;)Z" = some ⟨[(.object "java/lang/Object")], some .boolean⟩ := by decide +kernel
theorem pd_11 : parseMethodDescriptor "()Z" = some ⟨[], some .boolean⟩ := by decide +kernel
theorem pn_0 : plainName "com/example/tapeloom/tapeloom/OptionFlagPinLaw" = true := by first | (simp [plainName, overriddenIn]; done) | decide +kernel
theorem d7_0 : decode prog_15_method_2_code 0 = .ok (.new 8, 3) := by decide +kernel
theorem d7_3 : decode prog_15_method_2_code 3 = .ok (.dup, 1) := by decide +kernel
theorem d7_4 : decode prog_15_method_2_code 4 = .ok (.aload_n 0, 1) := by decide +kernel
theorem d7_5 : decode prog_15_method_2_code 5 = .ok (.aload_n 1, 1) := by decide +kernel
theorem d7_6 : decode prog_15_method_2_code 6 = .ok (.aconst_null, 1) := by decide +kernel
theorem d7_7 : decode prog_15_method_2_code 7 = .ok (.aload_n 2, 1) := by decide +kernel
theorem d7_8 : decode prog_15_method_2_code 8 = .ok (.invokespecial 22, 3) := by decide +kernel
theorem d7_11 : decode prog_15_method_2_code 11 = .ok (.areturn, 1) := by decide +kernel
theorem pn_7 : plainName "com/example/tapeloom/tapeloom/Option" = true := by first | (simp [plainName, overriddenIn]; done) | decide +kernel
theorem d8_0 : decode prog_15_method_1_code 0 = .ok (.aload_n 0, 1) := by decide +kernel
theorem d8_1 : decode prog_15_method_1_code 1 = .ok (.invokespecial 1, 3) := by decide +kernel
theorem d8_4 : decode prog_15_method_1_code 4 = .ok (.aload_n 0, 1) := by decide +kernel
theorem d8_5 : decode prog_15_method_1_code 5 = .ok (.aload_n 1, 1) := by decide +kernel
theorem d8_6 : decode prog_15_method_1_code 6 = .ok (.putfield 7, 3) := by decide +kernel
theorem d8_9 : decode prog_15_method_1_code 9 = .ok (.aload_n 0, 1) := by decide +kernel
theorem d8_10 : decode prog_15_method_1_code 10 = .ok (.aload_n 2, 1) := by decide +kernel
theorem d8_11 : decode prog_15_method_1_code 11 = .ok (.putfield 13, 3) := by decide +kernel
theorem d8_14 : decode prog_15_method_1_code 14 = .ok (.aload_n 0, 1) := by decide +kernel
theorem d8_15 : decode prog_15_method_1_code 15 = .ok (.aload_n 3, 1) := by decide +kernel
theorem d8_16 : decode prog_15_method_1_code 16 = .ok (.putfield 16, 3) := by decide +kernel
theorem d8_19 : decode prog_15_method_1_code 19 = .ok (.aload_n 0, 1) := by decide +kernel
theorem d8_20 : decode prog_15_method_1_code 20 = .ok (.aload 4, 2) := by decide +kernel
theorem d8_22 : decode prog_15_method_1_code 22 = .ok (.putfield 19, 3) := by decide +kernel
theorem d8_25 : decode prog_15_method_1_code 25 = .ok (.return_, 1) := by decide +kernel
theorem pn_8 : plainName "com/example/tapeloom/tapeloom/Option" = true := by first | (simp [plainName, overriddenIn]; done) | decide +kernel
theorem d9_0 : decode prog_15_method_5_code 0 = .ok (.aload_n 0, 1) := by decide +kernel
theorem d9_1 : decode prog_15_method_5_code 1 = .ok (.getfield 7, 3) := by decide +kernel
theorem d9_4 : decode prog_15_method_5_code 4 = .ok (.areturn, 1) := by decide +kernel
theorem pn_9 : plainName "com/example/tapeloom/tapeloom/Option" = true := by first | (simp [plainName, overriddenIn]; done) | decide +kernel
theorem d10_0 : decode method_2_code 0 = .ok (.aload_n 0, 1) := by decide +kernel
theorem d10_1 : decode method_2_code 1 = .ok (.ifnonnull 13, 3) := by decide +kernel
theorem d10_4 : decode method_2_code 4 = .ok (.aload_n 1, 1) := by decide +kernel
theorem d10_5 : decode method_2_code 5 = .ok (.ifnonnull 7, 3) := by decide +kernel
theorem d10_8 : decode method_2_code 8 = .ok (.iconst 1, 1) := by decide +kernel
theorem d10_9 : decode method_2_code 9 = .ok (.goto 4, 3) := by decide +kernel
theorem d10_12 : decode method_2_code 12 = .ok (.iconst 0, 1) := by decide +kernel
theorem d10_13 : decode method_2_code 13 = .ok (.ireturn, 1) := by decide +kernel
theorem d10_14 : decode method_2_code 14 = .ok (.aload_n 1, 1) := by decide +kernel
theorem d10_15 : decode method_2_code 15 = .ok (.ifnull 15, 3) := by decide +kernel
theorem d10_18 : decode method_2_code 18 = .ok (.aload_n 0, 1) := by decide +kernel
theorem d10_19 : decode method_2_code 19 = .ok (.aload_n 1, 1) := by decide +kernel
theorem d10_20 : decode method_2_code 20 = .ok (.invokevirtual 7, 3) := by decide +kernel
theorem d10_23 : decode method_2_code 23 = .ok (.ifCond .eq 7, 3) := by decide +kernel
theorem d10_26 : decode method_2_code 26 = .ok (.iconst 1, 1) := by decide +kernel
theorem d10_27 : decode method_2_code 27 = .ok (.goto 4, 3) := by decide +kernel
theorem d10_30 : decode method_2_code 30 = .ok (.iconst 0, 1) := by decide +kernel
theorem d10_31 : decode method_2_code 31 = .ok (.ireturn, 1) := by decide +kernel
theorem pn_10 : plainName "com/example/tapeloom/tapeloom/OptionFlagPinLaw" = true := by first | (simp [plainName, overriddenIn]; done) | decide +kernel
theorem d11_0 : decode jdk_42_method_66_code 0 = .ok (.aload_n 0, 1) := by decide +kernel
theorem d11_1 : decode jdk_42_method_66_code 1 = .ok (.aload_n 1, 1) := by decide +kernel
theorem d11_2 : decode jdk_42_method_66_code 2 = .ok (.if_acmp .ne 5, 3) := by decide +kernel
theorem d11_5 : decode jdk_42_method_66_code 5 = .ok (.iconst 1, 1) := by decide +kernel
theorem d11_6 : decode jdk_42_method_66_code 6 = .ok (.ireturn, 1) := by decide +kernel
theorem d11_7 : decode jdk_42_method_66_code 7 = .ok (.aload_n 1, 1) := by decide +kernel
theorem d11_8 : decode jdk_42_method_66_code 8 = .ok (.instanceof 10, 3) := by decide +kernel
theorem d11_11 : decode jdk_42_method_66_code 11 = .ok (.ifCond .eq 43, 3) := by decide +kernel
theorem d11_14 : decode jdk_42_method_66_code 14 = .ok (.aload_n 1, 1) := by decide +kernel
theorem d11_15 : decode jdk_42_method_66_code 15 = .ok (.checkcast 10, 3) := by decide +kernel
theorem d11_18 : decode jdk_42_method_66_code 18 = .ok (.astore_n 2, 1) := by decide +kernel
theorem d11_19 : decode jdk_42_method_66_code 19 = .ok (.getstatic 38, 3) := by decide +kernel
theorem d11_22 : decode jdk_42_method_66_code 22 = .ok (.ifCond .eq 14, 3) := by decide +kernel
theorem d11_25 : decode jdk_42_method_66_code 25 = .ok (.aload_n 0, 1) := by decide +kernel
theorem d11_26 : decode jdk_42_method_66_code 26 = .ok (.getfield 15, 3) := by decide +kernel
theorem d11_29 : decode jdk_42_method_66_code 29 = .ok (.aload_n 2, 1) := by decide +kernel
theorem d11_30 : decode jdk_42_method_66_code 30 = .ok (.getfield 15, 3) := by decide +kernel
theorem d11_33 : decode jdk_42_method_66_code 33 = .ok (.if_icmp .ne 21, 3) := by decide +kernel
theorem d11_36 : decode jdk_42_method_66_code 36 = .ok (.aload_n 0, 1) := by decide +kernel
theorem d11_37 : decode jdk_42_method_66_code 37 = .ok (.getfield 9, 3) := by decide +kernel
theorem d11_40 : decode jdk_42_method_66_code 40 = .ok (.aload_n 2, 1) := by decide +kernel
theorem d11_41 : decode jdk_42_method_66_code 41 = .ok (.getfield 9, 3) := by decide +kernel
theorem d11_44 : decode jdk_42_method_66_code 44 = .ok (.invokestatic 541, 3) := by decide +kernel
theorem d11_47 : decode jdk_42_method_66_code 47 = .ok (.ifCond .eq 7, 3) := by decide +kernel
theorem d11_50 : decode jdk_42_method_66_code 50 = .ok (.iconst 1, 1) := by decide +kernel
theorem d11_51 : decode jdk_42_method_66_code 51 = .ok (.goto 4, 3) := by decide +kernel
theorem d11_54 : decode jdk_42_method_66_code 54 = .ok (.iconst 0, 1) := by decide +kernel
theorem d11_55 : decode jdk_42_method_66_code 55 = .ok (.ireturn, 1) := by decide +kernel
theorem pn_11 : plainName "java/lang/String" = true := by first | (simp [plainName, overriddenIn]; done) | decide +kernel
theorem d12_0 : decode prog_15_method_6_code 0 = .ok (.aload_n 0, 1) := by decide +kernel
theorem d12_1 : decode prog_15_method_6_code 1 = .ok (.getfield 13, 3) := by decide +kernel
theorem d12_4 : decode prog_15_method_6_code 4 = .ok (.areturn, 1) := by decide +kernel
theorem pn_12 : plainName "com/example/tapeloom/tapeloom/Option" = true := by first | (simp [plainName, overriddenIn]; done) | decide +kernel
theorem d13_0 : decode prog_15_method_8_code 0 = .ok (.aload_n 0, 1) := by decide +kernel
theorem d13_1 : decode prog_15_method_8_code 1 = .ok (.getfield 19, 3) := by decide +kernel
theorem d13_4 : decode prog_15_method_8_code 4 = .ok (.areturn, 1) := by decide +kernel
theorem pn_13 : plainName "com/example/tapeloom/tapeloom/Option" = true := by first | (simp [plainName, overriddenIn]; done) | decide +kernel
theorem d14_0 : decode prog_15_method_7_code 0 = .ok (.aload_n 0, 1) := by decide +kernel
theorem d14_1 : decode prog_15_method_7_code 1 = .ok (.getfield 16, 3) := by decide +kernel
theorem d14_4 : decode prog_15_method_7_code 4 = .ok (.areturn, 1) := by decide +kernel
theorem pn_14 : plainName "com/example/tapeloom/tapeloom/Option" = true := by first | (simp [plainName, overriddenIn]; done) | decide +kernel
theorem d15_0 : decode prog_15_method_9_code 0 = .ok (.aload_n 0, 1) := by decide +kernel
theorem d15_1 : decode prog_15_method_9_code 1 = .ok (.getfield 16, 3) := by decide +kernel
theorem d15_4 : decode prog_15_method_9_code 4 = .ok (.ifnull 7, 3) := by decide +kernel
theorem d15_7 : decode prog_15_method_9_code 7 = .ok (.iconst 1, 1) := by decide +kernel
theorem d15_8 : decode prog_15_method_9_code 8 = .ok (.goto 4, 3) := by decide +kernel
theorem d15_11 : decode prog_15_method_9_code 11 = .ok (.iconst 0, 1) := by decide +kernel
theorem d15_12 : decode prog_15_method_9_code 12 = .ok (.ireturn, 1) := by decide +kernel
theorem pn_15 : plainName "com/example/tapeloom/tapeloom/Option" = true := by first | (simp [plainName, overriddenIn]; done) | decide +kernel
theorem d16_0 : decode prog_15_method_10_code 0 = .ok (.aload_n 0, 1) := by decide +kernel
theorem d16_1 : decode prog_15_method_10_code 1 = .ok (.getfield 7, 3) := by decide +kernel
theorem d16_4 : decode prog_15_method_10_code 4 = .ok (.ifnonnull 14, 3) := by decide +kernel
theorem d16_7 : decode prog_15_method_10_code 7 = .ok (.aload_n 0, 1) := by decide +kernel
theorem d16_8 : decode prog_15_method_10_code 8 = .ok (.getfield 13, 3) := by decide +kernel
theorem d16_11 : decode prog_15_method_10_code 11 = .ok (.ifnonnull 7, 3) := by decide +kernel
theorem d16_14 : decode prog_15_method_10_code 14 = .ok (.iconst 1, 1) := by decide +kernel
theorem d16_15 : decode prog_15_method_10_code 15 = .ok (.goto 4, 3) := by decide +kernel
theorem d16_18 : decode prog_15_method_10_code 18 = .ok (.iconst 0, 1) := by decide +kernel
theorem d16_19 : decode prog_15_method_10_code 19 = .ok (.ireturn, 1) := by decide +kernel
theorem pn_16 : plainName "com/example/tapeloom/tapeloom/Option" = true := by first | (simp [plainName, overriddenIn]; done) | decide +kernel
theorem d17_0 : decode prog_15_method_11_code 0 = .ok (.aload_n 0, 1) := by decide +kernel
theorem d17_1 : decode prog_15_method_11_code 1 = .ok (.getfield 13, 3) := by decide +kernel
theorem d17_4 : decode prog_15_method_11_code 4 = .ok (.ifnonnull 10, 3) := by decide +kernel
theorem d17_7 : decode prog_15_method_11_code 7 = .ok (.aload_n 0, 1) := by decide +kernel
theorem d17_8 : decode prog_15_method_11_code 8 = .ok (.getfield 7, 3) := by decide +kernel
theorem d17_11 : decode prog_15_method_11_code 11 = .ok (.goto 7, 3) := by decide +kernel
theorem d17_14 : decode prog_15_method_11_code 14 = .ok (.aload_n 0, 1) := by decide +kernel
theorem d17_15 : decode prog_15_method_11_code 15 = .ok (.getfield 13, 3) := by decide +kernel
theorem d17_18 : decode prog_15_method_11_code 18 = .ok (.areturn, 1) := by decide +kernel
theorem pn_17 : plainName "com/example/tapeloom/tapeloom/Option" = true := by first | (simp [plainName, overriddenIn]; done) | decide +kernel
theorem ef_rm8_00 (m : MethodId) (x0 : Addr) (x1 : Addr) (x2 : Addr) (x4 : Addr) : entryFrame m #[(.ref x0), (.ref x1), (.ref x2), .null, (.ref x4)] 5 = mkF m 0 #[.val (.ref x0), .val (.ref x1), .val (.ref x2), .val .null, .val (.ref x4)] [] := by first | (simp [entryFrame, mkF, argsToLocals, Value.category]; done) | rfl
def Qrm8_00 (Z : State) (p0 : Addr) (p1 : Addr) (p2 : Addr) (p4 : Addr) (h0 : Heap) (n0 : Nat) (v : Option Value) (h : Heap) (L : List Loc) : Prop := v = none ∧ Fr n0 L ∧ Keep h0 h [p0] ∧ Fld Z h p0 "com/example/tapeloom/tapeloom/Option" "shortName" "Ljava/lang/String;" (.ref p1) ∧ Fld Z h p0 "com/example/tapeloom/tapeloom/Option" "longName" "Ljava/lang/String;" (.ref p2) ∧ Fld Z h p0 "com/example/tapeloom/tapeloom/Option" "label" "Ljava/lang/String;" .null ∧ Fld Z h p0 "com/example/tapeloom/tapeloom/Option" "description" "Ljava/lang/String;" (.ref p4)
set_option maxRecDepth 65536 in
set_option maxHeartbeats 40000000 in
theorem rm8_00 (l : Launch) (Z : State) (a0 : Array Value) (hw : ∀ d ∈ tables_1, d.before a0 Z = true) (ws : List Jvm.Cond) (p0 : Addr) (p1 : Addr) (p2 : Addr) (p4 : Addr) (h0 : Heap) (n0 : Nat) (Z0 : n0 ≤ h0.size) (E_p0 : Exa Z h0 p0 "com/example/tapeloom/tapeloom/Option") (F_shortName_p0 : Fld Z h0 p0 "com/example/tapeloom/tapeloom/Option" "shortName" "Ljava/lang/String;" .null) (F_longName_p0 : Fld Z h0 p0 "com/example/tapeloom/tapeloom/Option" "longName" "Ljava/lang/String;" .null) (F_label_p0 : Fld Z h0 p0 "com/example/tapeloom/tapeloom/Option" "label" "Ljava/lang/String;" .null) (F_description_p0 : Fld Z h0 p0 "com/example/tapeloom/tapeloom/Option" "description" "Ljava/lang/String;" .null) (g_p0 : n0 ≤ p0) :
    MetFree l (⟨"com/example/tapeloom/tapeloom/Option", "<init>", "(Ljava/lang/String;Ljava/lang/String;Ljava/lang/String;Ljava/lang/String;)V"⟩ : MethodName) (head1 (Jvm.Cond.code (⟨"com/example/tapeloom/tapeloom/Option", "<init>", "(Ljava/lang/String;Ljava/lang/String;Ljava/lang/String;Ljava/lang/String;)V"⟩ : MethodName) prog_15_method_1_code 5 none :: ws) ({ frames := 1, cells := 0, slots := 0, locals := 12 } : Room)) (fun a U => a = #[(.ref p0), (.ref p1), (.ref p2), .null, (.ref p4)] ∧ Z.Warmed39 U.vm ∧ U.heap = h0) (fun _ _ _ _ _ => True) (fun _ U o U' => ∃ v L, o = .returned v ∧ Qrm8_00 Z p0 p1 p2 p4 h0 n0 v U'.heap L ∧ FrameEnd U o U' L ({ frames := 1, cells := 0, slots := 0, locals := 12 } : Room).cells ({ frames := 1, cells := 0, slots := 0, locals := 12 } : Room).slots) := by
  refine MetFree.of_bodySF (plainFor_of_name pn_8) hisR ?_
  intro p e s m args below meth c s₁ Bd hml0 hP hK
  obtain ⟨rfl, hZ, hh⟩ := hP
  have hx := Bd.exec
  have hby := Bd.bytes
  have hlk : meth.locks = false := BodyLoose.notSynchronized Bd
  have hml : c.maxLocals = 5 := hml0
  have hown : s.vm.findClass "com/example/tapeloom/tapeloom/Option" = some m.cls := findClass_of_methodNamed Bd.named
  have hnm := (name_of_methodNamed Bd.named Bd.method).1
  have X0 : Stand p l e ({ frames := 1, cells := 0, slots := 0, locals := 12 } : Room) s m #[(.ref p0), (.ref p1), (.ref p2), .null, (.ref p4)] below meth c s₁ [] 0 0 := Stand.of_body Bd
  have e0 : s₁.heap = h0 := by rw [← hh, Bd.state]; rfl
  have N0 := Fr.nil n0
  have K0 : Keep h0 h0 [p0] := Keep.refl h0 [p0]
  show own_G p e below s 0 0 (Qrm8_00 Z p0 p1 p2 p4 h0 n0) s₁ (entryFrame m #[(.ref p0), (.ref p1), (.ref p2), .null, (.ref p4)] 5)
  rw [ef_rm8_00 m p0 p1 p2 p4]
  refine own_step (T' := s₁) (g' := (mkF m 1 #[.val (.ref p0), .val (.ref p1), .val (.ref p2), .val .null, .val (.ref p4)] [(.ref p0)])) (fun t k => XS.aloadN X0.here hx rfl (hb hby d8_0) rfl rfl k) ?_
  obtain ⟨T1, X1, e1, st1⟩ := initO X0 hx hZ hown (hw _ (List.mem_of_getElem? (i := 39) rfl)) (hw _ (List.mem_of_getElem? (i := 12) rfl)) (hw _ (List.mem_of_getElem? (i := 13) rfl)) e0 (g := (mkF m 1 #[.val (.ref p0), .val (.ref p1), .val (.ref p2), .val .null, .val (.ref p4)] [(.ref p0)])) rfl (by rw [hml]; rfl) rfl (hb hby d8_1) (by decide) (W := 0) (by show 2 * 0 + _ ≤ _; exact Nat.le_of_eq rfl) (by decide)
  refine own_step (T' := T1) (g' := (mkF m 4 #[.val (.ref p0), .val (.ref p1), .val (.ref p2), .val .null, .val (.ref p4)] [])) st1 ?_
  refine own_step (T' := T1) (g' := (mkF m 5 #[.val (.ref p0), .val (.ref p1), .val (.ref p2), .val .null, .val (.ref p4)] [(.ref p0)])) (fun t k => XS.aloadN X1.here hx rfl (hb hby d8_4) rfl rfl k) ?_
  refine own_step (T' := T1) (g' := (mkF m 6 #[.val (.ref p0), .val (.ref p1), .val (.ref p2), .val .null, .val (.ref p4)] [(.ref p1), (.ref p0)])) (fun t k => XS.aloadN X1.here hx rfl (hb hby d8_5) rfl rfl k) ?_
  obtain ⟨T2, h2, X2, e2, W2, st2⟩ := putF X1 hx hZ hown (host := "") (Or.inl (hw _ (List.mem_of_getElem? (i := 40) rfl))) Via.refl e1 F_shortName_p0 E_p0 (Or.inr ⟨(hw _ (List.mem_of_getElem? (i := 41) rfl)), rfl, hnm⟩) (hw _ (List.mem_of_getElem? (i := 35) rfl)) (ty := (.object "java/lang/String")) (by decide) rfl rfl (g := (mkF m 6 #[.val (.ref p0), .val (.ref p1), .val (.ref p2), .val .null, .val (.ref p4)] [(.ref p1), (.ref p0)])) rfl rfl (hb hby d8_6)
  have E_p0_2 : Exa Z h2 p0 "com/example/tapeloom/tapeloom/Option" := E_p0.wr W2
  have F_longName_p0_2 : Fld Z h2 p0 "com/example/tapeloom/tapeloom/Option" "longName" "Ljava/lang/String;" .null := F_longName_p0.other W2 (Or.inr (slot_ne (Or.inr (hw _ (List.mem_of_getElem? (i := 43) rfl))) (Or.inr (hw _ (List.mem_of_getElem? (i := 41) rfl))) (by decide) (t := (.object "java/lang/String")) (t' := (.object "java/lang/String")) (by decide) (by decide)))
  have F_label_p0_2 : Fld Z h2 p0 "com/example/tapeloom/tapeloom/Option" "label" "Ljava/lang/String;" .null := F_label_p0.other W2 (Or.inr (slot_ne (Or.inr (hw _ (List.mem_of_getElem? (i := 45) rfl))) (Or.inr (hw _ (List.mem_of_getElem? (i := 41) rfl))) (by decide) (t := (.object "java/lang/String")) (t' := (.object "java/lang/String")) (by decide) (by decide)))
  have F_description_p0_2 : Fld Z h2 p0 "com/example/tapeloom/tapeloom/Option" "description" "Ljava/lang/String;" .null := F_description_p0.other W2 (Or.inr (slot_ne (Or.inr (hw _ (List.mem_of_getElem? (i := 47) rfl))) (Or.inr (hw _ (List.mem_of_getElem? (i := 41) rfl))) (by decide) (t := (.object "java/lang/String")) (t' := (.object "java/lang/String")) (by decide) (by decide)))
  have K_2 : Keep h0 h2 [p0] := K0.wr W2 (Or.inl (List.mem_of_getElem? (i := 0) rfl))
  have N2 := Fr.snoc X2 N0 g_p0
  have F_shortName_p0_2 : Fld Z h2 p0 "com/example/tapeloom/tapeloom/Option" "shortName" "Ljava/lang/String;" (.ref p1) := F_shortName_p0.same W2
  refine own_step (T' := T2) (g' := (mkF m 9 #[.val (.ref p0), .val (.ref p1), .val (.ref p2), .val .null, .val (.ref p4)] [])) st2 ?_
  refine own_step (T' := T2) (g' := (mkF m 10 #[.val (.ref p0), .val (.ref p1), .val (.ref p2), .val .null, .val (.ref p4)] [(.ref p0)])) (fun t k => XS.aloadN X2.here hx rfl (hb hby d8_9) rfl rfl k) ?_
  refine own_step (T' := T2) (g' := (mkF m 11 #[.val (.ref p0), .val (.ref p1), .val (.ref p2), .val .null, .val (.ref p4)] [(.ref p2), (.ref p0)])) (fun t k => XS.aloadN X2.here hx rfl (hb hby d8_10) rfl rfl k) ?_
  obtain ⟨T3, h3, X3, e3, W3, st3⟩ := putF X2 hx hZ hown (host := "") (Or.inl (hw _ (List.mem_of_getElem? (i := 42) rfl))) Via.refl e2 F_longName_p0_2 E_p0_2 (Or.inr ⟨(hw _ (List.mem_of_getElem? (i := 43) rfl)), rfl, hnm⟩) (hw _ (List.mem_of_getElem? (i := 35) rfl)) (ty := (.object "java/lang/String")) (by decide) rfl rfl (g := (mkF m 11 #[.val (.ref p0), .val (.ref p1), .val (.ref p2), .val .null, .val (.ref p4)] [(.ref p2), (.ref p0)])) rfl rfl (hb hby d8_11)
  have E_p0_3 : Exa Z h3 p0 "com/example/tapeloom/tapeloom/Option" := E_p0_2.wr W3
  have F_label_p0_3 : Fld Z h3 p0 "com/example/tapeloom/tapeloom/Option" "label" "Ljava/lang/String;" .null := F_label_p0_2.other W3 (Or.inr (slot_ne (Or.inr (hw _ (List.mem_of_getElem? (i := 45) rfl))) (Or.inr (hw _ (List.mem_of_getElem? (i := 43) rfl))) (by decide) (t := (.object "java/lang/String")) (t' := (.object "java/lang/String")) (by decide) (by decide)))
  have F_description_p0_3 : Fld Z h3 p0 "com/example/tapeloom/tapeloom/Option" "description" "Ljava/lang/String;" .null := F_description_p0_2.other W3 (Or.inr (slot_ne (Or.inr (hw _ (List.mem_of_getElem? (i := 47) rfl))) (Or.inr (hw _ (List.mem_of_getElem? (i := 43) rfl))) (by decide) (t := (.object "java/lang/String")) (t' := (.object "java/lang/String")) (by decide) (by decide)))
  have F_shortName_p0_3 : Fld Z h3 p0 "com/example/tapeloom/tapeloom/Option" "shortName" "Ljava/lang/String;" (.ref p1) := F_shortName_p0_2.other W3 (Or.inr (slot_ne (Or.inr (hw _ (List.mem_of_getElem? (i := 41) rfl))) (Or.inr (hw _ (List.mem_of_getElem? (i := 43) rfl))) (by decide) (t := (.object "java/lang/String")) (t' := (.object "java/lang/String")) (by decide) (by decide)))
  have K_3 : Keep h0 h3 [p0] := K_2.wr W3 (Or.inl (List.mem_of_getElem? (i := 0) rfl))
  have N3 := Fr.snoc X3 N2 g_p0
  have F_longName_p0_3 : Fld Z h3 p0 "com/example/tapeloom/tapeloom/Option" "longName" "Ljava/lang/String;" (.ref p2) := F_longName_p0_2.same W3
  refine own_step (T' := T3) (g' := (mkF m 14 #[.val (.ref p0), .val (.ref p1), .val (.ref p2), .val .null, .val (.ref p4)] [])) st3 ?_
  refine own_step (T' := T3) (g' := (mkF m 15 #[.val (.ref p0), .val (.ref p1), .val (.ref p2), .val .null, .val (.ref p4)] [(.ref p0)])) (fun t k => XS.aloadN X3.here hx rfl (hb hby d8_14) rfl rfl k) ?_
  refine own_step (T' := T3) (g' := (mkF m 16 #[.val (.ref p0), .val (.ref p1), .val (.ref p2), .val .null, .val (.ref p4)] [.null, (.ref p0)])) (fun t k => XS.aloadN X3.here hx rfl (hb hby d8_15) rfl rfl k) ?_
  obtain ⟨T4, h4, X4, e4, W4, st4⟩ := putF X3 hx hZ hown (host := "") (Or.inl (hw _ (List.mem_of_getElem? (i := 44) rfl))) Via.refl e3 F_label_p0_3 E_p0_3 (Or.inr ⟨(hw _ (List.mem_of_getElem? (i := 45) rfl)), rfl, hnm⟩) (hw _ (List.mem_of_getElem? (i := 35) rfl)) (ty := (.object "java/lang/String")) (by decide) rfl rfl (g := (mkF m 16 #[.val (.ref p0), .val (.ref p1), .val (.ref p2), .val .null, .val (.ref p4)] [.null, (.ref p0)])) rfl rfl (hb hby d8_16)
  have E_p0_4 : Exa Z h4 p0 "com/example/tapeloom/tapeloom/Option" := E_p0_3.wr W4
  have F_description_p0_4 : Fld Z h4 p0 "com/example/tapeloom/tapeloom/Option" "description" "Ljava/lang/String;" .null := F_description_p0_3.other W4 (Or.inr (slot_ne (Or.inr (hw _ (List.mem_of_getElem? (i := 47) rfl))) (Or.inr (hw _ (List.mem_of_getElem? (i := 45) rfl))) (by decide) (t := (.object "java/lang/String")) (t' := (.object "java/lang/String")) (by decide) (by decide)))
  have F_shortName_p0_4 : Fld Z h4 p0 "com/example/tapeloom/tapeloom/Option" "shortName" "Ljava/lang/String;" (.ref p1) := F_shortName_p0_3.other W4 (Or.inr (slot_ne (Or.inr (hw _ (List.mem_of_getElem? (i := 41) rfl))) (Or.inr (hw _ (List.mem_of_getElem? (i := 45) rfl))) (by decide) (t := (.object "java/lang/String")) (t' := (.object "java/lang/String")) (by decide) (by decide)))
  have F_longName_p0_4 : Fld Z h4 p0 "com/example/tapeloom/tapeloom/Option" "longName" "Ljava/lang/String;" (.ref p2) := F_longName_p0_3.other W4 (Or.inr (slot_ne (Or.inr (hw _ (List.mem_of_getElem? (i := 43) rfl))) (Or.inr (hw _ (List.mem_of_getElem? (i := 45) rfl))) (by decide) (t := (.object "java/lang/String")) (t' := (.object "java/lang/String")) (by decide) (by decide)))
  have K_4 : Keep h0 h4 [p0] := K_3.wr W4 (Or.inl (List.mem_of_getElem? (i := 0) rfl))
  have N4 := Fr.snoc X4 N3 g_p0
  have F_label_p0_4 : Fld Z h4 p0 "com/example/tapeloom/tapeloom/Option" "label" "Ljava/lang/String;" .null := F_label_p0_3.same W4
  refine own_step (T' := T4) (g' := (mkF m 19 #[.val (.ref p0), .val (.ref p1), .val (.ref p2), .val .null, .val (.ref p4)] [])) st4 ?_
  refine own_step (T' := T4) (g' := (mkF m 20 #[.val (.ref p0), .val (.ref p1), .val (.ref p2), .val .null, .val (.ref p4)] [(.ref p0)])) (fun t k => XS.aloadN X4.here hx rfl (hb hby d8_19) rfl rfl k) ?_
  refine own_step (T' := T4) (g' := (mkF m 22 #[.val (.ref p0), .val (.ref p1), .val (.ref p2), .val .null, .val (.ref p4)] [(.ref p4), (.ref p0)])) (fun t k => XS.aload X4.here hx rfl (hb hby d8_20) rfl rfl k) ?_
  obtain ⟨T5, h5, X5, e5, W5, st5⟩ := putF X4 hx hZ hown (host := "") (Or.inl (hw _ (List.mem_of_getElem? (i := 46) rfl))) Via.refl e4 F_description_p0_4 E_p0_4 (Or.inr ⟨(hw _ (List.mem_of_getElem? (i := 47) rfl)), rfl, hnm⟩) (hw _ (List.mem_of_getElem? (i := 35) rfl)) (ty := (.object "java/lang/String")) (by decide) rfl rfl (g := (mkF m 22 #[.val (.ref p0), .val (.ref p1), .val (.ref p2), .val .null, .val (.ref p4)] [(.ref p4), (.ref p0)])) rfl rfl (hb hby d8_22)
  have E_p0_5 : Exa Z h5 p0 "com/example/tapeloom/tapeloom/Option" := E_p0_4.wr W5
  have F_shortName_p0_5 : Fld Z h5 p0 "com/example/tapeloom/tapeloom/Option" "shortName" "Ljava/lang/String;" (.ref p1) := F_shortName_p0_4.other W5 (Or.inr (slot_ne (Or.inr (hw _ (List.mem_of_getElem? (i := 41) rfl))) (Or.inr (hw _ (List.mem_of_getElem? (i := 47) rfl))) (by decide) (t := (.object "java/lang/String")) (t' := (.object "java/lang/String")) (by decide) (by decide)))
  have F_longName_p0_5 : Fld Z h5 p0 "com/example/tapeloom/tapeloom/Option" "longName" "Ljava/lang/String;" (.ref p2) := F_longName_p0_4.other W5 (Or.inr (slot_ne (Or.inr (hw _ (List.mem_of_getElem? (i := 43) rfl))) (Or.inr (hw _ (List.mem_of_getElem? (i := 47) rfl))) (by decide) (t := (.object "java/lang/String")) (t' := (.object "java/lang/String")) (by decide) (by decide)))
  have F_label_p0_5 : Fld Z h5 p0 "com/example/tapeloom/tapeloom/Option" "label" "Ljava/lang/String;" .null := F_label_p0_4.other W5 (Or.inr (slot_ne (Or.inr (hw _ (List.mem_of_getElem? (i := 45) rfl))) (Or.inr (hw _ (List.mem_of_getElem? (i := 47) rfl))) (by decide) (t := (.object "java/lang/String")) (t' := (.object "java/lang/String")) (by decide) (by decide)))
  have K_5 : Keep h0 h5 [p0] := K_4.wr W5 (Or.inl (List.mem_of_getElem? (i := 0) rfl))
  have N5 := Fr.snoc X5 N4 g_p0
  have F_description_p0_5 : Fld Z h5 p0 "com/example/tapeloom/tapeloom/Option" "description" "Ljava/lang/String;" (.ref p4) := F_description_p0_4.same W5
  refine own_step (T' := T5) (g' := (mkF m 25 #[.val (.ref p0), .val (.ref p1), .val (.ref p2), .val .null, .val (.ref p4)] [])) st5 ?_
  refine own_retV X5 hx hlk Bd.returns (hb hby d8_25) (by decide) (by decide) ?_
  rw [e5]
  exact ⟨rfl, N5, K_5, F_shortName_p0_5, F_longName_p0_5, F_label_p0_5, F_description_p0_5⟩
theorem ef_rm7_00 (m : MethodId) (x0 : Addr) (x1 : Addr) (x2 : Addr) : entryFrame m #[(.ref x0), (.ref x1), (.ref x2)] 3 = mkF m 0 #[.val (.ref x0), .val (.ref x1), .val (.ref x2)] [] := by first | (simp [entryFrame, mkF, argsToLocals, Value.category]; done) | rfl
def Qrm7_00 (Z : State) (p0 : Addr) (p1 : Addr) (p2 : Addr) (h0 : Heap) (n0 : Nat) (v : Option Value) (h : Heap) (L : List Loc) : Prop := ∃ (ob : Addr), v = some (.ref ob) ∧ Fr n0 L ∧ Keep h0 h [] ∧ Exa Z h ob "com/example/tapeloom/tapeloom/Option" ∧ Fld Z h ob "com/example/tapeloom/tapeloom/Option" "shortName" "Ljava/lang/String;" (.ref p0) ∧ Fld Z h ob "com/example/tapeloom/tapeloom/Option" "longName" "Ljava/lang/String;" (.ref p1) ∧ Fld Z h ob "com/example/tapeloom/tapeloom/Option" "label" "Ljava/lang/String;" .null ∧ Fld Z h ob "com/example/tapeloom/tapeloom/Option" "description" "Ljava/lang/String;" (.ref p2) ∧ n0 ≤ ob ∧ h0.size ≤ ob
set_option maxRecDepth 65536 in
set_option maxHeartbeats 40000000 in
theorem rm7_00 (l : Launch) (Z : State) (a0 : Array Value) (hw : ∀ d ∈ tables_1, d.before a0 Z = true) (ws : List Jvm.Cond) (p0 : Addr) (p1 : Addr) (p2 : Addr) (h0 : Heap) (n0 : Nat) (Z0 : n0 ≤ h0.size) :
    MetFree l (⟨"com/example/tapeloom/tapeloom/Option", "flag", "(Ljava/lang/String;Ljava/lang/String;Ljava/lang/String;)Lcom/example/tapeloom/tapeloom/Option;"⟩ : MethodName) (head1 (Jvm.Cond.code (⟨"com/example/tapeloom/tapeloom/Option", "flag", "(Ljava/lang/String;Ljava/lang/String;Ljava/lang/String;)Lcom/example/tapeloom/tapeloom/Option;"⟩ : MethodName) prog_15_method_2_code 3 (some (.object "com/example/tapeloom/tapeloom/Option")) :: ws) ({ frames := 2, cells := 1, slots := 4, locals := 29 } : Room)) (fun a U => a = #[(.ref p0), (.ref p1), (.ref p2)] ∧ Z.Warmed39 U.vm ∧ U.heap = h0) (fun _ _ _ _ _ => True) (fun _ U o U' => ∃ v L, o = .returned v ∧ Qrm7_00 Z p0 p1 p2 h0 n0 v U'.heap L ∧ FrameEnd U o U' L ({ frames := 2, cells := 1, slots := 4, locals := 29 } : Room).cells ({ frames := 2, cells := 1, slots := 4, locals := 29 } : Room).slots) := by
  refine MetFree.of_bodySF (plainFor_of_name pn_7) hisR ?_
  intro p e s m args below meth c s₁ Bd hml0 hP hK
  obtain ⟨rfl, hZ, hh⟩ := hP
  have hx := Bd.exec
  have hby := Bd.bytes
  have hlk : meth.locks = false := BodyLoose.notSynchronized Bd
  have hml : c.maxLocals = 3 := hml0
  have hown : s.vm.findClass "com/example/tapeloom/tapeloom/Option" = some m.cls := findClass_of_methodNamed Bd.named
  have hnm := (name_of_methodNamed Bd.named Bd.method).1
  have X0 : Stand p l e ({ frames := 2, cells := 1, slots := 4, locals := 29 } : Room) s m #[(.ref p0), (.ref p1), (.ref p2)] below meth c s₁ [] 0 0 := Stand.of_body Bd
  have e0 : s₁.heap = h0 := by rw [← hh, Bd.state]; rfl
  have N0 := Fr.nil n0
  have K0 : Keep h0 h0 [] := Keep.refl h0 []
  show own_G p e below s 1 4 (Qrm7_00 Z p0 p1 p2 h0 n0) s₁ (entryFrame m #[(.ref p0), (.ref p1), (.ref p2)] 3)
  rw [ef_rm7_00 m p0 p1 p2]
  obtain ⟨T1, h1, X1, e1, E1, A1, D1, -, st1⟩ := newO X0 hx hZ hown (hw _ (List.mem_of_getElem? (i := 34) rfl)) (hw _ (List.mem_of_getElem? (i := 35) rfl)) (hw _ (List.mem_of_getElem? (i := 32) rfl)) e0 (g := (mkF m 0 #[.val (.ref p0), .val (.ref p1), .val (.ref p2)] [])) rfl (hb hby d7_0) (by decide) (by decide)
  obtain ⟨b1, g1⟩ : ∃ z, z = h0.size := ⟨_, rfl⟩
  rw [← g1] at A1 D1 st1
  have K_1 : Keep h0 h1 [] := K0.ext E1
  have sz_b1 : h0.size ≤ b1 := Nat.le_trans K0.1 (Nat.le_of_eq g1.symm)
  have g_b1 : n0 ≤ b1 := Nat.le_trans Z0 sz_b1
  have E_b1 : Exa Z h1 b1 "com/example/tapeloom/tapeloom/Option" := A1
  have F_shortName_b1 : Fld Z h1 b1 "com/example/tapeloom/tapeloom/Option" "shortName" "Ljava/lang/String;" .null := D1 (Or.inr (hw _ (List.mem_of_getElem? (i := 41) rfl))) (ty := (.object "java/lang/String")) (by decide)
  have F_longName_b1 : Fld Z h1 b1 "com/example/tapeloom/tapeloom/Option" "longName" "Ljava/lang/String;" .null := D1 (Or.inr (hw _ (List.mem_of_getElem? (i := 43) rfl))) (ty := (.object "java/lang/String")) (by decide)
  have F_label_b1 : Fld Z h1 b1 "com/example/tapeloom/tapeloom/Option" "label" "Ljava/lang/String;" .null := D1 (Or.inr (hw _ (List.mem_of_getElem? (i := 45) rfl))) (ty := (.object "java/lang/String")) (by decide)
  have F_description_b1 : Fld Z h1 b1 "com/example/tapeloom/tapeloom/Option" "description" "Ljava/lang/String;" .null := D1 (Or.inr (hw _ (List.mem_of_getElem? (i := 47) rfl))) (ty := (.object "java/lang/String")) (by decide)
  refine own_step (T' := T1) (g' := (mkF m 3 #[.val (.ref p0), .val (.ref p1), .val (.ref p2)] [(.ref b1)])) st1 ?_
  refine own_step (T' := T1) (g' := (mkF m 4 #[.val (.ref p0), .val (.ref p1), .val (.ref p2)] [(.ref b1), (.ref b1)])) (fun t k => XS.dup X1.here hx rfl (hb hby d7_3) rfl rfl k) ?_
  refine own_step (T' := T1) (g' := (mkF m 5 #[.val (.ref p0), .val (.ref p1), .val (.ref p2)] [(.ref p0), (.ref b1), (.ref b1)])) (fun t k => XS.aloadN X1.here hx rfl (hb hby d7_4) rfl rfl k) ?_
  refine own_step (T' := T1) (g' := (mkF m 6 #[.val (.ref p0), .val (.ref p1), .val (.ref p2)] [(.ref p1), (.ref p0), (.ref b1), (.ref b1)])) (fun t k => XS.aloadN X1.here hx rfl (hb hby d7_5) rfl rfl k) ?_
  refine own_step (T' := T1) (g' := (mkF m 7 #[.val (.ref p0), .val (.ref p1), .val (.ref p2)] [.null, (.ref p1), (.ref p0), (.ref b1), (.ref b1)])) (fun t k => XS.aconstNull X1.here hx rfl (hb hby d7_6) k) ?_
  refine own_step (T' := T1) (g' := (mkF m 8 #[.val (.ref p0), .val (.ref p1), .val (.ref p2)] [(.ref p2), .null, (.ref p1), (.ref p0), (.ref b1), (.ref b1)])) (fun t k => XS.aloadN X1.here hx rfl (hb hby d7_7) rfl rfl k) ?_
  obtain ⟨_, _, ⟨T2, L2, kk2, nn2⟩, -, X2, ⟨Lc2, hQ2, l2, y2, z2⟩, st2⟩ := X1.specialBack hx (y := (⟨"com/example/tapeloom/tapeloom/Option", "<init>", "(Ljava/lang/String;Ljava/lang/String;Ljava/lang/String;Ljava/lang/String;)V"⟩ : MethodName)) rfl hown (mvT hZ (hw _ (List.mem_of_getElem? (i := 36) rfl))) (mvT hZ (hw _ (List.mem_of_getElem? (i := 37) rfl))) (mvT hZ (hw _ (List.mem_of_getElem? (i := 38) rfl))) (by decide) (backOf (W := 1) (rm8_00 l Z a0 hw [] b1 p0 p1 p2 h1 n0 (Nat.le_trans Z0 K_1.1) E_b1 F_shortName_b1 F_longName_b1 F_label_b1 F_description_b1 g_b1) hZ (hw _ (List.mem_of_getElem? (i := 38) rfl)) (hw _ (List.mem_of_getElem? (i := 32) rfl)) (by decide) (by decide)) (g := (mkF m 8 #[.val (.ref p0), .val (.ref p1), .val (.ref p2)] [(.ref p2), .null, (.ref p1), (.ref p0), (.ref b1), (.ref b1)])) rfl (by rw [hml]; rfl) (Steps.refl _) (a := b1) (argsL := [(.ref p0), (.ref p1), .null, (.ref p2)]) (rest := [(.ref b1)]) (lenOf pd_7 rfl) rfl (by show 2 * 0 + _ ≤ _; exact Nat.le_of_eq rfl) (hb hby d7_8) (fun _ _ => ⟨rfl, e1, (by decide : 1 + 0 ≤ _), (by decide : 4 + 0 ≤ _)⟩)
  dsimp only [Pt.U, Pt.locs, Pt.cells, Pt.slots] at X2 l2 y2 z2 st2 hQ2
  rw [l2, y2, z2] at X2
  obtain ⟨rfl, N2q, Kq2, pq2_0, pq2_1, pq2_2, pq2_3⟩ := hQ2
  have N2 := Fr.app N0 N2q
  have E_b1_2 : Exa Z T2.heap b1 "com/example/tapeloom/tapeloom/Option" := E_b1.keep Kq2
  have K_2 : Keep h0 T2.heap [] := K_1.trans Kq2 (allS (Or.inr sz_b1) all0)
  refine own_step (T' := T2) (g' := (mkF m 11 #[.val (.ref p0), .val (.ref p1), .val (.ref p2)] [(.ref b1)])) (fun t k => st2.trans k) ?_
  refine own_retR X2 hx hlk Bd.returns rfl rfl (hb hby d7_11) (by decide) (by decide) ?_
  exact ⟨b1, rfl, N2, K_2, E_b1_2, pq2_0, pq2_1, pq2_2, pq2_3, g_b1, sz_b1⟩
theorem ef_rm8_01 (m : MethodId) (x0 : Addr) (x1 : Addr) (x4 : Addr) : entryFrame m #[(.ref x0), (.ref x1), .null, .null, (.ref x4)] 5 = mkF m 0 #[.val (.ref x0), .val (.ref x1), .val .null, .val .null, .val (.ref x4)] [] := by first | (simp [entryFrame, mkF, argsToLocals, Value.category]; done) | rfl
def Qrm8_01 (Z : State) (p0 : Addr) (p1 : Addr) (p4 : Addr) (h0 : Heap) (n0 : Nat) (v : Option Value) (h : Heap) (L : List Loc) : Prop := v = none ∧ Fr n0 L ∧ Keep h0 h [p0] ∧ Fld Z h p0 "com/example/tapeloom/tapeloom/Option" "shortName" "Ljava/lang/String;" (.ref p1) ∧ Fld Z h p0 "com/example/tapeloom/tapeloom/Option" "longName" "Ljava/lang/String;" .null ∧ Fld Z h p0 "com/example/tapeloom/tapeloom/Option" "label" "Ljava/lang/String;" .null ∧ Fld Z h p0 "com/example/tapeloom/tapeloom/Option" "description" "Ljava/lang/String;" (.ref p4)
set_option maxRecDepth 65536 in
set_option maxHeartbeats 40000000 in
theorem rm8_01 (l : Launch) (Z : State) (a0 : Array Value) (hw : ∀ d ∈ tables_1, d.before a0 Z = true) (ws : List Jvm.Cond) (p0 : Addr) (p1 : Addr) (p4 : Addr) (h0 : Heap) (n0 : Nat) (Z0 : n0 ≤ h0.size) (E_p0 : Exa Z h0 p0 "com/example/tapeloom/tapeloom/Option") (F_shortName_p0 : Fld Z h0 p0 "com/example/tapeloom/tapeloom/Option" "shortName" "Ljava/lang/String;" .null) (F_longName_p0 : Fld Z h0 p0 "com/example/tapeloom/tapeloom/Option" "longName" "Ljava/lang/String;" .null) (F_label_p0 : Fld Z h0 p0 "com/example/tapeloom/tapeloom/Option" "label" "Ljava/lang/String;" .null) (F_description_p0 : Fld Z h0 p0 "com/example/tapeloom/tapeloom/Option" "description" "Ljava/lang/String;" .null) (g_p0 : n0 ≤ p0) :
    MetFree l (⟨"com/example/tapeloom/tapeloom/Option", "<init>", "(Ljava/lang/String;Ljava/lang/String;Ljava/lang/String;Ljava/lang/String;)V"⟩ : MethodName) (head1 (Jvm.Cond.code (⟨"com/example/tapeloom/tapeloom/Option", "<init>", "(Ljava/lang/String;Ljava/lang/String;Ljava/lang/String;Ljava/lang/String;)V"⟩ : MethodName) prog_15_method_1_code 5 none :: ws) ({ frames := 1, cells := 0, slots := 0, locals := 12 } : Room)) (fun a U => a = #[(.ref p0), (.ref p1), .null, .null, (.ref p4)] ∧ Z.Warmed39 U.vm ∧ U.heap = h0) (fun _ _ _ _ _ => True) (fun _ U o U' => ∃ v L, o = .returned v ∧ Qrm8_01 Z p0 p1 p4 h0 n0 v U'.heap L ∧ FrameEnd U o U' L ({ frames := 1, cells := 0, slots := 0, locals := 12 } : Room).cells ({ frames := 1, cells := 0, slots := 0, locals := 12 } : Room).slots) := by
  refine MetFree.of_bodySF (plainFor_of_name pn_8) hisR ?_
  intro p e s m args below meth c s₁ Bd hml0 hP hK
  obtain ⟨rfl, hZ, hh⟩ := hP
  have hx := Bd.exec
  have hby := Bd.bytes
  have hlk : meth.locks = false := BodyLoose.notSynchronized Bd
  have hml : c.maxLocals = 5 := hml0
  have hown : s.vm.findClass "com/example/tapeloom/tapeloom/Option" = some m.cls := findClass_of_methodNamed Bd.named
  have hnm := (name_of_methodNamed Bd.named Bd.method).1
  have X0 : Stand p l e ({ frames := 1, cells := 0, slots := 0, locals := 12 } : Room) s m #[(.ref p0), (.ref p1), .null, .null, (.ref p4)] below meth c s₁ [] 0 0 := Stand.of_body Bd
  have e0 : s₁.heap = h0 := by rw [← hh, Bd.state]; rfl
  have N0 := Fr.nil n0
  have K0 : Keep h0 h0 [p0] := Keep.refl h0 [p0]
  show own_G p e below s 0 0 (Qrm8_01 Z p0 p1 p4 h0 n0) s₁ (entryFrame m #[(.ref p0), (.ref p1), .null, .null, (.ref p4)] 5)
  rw [ef_rm8_01 m p0 p1 p4]
  refine own_step (T' := s₁) (g' := (mkF m 1 #[.val (.ref p0), .val (.ref p1), .val .null, .val .null, .val (.ref p4)] [(.ref p0)])) (fun t k => XS.aloadN X0.here hx rfl (hb hby d8_0) rfl rfl k) ?_
  obtain ⟨T1, X1, e1, st1⟩ := initO X0 hx hZ hown (hw _ (List.mem_of_getElem? (i := 39) rfl)) (hw _ (List.mem_of_getElem? (i := 12) rfl)) (hw _ (List.mem_of_getElem? (i := 13) rfl)) e0 (g := (mkF m 1 #[.val (.ref p0), .val (.ref p1), .val .null, .val .null, .val (.ref p4)] [(.ref p0)])) rfl (by rw [hml]; rfl) rfl (hb hby d8_1) (by decide) (W := 0) (by show 2 * 0 + _ ≤ _; exact Nat.le_of_eq rfl) (by decide)
  refine own_step (T' := T1) (g' := (mkF m 4 #[.val (.ref p0), .val (.ref p1), .val .null, .val .null, .val (.ref p4)] [])) st1 ?_
  refine own_step (T' := T1) (g' := (mkF m 5 #[.val (.ref p0), .val (.ref p1), .val .null, .val .null, .val (.ref p4)] [(.ref p0)])) (fun t k => XS.aloadN X1.here hx rfl (hb hby d8_4) rfl rfl k) ?_
  refine own_step (T' := T1) (g' := (mkF m 6 #[.val (.ref p0), .val (.ref p1), .val .null, .val .null, .val (.ref p4)] [(.ref p1), (.ref p0)])) (fun t k => XS.aloadN X1.here hx rfl (hb hby d8_5) rfl rfl k) ?_
  obtain ⟨T2, h2, X2, e2, W2, st2⟩ := putF X1 hx hZ hown (host := "") (Or.inl (hw _ (List.mem_of_getElem? (i := 40) rfl))) Via.refl e1 F_shortName_p0 E_p0 (Or.inr ⟨(hw _ (List.mem_of_getElem? (i := 41) rfl)), rfl, hnm⟩) (hw _ (List.mem_of_getElem? (i := 35) rfl)) (ty := (.object "java/lang/String")) (by decide) rfl rfl (g := (mkF m 6 #[.val (.ref p0), .val (.ref p1), .val .null, .val .null, .val (.ref p4)] [(.ref p1), (.ref p0)])) rfl rfl (hb hby d8_6)
  have E_p0_2 : Exa Z h2 p0 "com/example/tapeloom/tapeloom/Option" := E_p0.wr W2
  have F_longName_p0_2 : Fld Z h2 p0 "com/example/tapeloom/tapeloom/Option" "longName" "Ljava/lang/String;" .null := F_longName_p0.other W2 (Or.inr (slot_ne (Or.inr (hw _ (List.mem_of_getElem? (i := 43) rfl))) (Or.inr (hw _ (List.mem_of_getElem? (i := 41) rfl))) (by decide) (t := (.object "java/lang/String")) (t' := (.object "java/lang/String")) (by decide) (by decide)))
  have F_label_p0_2 : Fld Z h2 p0 "com/example/tapeloom/tapeloom/Option" "label" "Ljava/lang/String;" .null := F_label_p0.other W2 (Or.inr (slot_ne (Or.inr (hw _ (List.mem_of_getElem? (i := 45) rfl))) (Or.inr (hw _ (List.mem_of_getElem? (i := 41) rfl))) (by decide) (t := (.object "java/lang/String")) (t' := (.object "java/lang/String")) (by decide) (by decide)))
  have F_description_p0_2 : Fld Z h2 p0 "com/example/tapeloom/tapeloom/Option" "description" "Ljava/lang/String;" .null := F_description_p0.other W2 (Or.inr (slot_ne (Or.inr (hw _ (List.mem_of_getElem? (i := 47) rfl))) (Or.inr (hw _ (List.mem_of_getElem? (i := 41) rfl))) (by decide) (t := (.object "java/lang/String")) (t' := (.object "java/lang/String")) (by decide) (by decide)))
  have K_2 : Keep h0 h2 [p0] := K0.wr W2 (Or.inl (List.mem_of_getElem? (i := 0) rfl))
  have N2 := Fr.snoc X2 N0 g_p0
  have F_shortName_p0_2 : Fld Z h2 p0 "com/example/tapeloom/tapeloom/Option" "shortName" "Ljava/lang/String;" (.ref p1) := F_shortName_p0.same W2
  refine own_step (T' := T2) (g' := (mkF m 9 #[.val (.ref p0), .val (.ref p1), .val .null, .val .null, .val (.ref p4)] [])) st2 ?_
  refine own_step (T' := T2) (g' := (mkF m 10 #[.val (.ref p0), .val (.ref p1), .val .null, .val .null, .val (.ref p4)] [(.ref p0)])) (fun t k => XS.aloadN X2.here hx rfl (hb hby d8_9) rfl rfl k) ?_
  refine own_step (T' := T2) (g' := (mkF m 11 #[.val (.ref p0), .val (.ref p1), .val .null, .val .null, .val (.ref p4)] [.null, (.ref p0)])) (fun t k => XS.aloadN X2.here hx rfl (hb hby d8_10) rfl rfl k) ?_
  obtain ⟨T3, h3, X3, e3, W3, st3⟩ := putF X2 hx hZ hown (host := "") (Or.inl (hw _ (List.mem_of_getElem? (i := 42) rfl))) Via.refl e2 F_longName_p0_2 E_p0_2 (Or.inr ⟨(hw _ (List.mem_of_getElem? (i := 43) rfl)), rfl, hnm⟩) (hw _ (List.mem_of_getElem? (i := 35) rfl)) (ty := (.object "java/lang/String")) (by decide) rfl rfl (g := (mkF m 11 #[.val (.ref p0), .val (.ref p1), .val .null, .val .null, .val (.ref p4)] [.null, (.ref p0)])) rfl rfl (hb hby d8_11)
  have E_p0_3 : Exa Z h3 p0 "com/example/tapeloom/tapeloom/Option" := E_p0_2.wr W3
  have F_label_p0_3 : Fld Z h3 p0 "com/example/tapeloom/tapeloom/Option" "label" "Ljava/lang/String;" .null := F_label_p0_2.other W3 (Or.inr (slot_ne (Or.inr (hw _ (List.mem_of_getElem? (i := 45) rfl))) (Or.inr (hw _ (List.mem_of_getElem? (i := 43) rfl))) (by decide) (t := (.object "java/lang/String")) (t' := (.object "java/lang/String")) (by decide) (by decide)))
  have F_description_p0_3 : Fld Z h3 p0 "com/example/tapeloom/tapeloom/Option" "description" "Ljava/lang/String;" .null := F_description_p0_2.other W3 (Or.inr (slot_ne (Or.inr (hw _ (List.mem_of_getElem? (i := 47) rfl))) (Or.inr (hw _ (List.mem_of_getElem? (i := 43) rfl))) (by decide) (t := (.object "java/lang/String")) (t' := (.object "java/lang/String")) (by decide) (by decide)))
  have F_shortName_p0_3 : Fld Z h3 p0 "com/example/tapeloom/tapeloom/Option" "shortName" "Ljava/lang/String;" (.ref p1) := F_shortName_p0_2.other W3 (Or.inr (slot_ne (Or.inr (hw _ (List.mem_of_getElem? (i := 41) rfl))) (Or.inr (hw _ (List.mem_of_getElem? (i := 43) rfl))) (by decide) (t := (.object "java/lang/String")) (t' := (.object "java/lang/String")) (by decide) (by decide)))
  have K_3 : Keep h0 h3 [p0] := K_2.wr W3 (Or.inl (List.mem_of_getElem? (i := 0) rfl))
  have N3 := Fr.snoc X3 N2 g_p0
  have F_longName_p0_3 : Fld Z h3 p0 "com/example/tapeloom/tapeloom/Option" "longName" "Ljava/lang/String;" .null := F_longName_p0_2.same W3
  refine own_step (T' := T3) (g' := (mkF m 14 #[.val (.ref p0), .val (.ref p1), .val .null, .val .null, .val (.ref p4)] [])) st3 ?_
  refine own_step (T' := T3) (g' := (mkF m 15 #[.val (.ref p0), .val (.ref p1), .val .null, .val .null, .val (.ref p4)] [(.ref p0)])) (fun t k => XS.aloadN X3.here hx rfl (hb hby d8_14) rfl rfl k) ?_
  refine own_step (T' := T3) (g' := (mkF m 16 #[.val (.ref p0), .val (.ref p1), .val .null, .val .null, .val (.ref p4)] [.null, (.ref p0)])) (fun t k => XS.aloadN X3.here hx rfl (hb hby d8_15) rfl rfl k) ?_
  obtain ⟨T4, h4, X4, e4, W4, st4⟩ := putF X3 hx hZ hown (host := "") (Or.inl (hw _ (List.mem_of_getElem? (i := 44) rfl))) Via.refl e3 F_label_p0_3 E_p0_3 (Or.inr ⟨(hw _ (List.mem_of_getElem? (i := 45) rfl)), rfl, hnm⟩) (hw _ (List.mem_of_getElem? (i := 35) rfl)) (ty := (.object "java/lang/String")) (by decide) rfl rfl (g := (mkF m 16 #[.val (.ref p0), .val (.ref p1), .val .null, .val .null, .val (.ref p4)] [.null, (.ref p0)])) rfl rfl (hb hby d8_16)
  have E_p0_4 : Exa Z h4 p0 "com/example/tapeloom/tapeloom/Option" := E_p0_3.wr W4
  have F_description_p0_4 : Fld Z h4 p0 "com/example/tapeloom/tapeloom/Option" "description" "Ljava/lang/String;" .null := F_description_p0_3.other W4 (Or.inr (slot_ne (Or.inr (hw _ (List.mem_of_getElem? (i := 47) rfl))) (Or.inr (hw _ (List.mem_of_getElem? (i := 45) rfl))) (by decide) (t := (.object "java/lang/String")) (t' := (.object "java/lang/String")) (by decide) (by decide)))
  have F_shortName_p0_4 : Fld Z h4 p0 "com/example/tapeloom/tapeloom/Option" "shortName" "Ljava/lang/String;" (.ref p1) := F_shortName_p0_3.other W4 (Or.inr (slot_ne (Or.inr (hw _ (List.mem_of_getElem? (i := 41) rfl))) (Or.inr (hw _ (List.mem_of_getElem? (i := 45) rfl))) (by decide) (t := (.object "java/lang/String")) (t' := (.object "java/lang/String")) (by decide) (by decide)))
  have F_longName_p0_4 : Fld Z h4 p0 "com/example/tapeloom/tapeloom/Option" "longName" "Ljava/lang/String;" .null := F_longName_p0_3.other W4 (Or.inr (slot_ne (Or.inr (hw _ (List.mem_of_getElem? (i := 43) rfl))) (Or.inr (hw _ (List.mem_of_getElem? (i := 45) rfl))) (by decide) (t := (.object "java/lang/String")) (t' := (.object "java/lang/String")) (by decide) (by decide)))
  have K_4 : Keep h0 h4 [p0] := K_3.wr W4 (Or.inl (List.mem_of_getElem? (i := 0) rfl))
  have N4 := Fr.snoc X4 N3 g_p0
  have F_label_p0_4 : Fld Z h4 p0 "com/example/tapeloom/tapeloom/Option" "label" "Ljava/lang/String;" .null := F_label_p0_3.same W4
  refine own_step (T' := T4) (g' := (mkF m 19 #[.val (.ref p0), .val (.ref p1), .val .null, .val .null, .val (.ref p4)] [])) st4 ?_
  refine own_step (T' := T4) (g' := (mkF m 20 #[.val (.ref p0), .val (.ref p1), .val .null, .val .null, .val (.ref p4)] [(.ref p0)])) (fun t k => XS.aloadN X4.here hx rfl (hb hby d8_19) rfl rfl k) ?_
  refine own_step (T' := T4) (g' := (mkF m 22 #[.val (.ref p0), .val (.ref p1), .val .null, .val .null, .val (.ref p4)] [(.ref p4), (.ref p0)])) (fun t k => XS.aload X4.here hx rfl (hb hby d8_20) rfl rfl k) ?_
  obtain ⟨T5, h5, X5, e5, W5, st5⟩ := putF X4 hx hZ hown (host := "") (Or.inl (hw _ (List.mem_of_getElem? (i := 46) rfl))) Via.refl e4 F_description_p0_4 E_p0_4 (Or.inr ⟨(hw _ (List.mem_of_getElem? (i := 47) rfl)), rfl, hnm⟩) (hw _ (List.mem_of_getElem? (i := 35) rfl)) (ty := (.object "java/lang/String")) (by decide) rfl rfl (g := (mkF m 22 #[.val (.ref p0), .val (.ref p1), .val .null, .val .null, .val (.ref p4)] [(.ref p4), (.ref p0)])) rfl rfl (hb hby d8_22)
  have E_p0_5 : Exa Z h5 p0 "com/example/tapeloom/tapeloom/Option" := E_p0_4.wr W5
  have F_shortName_p0_5 : Fld Z h5 p0 "com/example/tapeloom/tapeloom/Option" "shortName" "Ljava/lang/String;" (.ref p1) := F_shortName_p0_4.other W5 (Or.inr (slot_ne (Or.inr (hw _ (List.mem_of_getElem? (i := 41) rfl))) (Or.inr (hw _ (List.mem_of_getElem? (i := 47) rfl))) (by decide) (t := (.object "java/lang/String")) (t' := (.object "java/lang/String")) (by decide) (by decide)))
  have F_longName_p0_5 : Fld Z h5 p0 "com/example/tapeloom/tapeloom/Option" "longName" "Ljava/lang/String;" .null := F_longName_p0_4.other W5 (Or.inr (slot_ne (Or.inr (hw _ (List.mem_of_getElem? (i := 43) rfl))) (Or.inr (hw _ (List.mem_of_getElem? (i := 47) rfl))) (by decide) (t := (.object "java/lang/String")) (t' := (.object "java/lang/String")) (by decide) (by decide)))
  have F_label_p0_5 : Fld Z h5 p0 "com/example/tapeloom/tapeloom/Option" "label" "Ljava/lang/String;" .null := F_label_p0_4.other W5 (Or.inr (slot_ne (Or.inr (hw _ (List.mem_of_getElem? (i := 45) rfl))) (Or.inr (hw _ (List.mem_of_getElem? (i := 47) rfl))) (by decide) (t := (.object "java/lang/String")) (t' := (.object "java/lang/String")) (by decide) (by decide)))
  have K_5 : Keep h0 h5 [p0] := K_4.wr W5 (Or.inl (List.mem_of_getElem? (i := 0) rfl))
  have N5 := Fr.snoc X5 N4 g_p0
  have F_description_p0_5 : Fld Z h5 p0 "com/example/tapeloom/tapeloom/Option" "description" "Ljava/lang/String;" (.ref p4) := F_description_p0_4.same W5
  refine own_step (T' := T5) (g' := (mkF m 25 #[.val (.ref p0), .val (.ref p1), .val .null, .val .null, .val (.ref p4)] [])) st5 ?_
  refine own_retV X5 hx hlk Bd.returns (hb hby d8_25) (by decide) (by decide) ?_
  rw [e5]
  exact ⟨rfl, N5, K_5, F_shortName_p0_5, F_longName_p0_5, F_label_p0_5, F_description_p0_5⟩
theorem ef_rm7_01 (m : MethodId) (x0 : Addr) (x2 : Addr) : entryFrame m #[(.ref x0), .null, (.ref x2)] 3 = mkF m 0 #[.val (.ref x0), .val .null, .val (.ref x2)] [] := by first | (simp [entryFrame, mkF, argsToLocals, Value.category]; done) | rfl
def Qrm7_01 (Z : State) (p0 : Addr) (p2 : Addr) (h0 : Heap) (n0 : Nat) (v : Option Value) (h : Heap) (L : List Loc) : Prop := ∃ (ob : Addr), v = some (.ref ob) ∧ Fr n0 L ∧ Keep h0 h [] ∧ Exa Z h ob "com/example/tapeloom/tapeloom/Option" ∧ Fld Z h ob "com/example/tapeloom/tapeloom/Option" "shortName" "Ljava/lang/String;" (.ref p0) ∧ Fld Z h ob "com/example/tapeloom/tapeloom/Option" "longName" "Ljava/lang/String;" .null ∧ Fld Z h ob "com/example/tapeloom/tapeloom/Option" "label" "Ljava/lang/String;" .null ∧ Fld Z h ob "com/example/tapeloom/tapeloom/Option" "description" "Ljava/lang/String;" (.ref p2) ∧ n0 ≤ ob ∧ h0.size ≤ ob
set_option maxRecDepth 65536 in
set_option maxHeartbeats 40000000 in
theorem rm7_01 (l : Launch) (Z : State) (a0 : Array Value) (hw : ∀ d ∈ tables_1, d.before a0 Z = true) (ws : List Jvm.Cond) (p0 : Addr) (p2 : Addr) (h0 : Heap) (n0 : Nat) (Z0 : n0 ≤ h0.size) :
    MetFree l (⟨"com/example/tapeloom/tapeloom/Option", "flag", "(Ljava/lang/String;Ljava/lang/String;Ljava/lang/String;)Lcom/example/tapeloom/tapeloom/Option;"⟩ : MethodName) (head1 (Jvm.Cond.code (⟨"com/example/tapeloom/tapeloom/Option", "flag", "(Ljava/lang/String;Ljava/lang/String;Ljava/lang/String;)Lcom/example/tapeloom/tapeloom/Option;"⟩ : MethodName) prog_15_method_2_code 3 (some (.object "com/example/tapeloom/tapeloom/Option")) :: ws) ({ frames := 2, cells := 1, slots := 4, locals := 29 } : Room)) (fun a U => a = #[(.ref p0), .null, (.ref p2)] ∧ Z.Warmed39 U.vm ∧ U.heap = h0) (fun _ _ _ _ _ => True) (fun _ U o U' => ∃ v L, o = .returned v ∧ Qrm7_01 Z p0 p2 h0 n0 v U'.heap L ∧ FrameEnd U o U' L ({ frames := 2, cells := 1, slots := 4, locals := 29 } : Room).cells ({ frames := 2, cells := 1, slots := 4, locals := 29 } : Room).slots) := by
  refine MetFree.of_bodySF (plainFor_of_name pn_7) hisR ?_
  intro p e s m args below meth c s₁ Bd hml0 hP hK
  obtain ⟨rfl, hZ, hh⟩ := hP
  have hx := Bd.exec
  have hby := Bd.bytes
  have hlk : meth.locks = false := BodyLoose.notSynchronized Bd
  have hml : c.maxLocals = 3 := hml0
  have hown : s.vm.findClass "com/example/tapeloom/tapeloom/Option" = some m.cls := findClass_of_methodNamed Bd.named
  have hnm := (name_of_methodNamed Bd.named Bd.method).1
  have X0 : Stand p l e ({ frames := 2, cells := 1, slots := 4, locals := 29 } : Room) s m #[(.ref p0), .null, (.ref p2)] below meth c s₁ [] 0 0 := Stand.of_body Bd
  have e0 : s₁.heap = h0 := by rw [← hh, Bd.state]; rfl
  have N0 := Fr.nil n0
  have K0 : Keep h0 h0 [] := Keep.refl h0 []
  show own_G p e below s 1 4 (Qrm7_01 Z p0 p2 h0 n0) s₁ (entryFrame m #[(.ref p0), .null, (.ref p2)] 3)
  rw [ef_rm7_01 m p0 p2]
  obtain ⟨T1, h1, X1, e1, E1, A1, D1, -, st1⟩ := newO X0 hx hZ hown (hw _ (List.mem_of_getElem? (i := 34) rfl)) (hw _ (List.mem_of_getElem? (i := 35) rfl)) (hw _ (List.mem_of_getElem? (i := 32) rfl)) e0 (g := (mkF m 0 #[.val (.ref p0), .val .null, .val (.ref p2)] [])) rfl (hb hby d7_0) (by decide) (by decide)
  obtain ⟨b1, g1⟩ : ∃ z, z = h0.size := ⟨_, rfl⟩
  rw [← g1] at A1 D1 st1
  have K_1 : Keep h0 h1 [] := K0.ext E1
  have sz_b1 : h0.size ≤ b1 := Nat.le_trans K0.1 (Nat.le_of_eq g1.symm)
  have g_b1 : n0 ≤ b1 := Nat.le_trans Z0 sz_b1
  have E_b1 : Exa Z h1 b1 "com/example/tapeloom/tapeloom/Option" := A1
  have F_shortName_b1 : Fld Z h1 b1 "com/example/tapeloom/tapeloom/Option" "shortName" "Ljava/lang/String;" .null := D1 (Or.inr (hw _ (List.mem_of_getElem? (i := 41) rfl))) (ty := (.object "java/lang/String")) (by decide)
  have F_longName_b1 : Fld Z h1 b1 "com/example/tapeloom/tapeloom/Option" "longName" "Ljava/lang/String;" .null := D1 (Or.inr (hw _ (List.mem_of_getElem? (i := 43) rfl))) (ty := (.object "java/lang/String")) (by decide)
  have F_label_b1 : Fld Z h1 b1 "com/example/tapeloom/tapeloom/Option" "label" "Ljava/lang/String;" .null := D1 (Or.inr (hw _ (List.mem_of_getElem? (i := 45) rfl))) (ty := (.object "java/lang/String")) (by decide)
  have F_description_b1 : Fld Z h1 b1 "com/example/tapeloom/tapeloom/Option" "description" "Ljava/lang/String;" .null := D1 (Or.inr (hw _ (List.mem_of_getElem? (i := 47) rfl))) (ty := (.object "java/lang/String")) (by decide)
  refine own_step (T' := T1) (g' := (mkF m 3 #[.val (.ref p0), .val .null, .val (.ref p2)] [(.ref b1)])) st1 ?_
  refine own_step (T' := T1) (g' := (mkF m 4 #[.val (.ref p0), .val .null, .val (.ref p2)] [(.ref b1), (.ref b1)])) (fun t k => XS.dup X1.here hx rfl (hb hby d7_3) rfl rfl k) ?_
  refine own_step (T' := T1) (g' := (mkF m 5 #[.val (.ref p0), .val .null, .val (.ref p2)] [(.ref p0), (.ref b1), (.ref b1)])) (fun t k => XS.aloadN X1.here hx rfl (hb hby d7_4) rfl rfl k) ?_
  refine own_step (T' := T1) (g' := (mkF m 6 #[.val (.ref p0), .val .null, .val (.ref p2)] [.null, (.ref p0), (.ref b1), (.ref b1)])) (fun t k => XS.aloadN X1.here hx rfl (hb hby d7_5) rfl rfl k) ?_
  refine own_step (T' := T1) (g' := (mkF m 7 #[.val (.ref p0), .val .null, .val (.ref p2)] [.null, .null, (.ref p0), (.ref b1), (.ref b1)])) (fun t k => XS.aconstNull X1.here hx rfl (hb hby d7_6) k) ?_
  refine own_step (T' := T1) (g' := (mkF m 8 #[.val (.ref p0), .val .null, .val (.ref p2)] [(.ref p2), .null, .null, (.ref p0), (.ref b1), (.ref b1)])) (fun t k => XS.aloadN X1.here hx rfl (hb hby d7_7) rfl rfl k) ?_
  obtain ⟨_, _, ⟨T2, L2, kk2, nn2⟩, -, X2, ⟨Lc2, hQ2, l2, y2, z2⟩, st2⟩ := X1.specialBack hx (y := (⟨"com/example/tapeloom/tapeloom/Option", "<init>", "(Ljava/lang/String;Ljava/lang/String;Ljava/lang/String;Ljava/lang/String;)V"⟩ : MethodName)) rfl hown (mvT hZ (hw _ (List.mem_of_getElem? (i := 36) rfl))) (mvT hZ (hw _ (List.mem_of_getElem? (i := 37) rfl))) (mvT hZ (hw _ (List.mem_of_getElem? (i := 38) rfl))) (by decide) (backOf (W := 1) (rm8_01 l Z a0 hw [] b1 p0 p2 h1 n0 (Nat.le_trans Z0 K_1.1) E_b1 F_shortName_b1 F_longName_b1 F_label_b1 F_description_b1 g_b1) hZ (hw _ (List.mem_of_getElem? (i := 38) rfl)) (hw _ (List.mem_of_getElem? (i := 32) rfl)) (by decide) (by decide)) (g := (mkF m 8 #[.val (.ref p0), .val .null, .val (.ref p2)] [(.ref p2), .null, .null, (.ref p0), (.ref b1), (.ref b1)])) rfl (by rw [hml]; rfl) (Steps.refl _) (a := b1) (argsL := [(.ref p0), .null, .null, (.ref p2)]) (rest := [(.ref b1)]) (lenOf pd_7 rfl) rfl (by show 2 * 0 + _ ≤ _; exact Nat.le_of_eq rfl) (hb hby d7_8) (fun _ _ => ⟨rfl, e1, (by decide : 1 + 0 ≤ _), (by decide : 4 + 0 ≤ _)⟩)
  dsimp only [Pt.U, Pt.locs, Pt.cells, Pt.slots] at X2 l2 y2 z2 st2 hQ2
  rw [l2, y2, z2] at X2
  obtain ⟨rfl, N2q, Kq2, pq2_0, pq2_1, pq2_2, pq2_3⟩ := hQ2
  have N2 := Fr.app N0 N2q
  have E_b1_2 : Exa Z T2.heap b1 "com/example/tapeloom/tapeloom/Option" := E_b1.keep Kq2
  have K_2 : Keep h0 T2.heap [] := K_1.trans Kq2 (allS (Or.inr sz_b1) all0)
  refine own_step (T' := T2) (g' := (mkF m 11 #[.val (.ref p0), .val .null, .val (.ref p2)] [(.ref b1)])) (fun t k => st2.trans k) ?_
  refine own_retR X2 hx hlk Bd.returns rfl rfl (hb hby d7_11) (by decide) (by decide) ?_
  exact ⟨b1, rfl, N2, K_2, E_b1_2, pq2_0, pq2_1, pq2_2, pq2_3, g_b1, sz_b1⟩
theorem ef_rm8_10 (m : MethodId) (x0 : Addr) (x2 : Addr) (x4 : Addr) : entryFrame m #[(.ref x0), .null, (.ref x2), .null, (.ref x4)] 5 = mkF m 0 #[.val (.ref x0), .val .null, .val (.ref x2), .val .null, .val (.ref x4)] [] := by first | (simp [entryFrame, mkF, argsToLocals, Value.category]; done) | rfl
def Qrm8_10 (Z : State) (p0 : Addr) (p2 : Addr) (p4 : Addr) (h0 : Heap) (n0 : Nat) (v : Option Value) (h : Heap) (L : List Loc) : Prop := v = none ∧ Fr n0 L ∧ Keep h0 h [p0] ∧ Fld Z h p0 "com/example/tapeloom/tapeloom/Option" "shortName" "Ljava/lang/String;" .null ∧ Fld Z h p0 "com/example/tapeloom/tapeloom/Option" "longName" "Ljava/lang/String;" (.ref p2) ∧ Fld Z h p0 "com/example/tapeloom/tapeloom/Option" "label" "Ljava/lang/String;" .null ∧ Fld Z h p0 "com/example/tapeloom/tapeloom/Option" "description" "Ljava/lang/String;" (.ref p4)
set_option maxRecDepth 65536 in
set_option maxHeartbeats 40000000 in
theorem rm8_10 (l : Launch) (Z : State) (a0 : Array Value) (hw : ∀ d ∈ tables_1, d.before a0 Z = true) (ws : List Jvm.Cond) (p0 : Addr) (p2 : Addr) (p4 : Addr) (h0 : Heap) (n0 : Nat) (Z0 : n0 ≤ h0.size) (E_p0 : Exa Z h0 p0 "com/example/tapeloom/tapeloom/Option") (F_shortName_p0 : Fld Z h0 p0 "com/example/tapeloom/tapeloom/Option" "shortName" "Ljava/lang/String;" .null) (F_longName_p0 : Fld Z h0 p0 "com/example/tapeloom/tapeloom/Option" "longName" "Ljava/lang/String;" .null) (F_label_p0 : Fld Z h0 p0 "com/example/tapeloom/tapeloom/Option" "label" "Ljava/lang/String;" .null) (F_description_p0 : Fld Z h0 p0 "com/example/tapeloom/tapeloom/Option" "description" "Ljava/lang/String;" .null) (g_p0 : n0 ≤ p0) :
    MetFree l (⟨"com/example/tapeloom/tapeloom/Option", "<init>", "(Ljava/lang/String;Ljava/lang/String;Ljava/lang/String;Ljava/lang/String;)V"⟩ : MethodName) (head1 (Jvm.Cond.code (⟨"com/example/tapeloom/tapeloom/Option", "<init>", "(Ljava/lang/String;Ljava/lang/String;Ljava/lang/String;Ljava/lang/String;)V"⟩ : MethodName) prog_15_method_1_code 5 none :: ws) ({ frames := 1, cells := 0, slots := 0, locals := 12 } : Room)) (fun a U => a = #[(.ref p0), .null, (.ref p2), .null, (.ref p4)] ∧ Z.Warmed39 U.vm ∧ U.heap = h0) (fun _ _ _ _ _ => True) (fun _ U o U' => ∃ v L, o = .returned v ∧ Qrm8_10 Z p0 p2 p4 h0 n0 v U'.heap L ∧ FrameEnd U o U' L ({ frames := 1, cells := 0, slots := 0, locals := 12 } : Room).cells ({ frames := 1, cells := 0, slots := 0, locals := 12 } : Room).slots) := by
  refine MetFree.of_bodySF (plainFor_of_name pn_8) hisR ?_
  intro p e s m args below meth c s₁ Bd hml0 hP hK
  obtain ⟨rfl, hZ, hh⟩ := hP
  have hx := Bd.exec
  have hby := Bd.bytes
  have hlk : meth.locks = false := BodyLoose.notSynchronized Bd
  have hml : c.maxLocals = 5 := hml0
  have hown : s.vm.findClass "com/example/tapeloom/tapeloom/Option" = some m.cls := findClass_of_methodNamed Bd.named
  have hnm := (name_of_methodNamed Bd.named Bd.method).1
  have X0 : Stand p l e ({ frames := 1, cells := 0, slots := 0, locals := 12 } : Room) s m #[(.ref p0), .null, (.ref p2), .null, (.ref p4)] below meth c s₁ [] 0 0 := Stand.of_body Bd
  have e0 : s₁.heap = h0 := by rw [← hh, Bd.state]; rfl
  have N0 := Fr.nil n0
  have K0 : Keep h0 h0 [p0] := Keep.refl h0 [p0]
  show own_G p e below s 0 0 (Qrm8_10 Z p0 p2 p4 h0 n0) s₁ (entryFrame m #[(.ref p0), .null, (.ref p2), .null, (.ref p4)] 5)
  rw [ef_rm8_10 m p0 p2 p4]
  refine own_step (T' := s₁) (g' := (mkF m 1 #[.val (.ref p0), .val .null, .val (.ref p2), .val .null, .val (.ref p4)] [(.ref p0)])) (fun t k => XS.aloadN X0.here hx rfl (hb hby d8_0) rfl rfl k) ?_
  obtain ⟨T1, X1, e1, st1⟩ := initO X0 hx hZ hown (hw _ (List.mem_of_getElem? (i := 39) rfl)) (hw _ (List.mem_of_getElem? (i := 12) rfl)) (hw _ (List.mem_of_getElem? (i := 13) rfl)) e0 (g := (mkF m 1 #[.val (.ref p0), .val .null, .val (.ref p2), .val .null, .val (.ref p4)] [(.ref p0)])) rfl (by rw [hml]; rfl) rfl (hb hby d8_1) (by decide) (W := 0) (by show 2 * 0 + _ ≤ _; exact Nat.le_of_eq rfl) (by decide)
  refine own_step (T' := T1) (g' := (mkF m 4 #[.val (.ref p0), .val .null, .val (.ref p2), .val .null, .val (.ref p4)] [])) st1 ?_
  refine own_step (T' := T1) (g' := (mkF m 5 #[.val (.ref p0), .val .null, .val (.ref p2), .val .null, .val (.ref p4)] [(.ref p0)])) (fun t k => XS.aloadN X1.here hx rfl (hb hby d8_4) rfl rfl k) ?_
  refine own_step (T' := T1) (g' := (mkF m 6 #[.val (.ref p0), .val .null, .val (.ref p2), .val .null, .val (.ref p4)] [.null, (.ref p0)])) (fun t k => XS.aloadN X1.here hx rfl (hb hby d8_5) rfl rfl k) ?_
  obtain ⟨T2, h2, X2, e2, W2, st2⟩ := putF X1 hx hZ hown (host := "") (Or.inl (hw _ (List.mem_of_getElem? (i := 40) rfl))) Via.refl e1 F_shortName_p0 E_p0 (Or.inr ⟨(hw _ (List.mem_of_getElem? (i := 41) rfl)), rfl, hnm⟩) (hw _ (List.mem_of_getElem? (i := 35) rfl)) (ty := (.object "java/lang/String")) (by decide) rfl rfl (g := (mkF m 6 #[.val (.ref p0), .val .null, .val (.ref p2), .val .null, .val (.ref p4)] [.null, (.ref p0)])) rfl rfl (hb hby d8_6)
  have E_p0_2 : Exa Z h2 p0 "com/example/tapeloom/tapeloom/Option" := E_p0.wr W2
  have F_longName_p0_2 : Fld Z h2 p0 "com/example/tapeloom/tapeloom/Option" "longName" "Ljava/lang/String;" .null := F_longName_p0.other W2 (Or.inr (slot_ne (Or.inr (hw _ (List.mem_of_getElem? (i := 43) rfl))) (Or.inr (hw _ (List.mem_of_getElem? (i := 41) rfl))) (by decide) (t := (.object "java/lang/String")) (t' := (.object "java/lang/String")) (by decide) (by decide)))
  have F_label_p0_2 : Fld Z h2 p0 "com/example/tapeloom/tapeloom/Option" "label" "Ljava/lang/String;" .null := F_label_p0.other W2 (Or.inr (slot_ne (Or.inr (hw _ (List.mem_of_getElem? (i := 45) rfl))) (Or.inr (hw _ (List.mem_of_getElem? (i := 41) rfl))) (by decide) (t := (.object "java/lang/String")) (t' := (.object "java/lang/String")) (by decide) (by decide)))
  have F_description_p0_2 : Fld Z h2 p0 "com/example/tapeloom/tapeloom/Option" "description" "Ljava/lang/String;" .null := F_description_p0.other W2 (Or.inr (slot_ne (Or.inr (hw _ (List.mem_of_getElem? (i := 47) rfl))) (Or.inr (hw _ (List.mem_of_getElem? (i := 41) rfl))) (by decide) (t := (.object "java/lang/String")) (t' := (.object "java/lang/String")) (by decide) (by decide)))
  have K_2 : Keep h0 h2 [p0] := K0.wr W2 (Or.inl (List.mem_of_getElem? (i := 0) rfl))
  have N2 := Fr.snoc X2 N0 g_p0
  have F_shortName_p0_2 : Fld Z h2 p0 "com/example/tapeloom/tapeloom/Option" "shortName" "Ljava/lang/String;" .null := F_shortName_p0.same W2
  refine own_step (T' := T2) (g' := (mkF m 9 #[.val (.ref p0), .val .null, .val (.ref p2), .val .null, .val (.ref p4)] [])) st2 ?_
  refine own_step (T' := T2) (g' := (mkF m 10 #[.val (.ref p0), .val .null, .val (.ref p2), .val .null, .val (.ref p4)] [(.ref p0)])) (fun t k => XS.aloadN X2.here hx rfl (hb hby d8_9) rfl rfl k) ?_
  refine own_step (T' := T2) (g' := (mkF m 11 #[.val (.ref p0), .val .null, .val (.ref p2), .val .null, .val (.ref p4)] [(.ref p2), (.ref p0)])) (fun t k => XS.aloadN X2.here hx rfl (hb hby d8_10) rfl rfl k) ?_
  obtain ⟨T3, h3, X3, e3, W3, st3⟩ := putF X2 hx hZ hown (host := "") (Or.inl (hw _ (List.mem_of_getElem? (i := 42) rfl))) Via.refl e2 F_longName_p0_2 E_p0_2 (Or.inr ⟨(hw _ (List.mem_of_getElem? (i := 43) rfl)), rfl, hnm⟩) (hw _ (List.mem_of_getElem? (i := 35) rfl)) (ty := (.object "java/lang/String")) (by decide) rfl rfl (g := (mkF m 11 #[.val (.ref p0), .val .null, .val (.ref p2), .val .null, .val (.ref p4)] [(.ref p2), (.ref p0)])) rfl rfl (hb hby d8_11)
  have E_p0_3 : Exa Z h3 p0 "com/example/tapeloom/tapeloom/Option" := E_p0_2.wr W3
  have F_label_p0_3 : Fld Z h3 p0 "com/example/tapeloom/tapeloom/Option" "label" "Ljava/lang/String;" .null := F_label_p0_2.other W3 (Or.inr (slot_ne (Or.inr (hw _ (List.mem_of_getElem? (i := 45) rfl))) (Or.inr (hw _ (List.mem_of_getElem? (i := 43) rfl))) (by decide) (t := (.object "java/lang/String")) (t' := (.object "java/lang/String")) (by decide) (by decide)))
  have F_description_p0_3 : Fld Z h3 p0 "com/example/tapeloom/tapeloom/Option" "description" "Ljava/lang/String;" .null := F_description_p0_2.other W3 (Or.inr (slot_ne (Or.inr (hw _ (List.mem_of_getElem? (i := 47) rfl))) (Or.inr (hw _ (List.mem_of_getElem? (i := 43) rfl))) (by decide) (t := (.object "java/lang/String")) (t' := (.object "java/lang/String")) (by decide) (by decide)))
  have F_shortName_p0_3 : Fld Z h3 p0 "com/example/tapeloom/tapeloom/Option" "shortName" "Ljava/lang/String;" .null := F_shortName_p0_2.other W3 (Or.inr (slot_ne (Or.inr (hw _ (List.mem_of_getElem? (i := 41) rfl))) (Or.inr (hw _ (List.mem_of_getElem? (i := 43) rfl))) (by decide) (t := (.object "java/lang/String")) (t' := (.object "java/lang/String")) (by decide) (by decide)))
  have K_3 : Keep h0 h3 [p0] := K_2.wr W3 (Or.inl (List.mem_of_getElem? (i := 0) rfl))
  have N3 := Fr.snoc X3 N2 g_p0
  have F_longName_p0_3 : Fld Z h3 p0 "com/example/tapeloom/tapeloom/Option" "longName" "Ljava/lang/String;" (.ref p2) := F_longName_p0_2.same W3
  refine own_step (T' := T3) (g' := (mkF m 14 #[.val (.ref p0), .val .null, .val (.ref p2), .val .null, .val (.ref p4)] [])) st3 ?_
  refine own_step (T' := T3) (g' := (mkF m 15 #[.val (.ref p0), .val .null, .val (.ref p2), .val .null, .val (.ref p4)] [(.ref p0)])) (fun t k => XS.aloadN X3.here hx rfl (hb hby d8_14) rfl rfl k) ?_
  refine own_step (T' := T3) (g' := (mkF m 16 #[.val (.ref p0), .val .null, .val (.ref p2), .val .null, .val (.ref p4)] [.null, (.ref p0)])) (fun t k => XS.aloadN X3.here hx rfl (hb hby d8_15) rfl rfl k) ?_
  obtain ⟨T4, h4, X4, e4, W4, st4⟩ := putF X3 hx hZ hown (host := "") (Or.inl (hw _ (List.mem_of_getElem? (i := 44) rfl))) Via.refl e3 F_label_p0_3 E_p0_3 (Or.inr ⟨(hw _ (List.mem_of_getElem? (i := 45) rfl)), rfl, hnm⟩) (hw _ (List.mem_of_getElem? (i := 35) rfl)) (ty := (.object "java/lang/String")) (by decide) rfl rfl (g := (mkF m 16 #[.val (.ref p0), .val .null, .val (.ref p2), .val .null, .val (.ref p4)] [.null, (.ref p0)])) rfl rfl (hb hby d8_16)
  have E_p0_4 : Exa Z h4 p0 "com/example/tapeloom/tapeloom/Option" := E_p0_3.wr W4
  have F_description_p0_4 : Fld Z h4 p0 "com/example/tapeloom/tapeloom/Option" "description" "Ljava/lang/String;" .null := F_description_p0_3.other W4 (Or.inr (slot_ne (Or.inr (hw _ (List.mem_of_getElem? (i := 47) rfl))) (Or.inr (hw _ (List.mem_of_getElem? (i := 45) rfl))) (by decide) (t := (.object "java/lang/String")) (t' := (.object "java/lang/String")) (by decide) (by decide)))
  have F_shortName_p0_4 : Fld Z h4 p0 "com/example/tapeloom/tapeloom/Option" "shortName" "Ljava/lang/String;" .null := F_shortName_p0_3.other W4 (Or.inr (slot_ne (Or.inr (hw _ (List.mem_of_getElem? (i := 41) rfl))) (Or.inr (hw _ (List.mem_of_getElem? (i := 45) rfl))) (by decide) (t := (.object "java/lang/String")) (t' := (.object "java/lang/String")) (by decide) (by decide)))
  have F_longName_p0_4 : Fld Z h4 p0 "com/example/tapeloom/tapeloom/Option" "longName" "Ljava/lang/String;" (.ref p2) := F_longName_p0_3.other W4 (Or.inr (slot_ne (Or.inr (hw _ (List.mem_of_getElem? (i := 43) rfl))) (Or.inr (hw _ (List.mem_of_getElem? (i := 45) rfl))) (by decide) (t := (.object "java/lang/String")) (t' := (.object "java/lang/String")) (by decide) (by decide)))
  have K_4 : Keep h0 h4 [p0] := K_3.wr W4 (Or.inl (List.mem_of_getElem? (i := 0) rfl))
  have N4 := Fr.snoc X4 N3 g_p0
  have F_label_p0_4 : Fld Z h4 p0 "com/example/tapeloom/tapeloom/Option" "label" "Ljava/lang/String;" .null := F_label_p0_3.same W4
  refine own_step (T' := T4) (g' := (mkF m 19 #[.val (.ref p0), .val .null, .val (.ref p2), .val .null, .val (.ref p4)] [])) st4 ?_
  refine own_step (T' := T4) (g' := (mkF m 20 #[.val (.ref p0), .val .null, .val (.ref p2), .val .null, .val (.ref p4)] [(.ref p0)])) (fun t k => XS.aloadN X4.here hx rfl (hb hby d8_19) rfl rfl k) ?_
  refine own_step (T' := T4) (g' := (mkF m 22 #[.val (.ref p0), .val .null, .val (.ref p2), .val .null, .val (.ref p4)] [(.ref p4), (.ref p0)])) (fun t k => XS.aload X4.here hx rfl (hb hby d8_20) rfl rfl k) ?_
  obtain ⟨T5, h5, X5, e5, W5, st5⟩ := putF X4 hx hZ hown (host := "") (Or.inl (hw _ (List.mem_of_getElem? (i := 46) rfl))) Via.refl e4 F_description_p0_4 E_p0_4 (Or.inr ⟨(hw _ (List.mem_of_getElem? (i := 47) rfl)), rfl, hnm⟩) (hw _ (List.mem_of_getElem? (i := 35) rfl)) (ty := (.object "java/lang/String")) (by decide) rfl rfl (g := (mkF m 22 #[.val (.ref p0), .val .null, .val (.ref p2), .val .null, .val (.ref p4)] [(.ref p4), (.ref p0)])) rfl rfl (hb hby d8_22)
  have E_p0_5 : Exa Z h5 p0 "com/example/tapeloom/tapeloom/Option" := E_p0_4.wr W5
  have F_shortName_p0_5 : Fld Z h5 p0 "com/example/tapeloom/tapeloom/Option" "shortName" "Ljava/lang/String;" .null := F_shortName_p0_4.other W5 (Or.inr (slot_ne (Or.inr (hw _ (List.mem_of_getElem? (i := 41) rfl))) (Or.inr (hw _ (List.mem_of_getElem? (i := 47) rfl))) (by decide) (t := (.object "java/lang/String")) (t' := (.object "java/lang/String")) (by decide) (by decide)))
  have F_longName_p0_5 : Fld Z h5 p0 "com/example/tapeloom/tapeloom/Option" "longName" "Ljava/lang/String;" (.ref p2) := F_longName_p0_4.other W5 (Or.inr (slot_ne (Or.inr (hw _ (List.mem_of_getElem? (i := 43) rfl))) (Or.inr (hw _ (List.mem_of_getElem? (i := 47) rfl))) (by decide) (t := (.object "java/lang/String")) (t' := (.object "java/lang/String")) (by decide) (by decide)))
  have F_label_p0_5 : Fld Z h5 p0 "com/example/tapeloom/tapeloom/Option" "label" "Ljava/lang/String;" .null := F_label_p0_4.other W5 (Or.inr (slot_ne (Or.inr (hw _ (List.mem_of_getElem? (i := 45) rfl))) (Or.inr (hw _ (List.mem_of_getElem? (i := 47) rfl))) (by decide) (t := (.object "java/lang/String")) (t' := (.object "java/lang/String")) (by decide) (by decide)))
  have K_5 : Keep h0 h5 [p0] := K_4.wr W5 (Or.inl (List.mem_of_getElem? (i := 0) rfl))
  have N5 := Fr.snoc X5 N4 g_p0
  have F_description_p0_5 : Fld Z h5 p0 "com/example/tapeloom/tapeloom/Option" "description" "Ljava/lang/String;" (.ref p4) := F_description_p0_4.same W5
  refine own_step (T' := T5) (g' := (mkF m 25 #[.val (.ref p0), .val .null, .val (.ref p2), .val .null, .val (.ref p4)] [])) st5 ?_
  refine own_retV X5 hx hlk Bd.returns (hb hby d8_25) (by decide) (by decide) ?_
  rw [e5]
  exact ⟨rfl, N5, K_5, F_shortName_p0_5, F_longName_p0_5, F_label_p0_5, F_description_p0_5⟩
theorem ef_rm7_10 (m : MethodId) (x1 : Addr) (x2 : Addr) : entryFrame m #[.null, (.ref x1), (.ref x2)] 3 = mkF m 0 #[.val .null, .val (.ref x1), .val (.ref x2)] [] := by first | (simp [entryFrame, mkF, argsToLocals, Value.category]; done) | rfl
def Qrm7_10 (Z : State) (p1 : Addr) (p2 : Addr) (h0 : Heap) (n0 : Nat) (v : Option Value) (h : Heap) (L : List Loc) : Prop := ∃ (ob : Addr), v = some (.ref ob) ∧ Fr n0 L ∧ Keep h0 h [] ∧ Exa Z h ob "com/example/tapeloom/tapeloom/Option" ∧ Fld Z h ob "com/example/tapeloom/tapeloom/Option" "shortName" "Ljava/lang/String;" .null ∧ Fld Z h ob "com/example/tapeloom/tapeloom/Option" "longName" "Ljava/lang/String;" (.ref p1) ∧ Fld Z h ob "com/example/tapeloom/tapeloom/Option" "label" "Ljava/lang/String;" .null ∧ Fld Z h ob "com/example/tapeloom/tapeloom/Option" "description" "Ljava/lang/String;" (.ref p2) ∧ n0 ≤ ob ∧ h0.size ≤ ob
set_option maxRecDepth 65536 in
set_option maxHeartbeats 40000000 in
theorem rm7_10 (l : Launch) (Z : State) (a0 : Array Value) (hw : ∀ d ∈ tables_1, d.before a0 Z = true) (ws : List Jvm.Cond) (p1 : Addr) (p2 : Addr) (h0 : Heap) (n0 : Nat) (Z0 : n0 ≤ h0.size) :
    MetFree l (⟨"com/example/tapeloom/tapeloom/Option", "flag", "(Ljava/lang/String;Ljava/lang/String;Ljava/lang/String;)Lcom/example/tapeloom/tapeloom/Option;"⟩ : MethodName) (head1 (Jvm.Cond.code (⟨"com/example/tapeloom/tapeloom/Option", "flag", "(Ljava/lang/String;Ljava/lang/String;Ljava/lang/String;)Lcom/example/tapeloom/tapeloom/Option;"⟩ : MethodName) prog_15_method_2_code 3 (some (.object "com/example/tapeloom/tapeloom/Option")) :: ws) ({ frames := 2, cells := 1, slots := 4, locals := 29 } : Room)) (fun a U => a = #[.null, (.ref p1), (.ref p2)] ∧ Z.Warmed39 U.vm ∧ U.heap = h0) (fun _ _ _ _ _ => True) (fun _ U o U' => ∃ v L, o = .returned v ∧ Qrm7_10 Z p1 p2 h0 n0 v U'.heap L ∧ FrameEnd U o U' L ({ frames := 2, cells := 1, slots := 4, locals := 29 } : Room).cells ({ frames := 2, cells := 1, slots := 4, locals := 29 } : Room).slots) := by
  refine MetFree.of_bodySF (plainFor_of_name pn_7) hisR ?_
  intro p e s m args below meth c s₁ Bd hml0 hP hK
  obtain ⟨rfl, hZ, hh⟩ := hP
  have hx := Bd.exec
  have hby := Bd.bytes
  have hlk : meth.locks = false := BodyLoose.notSynchronized Bd
  have hml : c.maxLocals = 3 := hml0
  have hown : s.vm.findClass "com/example/tapeloom/tapeloom/Option" = some m.cls := findClass_of_methodNamed Bd.named
  have hnm := (name_of_methodNamed Bd.named Bd.method).1
  have X0 : Stand p l e ({ frames := 2, cells := 1, slots := 4, locals := 29 } : Room) s m #[.null, (.ref p1), (.ref p2)] below meth c s₁ [] 0 0 := Stand.of_body Bd
  have e0 : s₁.heap = h0 := by rw [← hh, Bd.state]; rfl
  have N0 := Fr.nil n0
  have K0 : Keep h0 h0 [] := Keep.refl h0 []
  show own_G p e below s 1 4 (Qrm7_10 Z p1 p2 h0 n0) s₁ (entryFrame m #[.null, (.ref p1), (.ref p2)] 3)
  rw [ef_rm7_10 m p1 p2]
  obtain ⟨T1, h1, X1, e1, E1, A1, D1, -, st1⟩ := newO X0 hx hZ hown (hw _ (List.mem_of_getElem? (i := 34) rfl)) (hw _ (List.mem_of_getElem? (i := 35) rfl)) (hw _ (List.mem_of_getElem? (i := 32) rfl)) e0 (g := (mkF m 0 #[.val .null, .val (.ref p1), .val (.ref p2)] [])) rfl (hb hby d7_0) (by decide) (by decide)
  obtain ⟨b1, g1⟩ : ∃ z, z = h0.size := ⟨_, rfl⟩
  rw [← g1] at A1 D1 st1
  have K_1 : Keep h0 h1 [] := K0.ext E1
  have sz_b1 : h0.size ≤ b1 := Nat.le_trans K0.1 (Nat.le_of_eq g1.symm)
  have g_b1 : n0 ≤ b1 := Nat.le_trans Z0 sz_b1
  have E_b1 : Exa Z h1 b1 "com/example/tapeloom/tapeloom/Option" := A1
  have F_shortName_b1 : Fld Z h1 b1 "com/example/tapeloom/tapeloom/Option" "shortName" "Ljava/lang/String;" .null := D1 (Or.inr (hw _ (List.mem_of_getElem? (i := 41) rfl))) (ty := (.object "java/lang/String")) (by decide)
  have F_longName_b1 : Fld Z h1 b1 "com/example/tapeloom/tapeloom/Option" "longName" "Ljava/lang/String;" .null := D1 (Or.inr (hw _ (List.mem_of_getElem? (i := 43) rfl))) (ty := (.object "java/lang/String")) (by decide)
  have F_label_b1 : Fld Z h1 b1 "com/example/tapeloom/tapeloom/Option" "label" "Ljava/lang/String;" .null := D1 (Or.inr (hw _ (List.mem_of_getElem? (i := 45) rfl))) (ty := (.object "java/lang/String")) (by decide)
  have F_description_b1 : Fld Z h1 b1 "com/example/tapeloom/tapeloom/Option" "description" "Ljava/lang/String;" .null := D1 (Or.inr (hw _ (List.mem_of_getElem? (i := 47) rfl))) (ty := (.object "java/lang/String")) (by decide)
  refine own_step (T' := T1) (g' := (mkF m 3 #[.val .null, .val (.ref p1), .val (.ref p2)] [(.ref b1)])) st1 ?_
  refine own_step (T' := T1) (g' := (mkF m 4 #[.val .null, .val (.ref p1), .val (.ref p2)] [(.ref b1), (.ref b1)])) (fun t k => XS.dup X1.here hx rfl (hb hby d7_3) rfl rfl k) ?_
  refine own_step (T' := T1) (g' := (mkF m 5 #[.val .null, .val (.ref p1), .val (.ref p2)] [.null, (.ref b1), (.ref b1)])) (fun t k => XS.aloadN X1.here hx rfl (hb hby d7_4) rfl rfl k) ?_
  refine own_step (T' := T1) (g' := (mkF m 6 #[.val .null, .val (.ref p1), .val (.ref p2)] [(.ref p1), .null, (.ref b1), (.ref b1)])) (fun t k => XS.aloadN X1.here hx rfl (hb hby d7_5) rfl rfl k) ?_
  refine own_step (T' := T1) (g' := (mkF m 7 #[.val .null, .val (.ref p1), .val (.ref p2)] [.null, (.ref p1), .null, (.ref b1), (.ref b1)])) (fun t k => XS.aconstNull X1.here hx rfl (hb hby d7_6) k) ?_
  refine own_step (T' := T1) (g' := (mkF m 8 #[.val .null, .val (.ref p1), .val (.ref p2)] [(.ref p2), .null, (.ref p1), .null, (.ref b1), (.ref b1)])) (fun t k => XS.aloadN X1.here hx rfl (hb hby d7_7) rfl rfl k) ?_
  obtain ⟨_, _, ⟨T2, L2, kk2, nn2⟩, -, X2, ⟨Lc2, hQ2, l2, y2, z2⟩, st2⟩ := X1.specialBack hx (y := (⟨"com/example/tapeloom/tapeloom/Option", "<init>", "(Ljava/lang/String;Ljava/lang/String;Ljava/lang/String;Ljava/lang/String;)V"⟩ : MethodName)) rfl hown (mvT hZ (hw _ (List.mem_of_getElem? (i := 36) rfl))) (mvT hZ (hw _ (List.mem_of_getElem? (i := 37) rfl))) (mvT hZ (hw _ (List.mem_of_getElem? (i := 38) rfl))) (by decide) (backOf (W := 1) (rm8_10 l Z a0 hw [] b1 p1 p2 h1 n0 (Nat.le_trans Z0 K_1.1) E_b1 F_shortName_b1 F_longName_b1 F_label_b1 F_description_b1 g_b1) hZ (hw _ (List.mem_of_getElem? (i := 38) rfl)) (hw _ (List.mem_of_getElem? (i := 32) rfl)) (by decide) (by decide)) (g := (mkF m 8 #[.val .null, .val (.ref p1), .val (.ref p2)] [(.ref p2), .null, (.ref p1), .null, (.ref b1), (.ref b1)])) rfl (by rw [hml]; rfl) (Steps.refl _) (a := b1) (argsL := [.null, (.ref p1), .null, (.ref p2)]) (rest := [(.ref b1)]) (lenOf pd_7 rfl) rfl (by show 2 * 0 + _ ≤ _; exact Nat.le_of_eq rfl) (hb hby d7_8) (fun _ _ => ⟨rfl, e1, (by decide : 1 + 0 ≤ _), (by decide : 4 + 0 ≤ _)⟩)
  dsimp only [Pt.U, Pt.locs, Pt.cells, Pt.slots] at X2 l2 y2 z2 st2 hQ2
  rw [l2, y2, z2] at X2
  obtain ⟨rfl, N2q, Kq2, pq2_0, pq2_1, pq2_2, pq2_3⟩ := hQ2
  have N2 := Fr.app N0 N2q
  have E_b1_2 : Exa Z T2.heap b1 "com/example/tapeloom/tapeloom/Option" := E_b1.keep Kq2
  have K_2 : Keep h0 T2.heap [] := K_1.trans Kq2 (allS (Or.inr sz_b1) all0)
  refine own_step (T' := T2) (g' := (mkF m 11 #[.val .null, .val (.ref p1), .val (.ref p2)] [(.ref b1)])) (fun t k => st2.trans k) ?_
  refine own_retR X2 hx hlk Bd.returns rfl rfl (hb hby d7_11) (by decide) (by decide) ?_
  exact ⟨b1, rfl, N2, K_2, E_b1_2, pq2_0, pq2_1, pq2_2, pq2_3, g_b1, sz_b1⟩
theorem ef_rm8_11 (m : MethodId) (x0 : Addr) (x4 : Addr) : entryFrame m #[(.ref x0), .null, .null, .null, (.ref x4)] 5 = mkF m 0 #[.val (.ref x0), .val .null, .val .null, .val .null, .val (.ref x4)] [] := by first | (simp [entryFrame, mkF, argsToLocals, Value.category]; done) | rfl
def Qrm8_11 (Z : State) (p0 : Addr) (p4 : Addr) (h0 : Heap) (n0 : Nat) (v : Option Value) (h : Heap) (L : List Loc) : Prop := v = none ∧ Fr n0 L ∧ Keep h0 h [p0] ∧ Fld Z h p0 "com/example/tapeloom/tapeloom/Option" "shortName" "Ljava/lang/String;" .null ∧ Fld Z h p0 "com/example/tapeloom/tapeloom/Option" "longName" "Ljava/lang/String;" .null ∧ Fld Z h p0 "com/example/tapeloom/tapeloom/Option" "label" "Ljava/lang/String;" .null ∧ Fld Z h p0 "com/example/tapeloom/tapeloom/Option" "description" "Ljava/lang/String;" (.ref p4)
set_option maxRecDepth 65536 in
set_option maxHeartbeats 40000000 in
theorem rm8_11 (l : Launch) (Z : State) (a0 : Array Value) (hw : ∀ d ∈ tables_1, d.before a0 Z = true) (ws : List Jvm.Cond) (p0 : Addr) (p4 : Addr) (h0 : Heap) (n0 : Nat) (Z0 : n0 ≤ h0.size) (E_p0 : Exa Z h0 p0 "com/example/tapeloom/tapeloom/Option") (F_shortName_p0 : Fld Z h0 p0 "com/example/tapeloom/tapeloom/Option" "shortName" "Ljava/lang/String;" .null) (F_longName_p0 : Fld Z h0 p0 "com/example/tapeloom/tapeloom/Option" "longName" "Ljava/lang/String;" .null) (F_label_p0 : Fld Z h0 p0 "com/example/tapeloom/tapeloom/Option" "label" "Ljava/lang/String;" .null) (F_description_p0 : Fld Z h0 p0 "com/example/tapeloom/tapeloom/Option" "description" "Ljava/lang/String;" .null) (g_p0 : n0 ≤ p0) :
    MetFree l (⟨"com/example/tapeloom/tapeloom/Option", "<init>", "(Ljava/lang/String;Ljava/lang/String;Ljava/lang/String;Ljava/lang/String;)V"⟩ : MethodName) (head1 (Jvm.Cond.code (⟨"com/example/tapeloom/tapeloom/Option", "<init>", "(Ljava/lang/String;Ljava/lang/String;Ljava/lang/String;Ljava/lang/String;)V"⟩ : MethodName) prog_15_method_1_code 5 none :: ws) ({ frames := 1, cells := 0, slots := 0, locals := 12 } : Room)) (fun a U => a = #[(.ref p0), .null, .null, .null, (.ref p4)] ∧ Z.Warmed39 U.vm ∧ U.heap = h0) (fun _ _ _ _ _ => True) (fun _ U o U' => ∃ v L, o = .returned v ∧ Qrm8_11 Z p0 p4 h0 n0 v U'.heap L ∧ FrameEnd U o U' L ({ frames := 1, cells := 0, slots := 0, locals := 12 } : Room).cells ({ frames := 1, cells := 0, slots := 0, locals := 12 } : Room).slots) := by
  refine MetFree.of_bodySF (plainFor_of_name pn_8) hisR ?_
  intro p e s m args below meth c s₁ Bd hml0 hP hK
  obtain ⟨rfl, hZ, hh⟩ := hP
  have hx := Bd.exec
  have hby := Bd.bytes
  have hlk : meth.locks = false := BodyLoose.notSynchronized Bd
  have hml : c.maxLocals = 5 := hml0
  have hown : s.vm.findClass "com/example/tapeloom/tapeloom/Option" = some m.cls := findClass_of_methodNamed Bd.named
  have hnm := (name_of_methodNamed Bd.named Bd.method).1
  have X0 : Stand p l e ({ frames := 1, cells := 0, slots := 0, locals := 12 } : Room) s m #[(.ref p0), .null, .null, .null, (.ref p4)] below meth c s₁ [] 0 0 := Stand.of_body Bd
  have e0 : s₁.heap = h0 := by rw [← hh, Bd.state]; rfl
  have N0 := Fr.nil n0
  have K0 : Keep h0 h0 [p0] := Keep.refl h0 [p0]
  show own_G p e below s 0 0 (Qrm8_11 Z p0 p4 h0 n0) s₁ (entryFrame m #[(.ref p0), .null, .null, .null, (.ref p4)] 5)
  rw [ef_rm8_11 m p0 p4]
  refine own_step (T' := s₁) (g' := (mkF m 1 #[.val (.ref p0), .val .null, .val .null, .val .null, .val (.ref p4)] [(.ref p0)])) (fun t k => XS.aloadN X0.here hx rfl (hb hby d8_0) rfl rfl k) ?_
  obtain ⟨T1, X1, e1, st1⟩ := initO X0 hx hZ hown (hw _ (List.mem_of_getElem? (i := 39) rfl)) (hw _ (List.mem_of_getElem? (i := 12) rfl)) (hw _ (List.mem_of_getElem? (i := 13) rfl)) e0 (g := (mkF m 1 #[.val (.ref p0), .val .null, .val .null, .val .null, .val (.ref p4)] [(.ref p0)])) rfl (by rw [hml]; rfl) rfl (hb hby d8_1) (by decide) (W := 0) (by show 2 * 0 + _ ≤ _; exact Nat.le_of_eq rfl) (by decide)
  refine own_step (T' := T1) (g' := (mkF m 4 #[.val (.ref p0), .val .null, .val .null, .val .null, .val (.ref p4)] [])) st1 ?_
  refine own_step (T' := T1) (g' := (mkF m 5 #[.val (.ref p0), .val .null, .val .null, .val .null, .val (.ref p4)] [(.ref p0)])) (fun t k => XS.aloadN X1.here hx rfl (hb hby d8_4) rfl rfl k) ?_
  refine own_step (T' := T1) (g' := (mkF m 6 #[.val (.ref p0), .val .null, .val .null, .val .null, .val (.ref p4)] [.null, (.ref p0)])) (fun t k => XS.aloadN X1.here hx rfl (hb hby d8_5) rfl rfl k) ?_
  obtain ⟨T2, h2, X2, e2, W2, st2⟩ := putF X1 hx hZ hown (host := "") (Or.inl (hw _ (List.mem_of_getElem? (i := 40) rfl))) Via.refl e1 F_shortName_p0 E_p0 (Or.inr ⟨(hw _ (List.mem_of_getElem? (i := 41) rfl)), rfl, hnm⟩) (hw _ (List.mem_of_getElem? (i := 35) rfl)) (ty := (.object "java/lang/String")) (by decide) rfl rfl (g := (mkF m 6 #[.val (.ref p0), .val .null, .val .null, .val .null, .val (.ref p4)] [.null, (.ref p0)])) rfl rfl (hb hby d8_6)
  have E_p0_2 : Exa Z h2 p0 "com/example/tapeloom/tapeloom/Option" := E_p0.wr W2
  have F_longName_p0_2 : Fld Z h2 p0 "com/example/tapeloom/tapeloom/Option" "longName" "Ljava/lang/String;" .null := F_longName_p0.other W2 (Or.inr (slot_ne (Or.inr (hw _ (List.mem_of_getElem? (i := 43) rfl))) (Or.inr (hw _ (List.mem_of_getElem? (i := 41) rfl))) (by decide) (t := (.object "java/lang/String")) (t' := (.object "java/lang/String")) (by decide) (by decide)))
  have F_label_p0_2 : Fld Z h2 p0 "com/example/tapeloom/tapeloom/Option" "label" "Ljava/lang/String;" .null := F_label_p0.other W2 (Or.inr (slot_ne (Or.inr (hw _ (List.mem_of_getElem? (i := 45) rfl))) (Or.inr (hw _ (List.mem_of_getElem? (i := 41) rfl))) (by decide) (t := (.object "java/lang/String")) (t' := (.object "java/lang/String")) (by decide) (by decide)))
  have F_description_p0_2 : Fld Z h2 p0 "com/example/tapeloom/tapeloom/Option" "description" "Ljava/lang/String;" .null := F_description_p0.other W2 (Or.inr (slot_ne (Or.inr (hw _ (List.mem_of_getElem? (i := 47) rfl))) (Or.inr (hw _ (List.mem_of_getElem? (i := 41) rfl))) (by decide) (t := (.object "java/lang/String")) (t' := (.object "java/lang/String")) (by decide) (by decide)))
  have K_2 : Keep h0 h2 [p0] := K0.wr W2 (Or.inl (List.mem_of_getElem? (i := 0) rfl))
  have N2 := Fr.snoc X2 N0 g_p0
  have F_shortName_p0_2 : Fld Z h2 p0 "com/example/tapeloom/tapeloom/Option" "shortName" "Ljava/lang/String;" .null := F_shortName_p0.same W2
  refine own_step (T' := T2) (g' := (mkF m 9 #[.val (.ref p0), .val .null, .val .null, .val .null, .val (.ref p4)] [])) st2 ?_
  refine own_step (T' := T2) (g' := (mkF m 10 #[.val (.ref p0), .val .null, .val .null, .val .null, .val (.ref p4)] [(.ref p0)])) (fun t k => XS.aloadN X2.here hx rfl (hb hby d8_9) rfl rfl k) ?_
  refine own_step (T' := T2) (g' := (mkF m 11 #[.val (.ref p0), .val .null, .val .null, .val .null, .val (.ref p4)] [.null, (.ref p0)])) (fun t k => XS.aloadN X2.here hx rfl (hb hby d8_10) rfl rfl k) ?_
  obtain ⟨T3, h3, X3, e3, W3, st3⟩ := putF X2 hx hZ hown (host := "") (Or.inl (hw _ (List.mem_of_getElem? (i := 42) rfl))) Via.refl e2 F_longName_p0_2 E_p0_2 (Or.inr ⟨(hw _ (List.mem_of_getElem? (i := 43) rfl)), rfl, hnm⟩) (hw _ (List.mem_of_getElem? (i := 35) rfl)) (ty := (.object "java/lang/String")) (by decide) rfl rfl (g := (mkF m 11 #[.val (.ref p0), .val .null, .val .null, .val .null, .val (.ref p4)] [.null, (.ref p0)])) rfl rfl (hb hby d8_11)
  have E_p0_3 : Exa Z h3 p0 "com/example/tapeloom/tapeloom/Option" := E_p0_2.wr W3
  have F_label_p0_3 : Fld Z h3 p0 "com/example/tapeloom/tapeloom/Option" "label" "Ljava/lang/String;" .null := F_label_p0_2.other W3 (Or.inr (slot_ne (Or.inr (hw _ (List.mem_of_getElem? (i := 45) rfl))) (Or.inr (hw _ (List.mem_of_getElem? (i := 43) rfl))) (by decide) (t := (.object "java/lang/String")) (t' := (.object "java/lang/String")) (by decide) (by decide)))
  have F_description_p0_3 : Fld Z h3 p0 "com/example/tapeloom/tapeloom/Option" "description" "Ljava/lang/String;" .null := F_description_p0_2.other W3 (Or.inr (slot_ne (Or.inr (hw _ (List.mem_of_getElem? (i := 47) rfl))) (Or.inr (hw _ (List.mem_of_getElem? (i := 43) rfl))) (by decide) (t := (.object "java/lang/String")) (t' := (.object "java/lang/String")) (by decide) (by decide)))
  have F_shortName_p0_3 : Fld Z h3 p0 "com/example/tapeloom/tapeloom/Option" "shortName" "Ljava/lang/String;" .null := F_shortName_p0_2.other W3 (Or.inr (slot_ne (Or.inr (hw _ (List.mem_of_getElem? (i := 41) rfl))) (Or.inr (hw _ (List.mem_of_getElem? (i := 43) rfl))) (by decide) (t := (.object "java/lang/String")) (t' := (.object "java/lang/String")) (by decide) (by decide)))
  have K_3 : Keep h0 h3 [p0] := K_2.wr W3 (Or.inl (List.mem_of_getElem? (i := 0) rfl))
  have N3 := Fr.snoc X3 N2 g_p0
  have F_longName_p0_3 : Fld Z h3 p0 "com/example/tapeloom/tapeloom/Option" "longName" "Ljava/lang/String;" .null := F_longName_p0_2.same W3
  refine own_step (T' := T3) (g' := (mkF m 14 #[.val (.ref p0), .val .null, .val .null, .val .null, .val (.ref p4)] [])) st3 ?_
  refine own_step (T' := T3) (g' := (mkF m 15 #[.val (.ref p0), .val .null, .val .null, .val .null, .val (.ref p4)] [(.ref p0)])) (fun t k => XS.aloadN X3.here hx rfl (hb hby d8_14) rfl rfl k) ?_
  refine own_step (T' := T3) (g' := (mkF m 16 #[.val (.ref p0), .val .null, .val .null, .val .null, .val (.ref p4)] [.null, (.ref p0)])) (fun t k => XS.aloadN X3.here hx rfl (hb hby d8_15) rfl rfl k) ?_
  obtain ⟨T4, h4, X4, e4, W4, st4⟩ := putF X3 hx hZ hown (host := "") (Or.inl (hw _ (List.mem_of_getElem? (i := 44) rfl))) Via.refl e3 F_label_p0_3 E_p0_3 (Or.inr ⟨(hw _ (List.mem_of_getElem? (i := 45) rfl)), rfl, hnm⟩) (hw _ (List.mem_of_getElem? (i := 35) rfl)) (ty := (.object "java/lang/String")) (by decide) rfl rfl (g := (mkF m 16 #[.val (.ref p0), .val .null, .val .null, .val .null, .val (.ref p4)] [.null, (.ref p0)])) rfl rfl (hb hby d8_16)
  have E_p0_4 : Exa Z h4 p0 "com/example/tapeloom/tapeloom/Option" := E_p0_3.wr W4
  have F_description_p0_4 : Fld Z h4 p0 "com/example/tapeloom/tapeloom/Option" "description" "Ljava/lang/String;" .null := F_description_p0_3.other W4 (Or.inr (slot_ne (Or.inr (hw _ (List.mem_of_getElem? (i := 47) rfl))) (Or.inr (hw _ (List.mem_of_getElem? (i := 45) rfl))) (by decide) (t := (.object "java/lang/String")) (t' := (.object "java/lang/String")) (by decide) (by decide)))
  have F_shortName_p0_4 : Fld Z h4 p0 "com/example/tapeloom/tapeloom/Option" "shortName" "Ljava/lang/String;" .null := F_shortName_p0_3.other W4 (Or.inr (slot_ne (Or.inr (hw _ (List.mem_of_getElem? (i := 41) rfl))) (Or.inr (hw _ (List.mem_of_getElem? (i := 45) rfl))) (by decide) (t := (.object "java/lang/String")) (t' := (.object "java/lang/String")) (by decide) (by decide)))
  have F_longName_p0_4 : Fld Z h4 p0 "com/example/tapeloom/tapeloom/Option" "longName" "Ljava/lang/String;" .null := F_longName_p0_3.other W4 (Or.inr (slot_ne (Or.inr (hw _ (List.mem_of_getElem? (i := 43) rfl))) (Or.inr (hw _ (List.mem_of_getElem? (i := 45) rfl))) (by decide) (t := (.object "java/lang/String")) (t' := (.object "java/lang/String")) (by decide) (by decide)))
  have K_4 : Keep h0 h4 [p0] := K_3.wr W4 (Or.inl (List.mem_of_getElem? (i := 0) rfl))
  have N4 := Fr.snoc X4 N3 g_p0
  have F_label_p0_4 : Fld Z h4 p0 "com/example/tapeloom/tapeloom/Option" "label" "Ljava/lang/String;" .null := F_label_p0_3.same W4
  refine own_step (T' := T4) (g' := (mkF m 19 #[.val (.ref p0), .val .null, .val .null, .val .null, .val (.ref p4)] [])) st4 ?_
  refine own_step (T' := T4) (g' := (mkF m 20 #[.val (.ref p0), .val .null, .val .null, .val .null, .val (.ref p4)] [(.ref p0)])) (fun t k => XS.aloadN X4.here hx rfl (hb hby d8_19) rfl rfl k) ?_
  refine own_step (T' := T4) (g' := (mkF m 22 #[.val (.ref p0), .val .null, .val .null, .val .null, .val (.ref p4)] [(.ref p4), (.ref p0)])) (fun t k => XS.aload X4.here hx rfl (hb hby d8_20) rfl rfl k) ?_
  obtain ⟨T5, h5, X5, e5, W5, st5⟩ := putF X4 hx hZ hown (host := "") (Or.inl (hw _ (List.mem_of_getElem? (i := 46) rfl))) Via.refl e4 F_description_p0_4 E_p0_4 (Or.inr ⟨(hw _ (List.mem_of_getElem? (i := 47) rfl)), rfl, hnm⟩) (hw _ (List.mem_of_getElem? (i := 35) rfl)) (ty := (.object "java/lang/String")) (by decide) rfl rfl (g := (mkF m 22 #[.val (.ref p0), .val .null, .val .null, .val .null, .val (.ref p4)] [(.ref p4), (.ref p0)])) rfl rfl (hb hby d8_22)
  have E_p0_5 : Exa Z h5 p0 "com/example/tapeloom/tapeloom/Option" := E_p0_4.wr W5
  have F_shortName_p0_5 : Fld Z h5 p0 "com/example/tapeloom/tapeloom/Option" "shortName" "Ljava/lang/String;" .null := F_shortName_p0_4.other W5 (Or.inr (slot_ne (Or.inr (hw _ (List.mem_of_getElem? (i := 41) rfl))) (Or.inr (hw _ (List.mem_of_getElem? (i := 47) rfl))) (by decide) (t := (.object "java/lang/String")) (t' := (.object "java/lang/String")) (by decide) (by decide)))
  have F_longName_p0_5 : Fld Z h5 p0 "com/example/tapeloom/tapeloom/Option" "longName" "Ljava/lang/String;" .null := F_longName_p0_4.other W5 (Or.inr (slot_ne (Or.inr (hw _ (List.mem_of_getElem? (i := 43) rfl))) (Or.inr (hw _ (List.mem_of_getElem? (i := 47) rfl))) (by decide) (t := (.object "java/lang/String")) (t' := (.object "java/lang/String")) (by decide) (by decide)))
  have F_label_p0_5 : Fld Z h5 p0 "com/example/tapeloom/tapeloom/Option" "label" "Ljava/lang/String;" .null := F_label_p0_4.other W5 (Or.inr (slot_ne (Or.inr (hw _ (List.mem_of_getElem? (i := 45) rfl))) (Or.inr (hw _ (List.mem_of_getElem? (i := 47) rfl))) (by decide) (t := (.object "java/lang/String")) (t' := (.object "java/lang/String")) (by decide) (by decide)))
  have K_5 : Keep h0 h5 [p0] := K_4.wr W5 (Or.inl (List.mem_of_getElem? (i := 0) rfl))
  have N5 := Fr.snoc X5 N4 g_p0
  have F_description_p0_5 : Fld Z h5 p0 "com/example/tapeloom/tapeloom/Option" "description" "Ljava/lang/String;" (.ref p4) := F_description_p0_4.same W5
  refine own_step (T' := T5) (g' := (mkF m 25 #[.val (.ref p0), .val .null, .val .null, .val .null, .val (.ref p4)] [])) st5 ?_
  refine own_retV X5 hx hlk Bd.returns (hb hby d8_25) (by decide) (by decide) ?_
  rw [e5]
  exact ⟨rfl, N5, K_5, F_shortName_p0_5, F_longName_p0_5, F_label_p0_5, F_description_p0_5⟩
theorem ef_rm7_11 (m : MethodId) (x2 : Addr) : entryFrame m #[.null, .null, (.ref x2)] 3 = mkF m 0 #[.val .null, .val .null, .val (.ref x2)] [] := by first | (simp [entryFrame, mkF, argsToLocals, Value.category]; done) | rfl
def Qrm7_11 (Z : State) (p2 : Addr) (h0 : Heap) (n0 : Nat) (v : Option Value) (h : Heap) (L : List Loc) : Prop := ∃ (ob : Addr), v = some (.ref ob) ∧ Fr n0 L ∧ Keep h0 h [] ∧ Exa Z h ob "com/example/tapeloom/tapeloom/Option" ∧ Fld Z h ob "com/example/tapeloom/tapeloom/Option" "shortName" "Ljava/lang/String;" .null ∧ Fld Z h ob "com/example/tapeloom/tapeloom/Option" "longName" "Ljava/lang/String;" .null ∧ Fld Z h ob "com/example/tapeloom/tapeloom/Option" "label" "Ljava/lang/String;" .null ∧ Fld Z h ob "com/example/tapeloom/tapeloom/Option" "description" "Ljava/lang/String;" (.ref p2) ∧ n0 ≤ ob ∧ h0.size ≤ ob
set_option maxRecDepth 65536 in
set_option maxHeartbeats 40000000 in
theorem rm7_11 (l : Launch) (Z : State) (a0 : Array Value) (hw : ∀ d ∈ tables_1, d.before a0 Z = true) (ws : List Jvm.Cond) (p2 : Addr) (h0 : Heap) (n0 : Nat) (Z0 : n0 ≤ h0.size) :
    MetFree l (⟨"com/example/tapeloom/tapeloom/Option", "flag", "(Ljava/lang/String;Ljava/lang/String;Ljava/lang/String;)Lcom/example/tapeloom/tapeloom/Option;"⟩ : MethodName) (head1 (Jvm.Cond.code (⟨"com/example/tapeloom/tapeloom/Option", "flag", "(Ljava/lang/String;Ljava/lang/String;Ljava/lang/String;)Lcom/example/tapeloom/tapeloom/Option;"⟩ : MethodName) prog_15_method_2_code 3 (some (.object "com/example/tapeloom/tapeloom/Option")) :: ws) ({ frames := 2, cells := 1, slots := 4, locals := 29 } : Room)) (fun a U => a = #[.null, .null, (.ref p2)] ∧ Z.Warmed39 U.vm ∧ U.heap = h0) (fun _ _ _ _ _ => True) (fun _ U o U' => ∃ v L, o = .returned v ∧ Qrm7_11 Z p2 h0 n0 v U'.heap L ∧ FrameEnd U o U' L ({ frames := 2, cells := 1, slots := 4, locals := 29 } : Room).cells ({ frames := 2, cells := 1, slots := 4, locals := 29 } : Room).slots) := by
  refine MetFree.of_bodySF (plainFor_of_name pn_7) hisR ?_
  intro p e s m args below meth c s₁ Bd hml0 hP hK
  obtain ⟨rfl, hZ, hh⟩ := hP
  have hx := Bd.exec
  have hby := Bd.bytes
  have hlk : meth.locks = false := BodyLoose.notSynchronized Bd
  have hml : c.maxLocals = 3 := hml0
  have hown : s.vm.findClass "com/example/tapeloom/tapeloom/Option" = some m.cls := findClass_of_methodNamed Bd.named
  have hnm := (name_of_methodNamed Bd.named Bd.method).1
  have X0 : Stand p l e ({ frames := 2, cells := 1, slots := 4, locals := 29 } : Room) s m #[.null, .null, (.ref p2)] below meth c s₁ [] 0 0 := Stand.of_body Bd
  have e0 : s₁.heap = h0 := by rw [← hh, Bd.state]; rfl
  have N0 := Fr.nil n0
  have K0 : Keep h0 h0 [] := Keep.refl h0 []
  show own_G p e below s 1 4 (Qrm7_11 Z p2 h0 n0) s₁ (entryFrame m #[.null, .null, (.ref p2)] 3)
  rw [ef_rm7_11 m p2]
  obtain ⟨T1, h1, X1, e1, E1, A1, D1, -, st1⟩ := newO X0 hx hZ hown (hw _ (List.mem_of_getElem? (i := 34) rfl)) (hw _ (List.mem_of_getElem? (i := 35) rfl)) (hw _ (List.mem_of_getElem? (i := 32) rfl)) e0 (g := (mkF m 0 #[.val .null, .val .null, .val (.ref p2)] [])) rfl (hb hby d7_0) (by decide) (by decide)
  obtain ⟨b1, g1⟩ : ∃ z, z = h0.size := ⟨_, rfl⟩
  rw [← g1] at A1 D1 st1
  have K_1 : Keep h0 h1 [] := K0.ext E1
  have sz_b1 : h0.size ≤ b1 := Nat.le_trans K0.1 (Nat.le_of_eq g1.symm)
  have g_b1 : n0 ≤ b1 := Nat.le_trans Z0 sz_b1
  have E_b1 : Exa Z h1 b1 "com/example/tapeloom/tapeloom/Option" := A1
  have F_shortName_b1 : Fld Z h1 b1 "com/example/tapeloom/tapeloom/Option" "shortName" "Ljava/lang/String;" .null := D1 (Or.inr (hw _ (List.mem_of_getElem? (i := 41) rfl))) (ty := (.object "java/lang/String")) (by decide)
  have F_longName_b1 : Fld Z h1 b1 "com/example/tapeloom/tapeloom/Option" "longName" "Ljava/lang/String;" .null := D1 (Or.inr (hw _ (List.mem_of_getElem? (i := 43) rfl))) (ty := (.object "java/lang/String")) (by decide)
  have F_label_b1 : Fld Z h1 b1 "com/example/tapeloom/tapeloom/Option" "label" "Ljava/lang/String;" .null := D1 (Or.inr (hw _ (List.mem_of_getElem? (i := 45) rfl))) (ty := (.object "java/lang/String")) (by decide)
  have F_description_b1 : Fld Z h1 b1 "com/example/tapeloom/tapeloom/Option" "description" "Ljava/lang/String;" .null := D1 (Or.inr (hw _ (List.mem_of_getElem? (i := 47) rfl))) (ty := (.object "java/lang/String")) (by decide)
  refine own_step (T' := T1) (g' := (mkF m 3 #[.val .null, .val .null, .val (.ref p2)] [(.ref b1)])) st1 ?_
  refine own_step (T' := T1) (g' := (mkF m 4 #[.val .null, .val .null, .val (.ref p2)] [(.ref b1), (.ref b1)])) (fun t k => XS.dup X1.here hx rfl (hb hby d7_3) rfl rfl k) ?_
  refine own_step (T' := T1) (g' := (mkF m 5 #[.val .null, .val .null, .val (.ref p2)] [.null, (.ref b1), (.ref b1)])) (fun t k => XS.aloadN X1.here hx rfl (hb hby d7_4) rfl rfl k) ?_
  refine own_step (T' := T1) (g' := (mkF m 6 #[.val .null, .val .null, .val (.ref p2)] [.null, .null, (.ref b1), (.ref b1)])) (fun t k => XS.aloadN X1.here hx rfl (hb hby d7_5) rfl rfl k) ?_
  refine own_step (T' := T1) (g' := (mkF m 7 #[.val .null, .val .null, .val (.ref p2)] [.null, .null, .null, (.ref b1), (.ref b1)])) (fun t k => XS.aconstNull X1.here hx rfl (hb hby d7_6) k) ?_
  refine own_step (T' := T1) (g' := (mkF m 8 #[.val .null, .val .null, .val (.ref p2)] [(.ref p2), .null, .null, .null, (.ref b1), (.ref b1)])) (fun t k => XS.aloadN X1.here hx rfl (hb hby d7_7) rfl rfl k) ?_
  obtain ⟨_, _, ⟨T2, L2, kk2, nn2⟩, -, X2, ⟨Lc2, hQ2, l2, y2, z2⟩, st2⟩ := X1.specialBack hx (y := (⟨"com/example/tapeloom/tapeloom/Option", "<init>", "(Ljava/lang/String;Ljava/lang/String;Ljava/lang/String;Ljava/lang/String;)V"⟩ : MethodName)) rfl hown (mvT hZ (hw _ (List.mem_of_getElem? (i := 36) rfl))) (mvT hZ (hw _ (List.mem_of_getElem? (i := 37) rfl))) (mvT hZ (hw _ (List.mem_of_getElem? (i := 38) rfl))) (by decide) (backOf (W := 1) (rm8_11 l Z a0 hw [] b1 p2 h1 n0 (Nat.le_trans Z0 K_1.1) E_b1 F_shortName_b1 F_longName_b1 F_label_b1 F_description_b1 g_b1) hZ (hw _ (List.mem_of_getElem? (i := 38) rfl)) (hw _ (List.mem_of_getElem? (i := 32) rfl)) (by decide) (by decide)) (g := (mkF m 8 #[.val .null, .val .null, .val (.ref p2)] [(.ref p2), .null, .null, .null, (.ref b1), (.ref b1)])) rfl (by rw [hml]; rfl) (Steps.refl _) (a := b1) (argsL := [.null, .null, .null, (.ref p2)]) (rest := [(.ref b1)]) (lenOf pd_7 rfl) rfl (by show 2 * 0 + _ ≤ _; exact Nat.le_of_eq rfl) (hb hby d7_8) (fun _ _ => ⟨rfl, e1, (by decide : 1 + 0 ≤ _), (by decide : 4 + 0 ≤ _)⟩)
  dsimp only [Pt.U, Pt.locs, Pt.cells, Pt.slots] at X2 l2 y2 z2 st2 hQ2
  rw [l2, y2, z2] at X2
  obtain ⟨rfl, N2q, Kq2, pq2_0, pq2_1, pq2_2, pq2_3⟩ := hQ2
  have N2 := Fr.app N0 N2q
  have E_b1_2 : Exa Z T2.heap b1 "com/example/tapeloom/tapeloom/Option" := E_b1.keep Kq2
  have K_2 : Keep h0 T2.heap [] := K_1.trans Kq2 (allS (Or.inr sz_b1) all0)
  refine own_step (T' := T2) (g' := (mkF m 11 #[.val .null, .val .null, .val (.ref p2)] [(.ref b1)])) (fun t k => st2.trans k) ?_
  refine own_retR X2 hx hlk Bd.returns rfl rfl (hb hby d7_11) (by decide) (by decide) ?_
  exact ⟨b1, rfl, N2, K_2, E_b1_2, pq2_0, pq2_1, pq2_2, pq2_3, g_b1, sz_b1⟩
theorem ef_rm9_0 (m : MethodId) (x0 : Addr) : entryFrame m #[(.ref x0)] 1 = mkF m 0 #[.val (.ref x0)] [] := by first | (simp [entryFrame, mkF, argsToLocals, Value.category]; done) | rfl
def Qrm9_0 (Z : State) (p0 : Addr) (w : Addr) (h0 : Heap) (n0 : Nat) (v : Option Value) (h : Heap) (L : List Loc) : Prop := v = some (.ref w) ∧ Fr n0 L ∧ h = h0
set_option maxRecDepth 65536 in
set_option maxHeartbeats 40000000 in
theorem rm9_0 (l : Launch) (Z : State) (a0 : Array Value) (hw : ∀ d ∈ tables_1, d.before a0 Z = true) (ws : List Jvm.Cond) (p0 : Addr) (w : Addr) (h0 : Heap) (n0 : Nat) (Z0 : n0 ≤ h0.size) (F_shortName_p0 : Fld Z h0 p0 "com/example/tapeloom/tapeloom/Option" "shortName" "Ljava/lang/String;" (.ref w)) :
    MetFree l (⟨"com/example/tapeloom/tapeloom/Option", "shortName", "()Ljava/lang/String;"⟩ : MethodName) (head1 (Jvm.Cond.code (⟨"com/example/tapeloom/tapeloom/Option", "shortName", "()Ljava/lang/String;"⟩ : MethodName) prog_15_method_5_code 1 (some (.object "java/lang/String")) :: ws) ({ frames := 0, cells := 0, slots := 0, locals := 0 } : Room)) (fun a U => a = #[(.ref p0)] ∧ Z.Warmed39 U.vm ∧ U.heap = h0) (fun _ _ _ _ _ => True) (fun _ U o U' => ∃ v L, o = .returned v ∧ Qrm9_0 Z p0 w h0 n0 v U'.heap L ∧ FrameEnd U o U' L ({ frames := 0, cells := 0, slots := 0, locals := 0 } : Room).cells ({ frames := 0, cells := 0, slots := 0, locals := 0 } : Room).slots) := by
  refine MetFree.of_bodySF (plainFor_of_name pn_9) hisR ?_
  intro p e s m args below meth c s₁ Bd hml0 hP hK
  obtain ⟨rfl, hZ, hh⟩ := hP
  have hx := Bd.exec
  have hby := Bd.bytes
  have hlk : meth.locks = false := BodyLoose.notSynchronized Bd
  have hml : c.maxLocals = 1 := hml0
  have hown : s.vm.findClass "com/example/tapeloom/tapeloom/Option" = some m.cls := findClass_of_methodNamed Bd.named
  have hnm := (name_of_methodNamed Bd.named Bd.method).1
  have X0 : Stand p l e ({ frames := 0, cells := 0, slots := 0, locals := 0 } : Room) s m #[(.ref p0)] below meth c s₁ [] 0 0 := Stand.of_body Bd
  have e0 : s₁.heap = h0 := by rw [← hh, Bd.state]; rfl
  have N0 := Fr.nil n0
  have K0 : Keep h0 h0 [] := Keep.refl h0 []
  show own_G p e below s 0 0 (Qrm9_0 Z p0 w h0 n0) s₁ (entryFrame m #[(.ref p0)] 1)
  rw [ef_rm9_0 m p0]
  refine own_step (T' := s₁) (g' := (mkF m 1 #[.val (.ref p0)] [(.ref p0)])) (fun t k => XS.aloadN X0.here hx rfl (hb hby d9_0) rfl rfl k) ?_
  obtain ⟨T1, X1, e1, st1⟩ := getF X0 hx hZ hown (host := "") (Or.inl (hw _ (List.mem_of_getElem? (i := 40) rfl))) Via.refl e0 F_shortName_p0 (g := (mkF m 1 #[.val (.ref p0)] [(.ref p0)])) rfl rfl (hb hby d9_1)
  refine own_step (T' := T1) (g' := (mkF m 4 #[.val (.ref p0)] [(.ref w)])) st1 ?_
  refine own_retR X1 hx hlk Bd.returns rfl rfl (hb hby d9_4) (by decide) (by decide) ?_
  exact ⟨rfl, N0, e1⟩
theorem ef_rm12_0 (m : MethodId) (x0 : Addr) : entryFrame m #[(.ref x0)] 1 = mkF m 0 #[.val (.ref x0)] [] := by first | (simp [entryFrame, mkF, argsToLocals, Value.category]; done) | rfl
def Qrm12_0 (Z : State) (p0 : Addr) (w : Addr) (h0 : Heap) (n0 : Nat) (v : Option Value) (h : Heap) (L : List Loc) : Prop := v = some (.ref w) ∧ Fr n0 L ∧ h = h0
set_option maxRecDepth 65536 in
set_option maxHeartbeats 40000000 in
theorem rm12_0 (l : Launch) (Z : State) (a0 : Array Value) (hw : ∀ d ∈ tables_1, d.before a0 Z = true) (ws : List Jvm.Cond) (p0 : Addr) (w : Addr) (h0 : Heap) (n0 : Nat) (Z0 : n0 ≤ h0.size) (F_longName_p0 : Fld Z h0 p0 "com/example/tapeloom/tapeloom/Option" "longName" "Ljava/lang/String;" (.ref w)) :
    MetFree l (⟨"com/example/tapeloom/tapeloom/Option", "longName", "()Ljava/lang/String;"⟩ : MethodName) (head1 (Jvm.Cond.code (⟨"com/example/tapeloom/tapeloom/Option", "longName", "()Ljava/lang/String;"⟩ : MethodName) prog_15_method_6_code 1 (some (.object "java/lang/String")) :: ws) ({ frames := 0, cells := 0, slots := 0, locals := 0 } : Room)) (fun a U => a = #[(.ref p0)] ∧ Z.Warmed39 U.vm ∧ U.heap = h0) (fun _ _ _ _ _ => True) (fun _ U o U' => ∃ v L, o = .returned v ∧ Qrm12_0 Z p0 w h0 n0 v U'.heap L ∧ FrameEnd U o U' L ({ frames := 0, cells := 0, slots := 0, locals := 0 } : Room).cells ({ frames := 0, cells := 0, slots := 0, locals := 0 } : Room).slots) := by
  refine MetFree.of_bodySF (plainFor_of_name pn_12) hisR ?_
  intro p e s m args below meth c s₁ Bd hml0 hP hK
  obtain ⟨rfl, hZ, hh⟩ := hP
  have hx := Bd.exec
  have hby := Bd.bytes
  have hlk : meth.locks = false := BodyLoose.notSynchronized Bd
  have hml : c.maxLocals = 1 := hml0
  have hown : s.vm.findClass "com/example/tapeloom/tapeloom/Option" = some m.cls := findClass_of_methodNamed Bd.named
  have hnm := (name_of_methodNamed Bd.named Bd.method).1
  have X0 : Stand p l e ({ frames := 0, cells := 0, slots := 0, locals := 0 } : Room) s m #[(.ref p0)] below meth c s₁ [] 0 0 := Stand.of_body Bd
  have e0 : s₁.heap = h0 := by rw [← hh, Bd.state]; rfl
  have N0 := Fr.nil n0
  have K0 : Keep h0 h0 [] := Keep.refl h0 []
  show own_G p e below s 0 0 (Qrm12_0 Z p0 w h0 n0) s₁ (entryFrame m #[(.ref p0)] 1)
  rw [ef_rm12_0 m p0]
  refine own_step (T' := s₁) (g' := (mkF m 1 #[.val (.ref p0)] [(.ref p0)])) (fun t k => XS.aloadN X0.here hx rfl (hb hby d12_0) rfl rfl k) ?_
  obtain ⟨T1, X1, e1, st1⟩ := getF X0 hx hZ hown (host := "") (Or.inl (hw _ (List.mem_of_getElem? (i := 42) rfl))) Via.refl e0 F_longName_p0 (g := (mkF m 1 #[.val (.ref p0)] [(.ref p0)])) rfl rfl (hb hby d12_1)
  refine own_step (T' := T1) (g' := (mkF m 4 #[.val (.ref p0)] [(.ref w)])) st1 ?_
  refine own_retR X1 hx hlk Bd.returns rfl rfl (hb hby d12_4) (by decide) (by decide) ?_
  exact ⟨rfl, N0, e1⟩
theorem ef_rm9_1 (m : MethodId) (x0 : Addr) : entryFrame m #[(.ref x0)] 1 = mkF m 0 #[.val (.ref x0)] [] := by first | (simp [entryFrame, mkF, argsToLocals, Value.category]; done) | rfl
def Qrm9_1 (Z : State) (p0 : Addr) (h0 : Heap) (n0 : Nat) (v : Option Value) (h : Heap) (L : List Loc) : Prop := v = some .null ∧ Fr n0 L ∧ h = h0
set_option maxRecDepth 65536 in
set_option maxHeartbeats 40000000 in
theorem rm9_1 (l : Launch) (Z : State) (a0 : Array Value) (hw : ∀ d ∈ tables_1, d.before a0 Z = true) (ws : List Jvm.Cond) (p0 : Addr) (h0 : Heap) (n0 : Nat) (Z0 : n0 ≤ h0.size) (F_shortName_p0 : Fld Z h0 p0 "com/example/tapeloom/tapeloom/Option" "shortName" "Ljava/lang/String;" .null) :
    MetFree l (⟨"com/example/tapeloom/tapeloom/Option", "shortName", "()Ljava/lang/String;"⟩ : MethodName) (head1 (Jvm.Cond.code (⟨"com/example/tapeloom/tapeloom/Option", "shortName", "()Ljava/lang/String;"⟩ : MethodName) prog_15_method_5_code 1 (some (.object "java/lang/String")) :: ws) ({ frames := 0, cells := 0, slots := 0, locals := 0 } : Room)) (fun a U => a = #[(.ref p0)] ∧ Z.Warmed39 U.vm ∧ U.heap = h0) (fun _ _ _ _ _ => True) (fun _ U o U' => ∃ v L, o = .returned v ∧ Qrm9_1 Z p0 h0 n0 v U'.heap L ∧ FrameEnd U o U' L ({ frames := 0, cells := 0, slots := 0, locals := 0 } : Room).cells ({ frames := 0, cells := 0, slots := 0, locals := 0 } : Room).slots) := by
  refine MetFree.of_bodySF (plainFor_of_name pn_9) hisR ?_
  intro p e s m args below meth c s₁ Bd hml0 hP hK
  obtain ⟨rfl, hZ, hh⟩ := hP
  have hx := Bd.exec
  have hby := Bd.bytes
  have hlk : meth.locks = false := BodyLoose.notSynchronized Bd
  have hml : c.maxLocals = 1 := hml0
  have hown : s.vm.findClass "com/example/tapeloom/tapeloom/Option" = some m.cls := findClass_of_methodNamed Bd.named
  have hnm := (name_of_methodNamed Bd.named Bd.method).1
  have X0 : Stand p l e ({ frames := 0, cells := 0, slots := 0, locals := 0 } : Room) s m #[(.ref p0)] below meth c s₁ [] 0 0 := Stand.of_body Bd
  have e0 : s₁.heap = h0 := by rw [← hh, Bd.state]; rfl
  have N0 := Fr.nil n0
  have K0 : Keep h0 h0 [] := Keep.refl h0 []
  show own_G p e below s 0 0 (Qrm9_1 Z p0 h0 n0) s₁ (entryFrame m #[(.ref p0)] 1)
  rw [ef_rm9_1 m p0]
  refine own_step (T' := s₁) (g' := (mkF m 1 #[.val (.ref p0)] [(.ref p0)])) (fun t k => XS.aloadN X0.here hx rfl (hb hby d9_0) rfl rfl k) ?_
  obtain ⟨T1, X1, e1, st1⟩ := getF X0 hx hZ hown (host := "") (Or.inl (hw _ (List.mem_of_getElem? (i := 40) rfl))) Via.refl e0 F_shortName_p0 (g := (mkF m 1 #[.val (.ref p0)] [(.ref p0)])) rfl rfl (hb hby d9_1)
  refine own_step (T' := T1) (g' := (mkF m 4 #[.val (.ref p0)] [.null])) st1 ?_
  refine own_retR X1 hx hlk Bd.returns rfl rfl (hb hby d9_4) (by decide) (by decide) ?_
  exact ⟨rfl, N0, e1⟩
theorem ef_rm12_1 (m : MethodId) (x0 : Addr) : entryFrame m #[(.ref x0)] 1 = mkF m 0 #[.val (.ref x0)] [] := by first | (simp [entryFrame, mkF, argsToLocals, Value.category]; done) | rfl
def Qrm12_1 (Z : State) (p0 : Addr) (h0 : Heap) (n0 : Nat) (v : Option Value) (h : Heap) (L : List Loc) : Prop := v = some .null ∧ Fr n0 L ∧ h = h0
set_option maxRecDepth 65536 in
set_option maxHeartbeats 40000000 in
theorem rm12_1 (l : Launch) (Z : State) (a0 : Array Value) (hw : ∀ d ∈ tables_1, d.before a0 Z = true) (ws : List Jvm.Cond) (p0 : Addr) (h0 : Heap) (n0 : Nat) (Z0 : n0 ≤ h0.size) (F_longName_p0 : Fld Z h0 p0 "com/example/tapeloom/tapeloom/Option" "longName" "Ljava/lang/String;" .null) :
    MetFree l (⟨"com/example/tapeloom/tapeloom/Option", "longName", "()Ljava/lang/String;"⟩ : MethodName) (head1 (Jvm.Cond.code (⟨"com/example/tapeloom/tapeloom/Option", "longName", "()Ljava/lang/String;"⟩ : MethodName) prog_15_method_6_code 1 (some (.object "java/lang/String")) :: ws) ({ frames := 0, cells := 0, slots := 0, locals := 0 } : Room)) (fun a U => a = #[(.ref p0)] ∧ Z.Warmed39 U.vm ∧ U.heap = h0) (fun _ _ _ _ _ => True) (fun _ U o U' => ∃ v L, o = .returned v ∧ Qrm12_1 Z p0 h0 n0 v U'.heap L ∧ FrameEnd U o U' L ({ frames := 0, cells := 0, slots := 0, locals := 0 } : Room).cells ({ frames := 0, cells := 0, slots := 0, locals := 0 } : Room).slots) := by
  refine MetFree.of_bodySF (plainFor_of_name pn_12) hisR ?_
  intro p e s m args below meth c s₁ Bd hml0 hP hK
  obtain ⟨rfl, hZ, hh⟩ := hP
  have hx := Bd.exec
  have hby := Bd.bytes
  have hlk : meth.locks = false := BodyLoose.notSynchronized Bd
  have hml : c.maxLocals = 1 := hml0
  have hown : s.vm.findClass "com/example/tapeloom/tapeloom/Option" = some m.cls := findClass_of_methodNamed Bd.named
  have hnm := (name_of_methodNamed Bd.named Bd.method).1
  have X0 : Stand p l e ({ frames := 0, cells := 0, slots := 0, locals := 0 } : Room) s m #[(.ref p0)] below meth c s₁ [] 0 0 := Stand.of_body Bd
  have e0 : s₁.heap = h0 := by rw [← hh, Bd.state]; rfl
  have N0 := Fr.nil n0
  have K0 : Keep h0 h0 [] := Keep.refl h0 []
  show own_G p e below s 0 0 (Qrm12_1 Z p0 h0 n0) s₁ (entryFrame m #[(.ref p0)] 1)
  rw [ef_rm12_1 m p0]
  refine own_step (T' := s₁) (g' := (mkF m 1 #[.val (.ref p0)] [(.ref p0)])) (fun t k => XS.aloadN X0.here hx rfl (hb hby d12_0) rfl rfl k) ?_
  obtain ⟨T1, X1, e1, st1⟩ := getF X0 hx hZ hown (host := "") (Or.inl (hw _ (List.mem_of_getElem? (i := 42) rfl))) Via.refl e0 F_longName_p0 (g := (mkF m 1 #[.val (.ref p0)] [(.ref p0)])) rfl rfl (hb hby d12_1)
  refine own_step (T' := T1) (g' := (mkF m 4 #[.val (.ref p0)] [.null])) st1 ?_
  refine own_retR X1 hx hlk Bd.returns rfl rfl (hb hby d12_4) (by decide) (by decide) ?_
  exact ⟨rfl, N0, e1⟩
theorem ef_rm13_0 (m : MethodId) (x0 : Addr) : entryFrame m #[(.ref x0)] 1 = mkF m 0 #[.val (.ref x0)] [] := by first | (simp [entryFrame, mkF, argsToLocals, Value.category]; done) | rfl
def Qrm13_0 (Z : State) (p0 : Addr) (w : Addr) (h0 : Heap) (n0 : Nat) (v : Option Value) (h : Heap) (L : List Loc) : Prop := v = some (.ref w) ∧ Fr n0 L ∧ h = h0
set_option maxRecDepth 65536 in
set_option maxHeartbeats 40000000 in
theorem rm13_0 (l : Launch) (Z : State) (a0 : Array Value) (hw : ∀ d ∈ tables_1, d.before a0 Z = true) (ws : List Jvm.Cond) (p0 : Addr) (w : Addr) (h0 : Heap) (n0 : Nat) (Z0 : n0 ≤ h0.size) (F_description_p0 : Fld Z h0 p0 "com/example/tapeloom/tapeloom/Option" "description" "Ljava/lang/String;" (.ref w)) :
    MetFree l (⟨"com/example/tapeloom/tapeloom/Option", "description", "()Ljava/lang/String;"⟩ : MethodName) (head1 (Jvm.Cond.code (⟨"com/example/tapeloom/tapeloom/Option", "description", "()Ljava/lang/String;"⟩ : MethodName) prog_15_method_8_code 1 (some (.object "java/lang/String")) :: ws) ({ frames := 0, cells := 0, slots := 0, locals := 0 } : Room)) (fun a U => a = #[(.ref p0)] ∧ Z.Warmed39 U.vm ∧ U.heap = h0) (fun _ _ _ _ _ => True) (fun _ U o U' => ∃ v L, o = .returned v ∧ Qrm13_0 Z p0 w h0 n0 v U'.heap L ∧ FrameEnd U o U' L ({ frames := 0, cells := 0, slots := 0, locals := 0 } : Room).cells ({ frames := 0, cells := 0, slots := 0, locals := 0 } : Room).slots) := by
  refine MetFree.of_bodySF (plainFor_of_name pn_13) hisR ?_
  intro p e s m args below meth c s₁ Bd hml0 hP hK
  obtain ⟨rfl, hZ, hh⟩ := hP
  have hx := Bd.exec
  have hby := Bd.bytes
  have hlk : meth.locks = false := BodyLoose.notSynchronized Bd
  have hml : c.maxLocals = 1 := hml0
  have hown : s.vm.findClass "com/example/tapeloom/tapeloom/Option" = some m.cls := findClass_of_methodNamed Bd.named
  have hnm := (name_of_methodNamed Bd.named Bd.method).1
  have X0 : Stand p l e ({ frames := 0, cells := 0, slots := 0, locals := 0 } : Room) s m #[(.ref p0)] below meth c s₁ [] 0 0 := Stand.of_body Bd
  have e0 : s₁.heap = h0 := by rw [← hh, Bd.state]; rfl
  have N0 := Fr.nil n0
  have K0 : Keep h0 h0 [] := Keep.refl h0 []
  show own_G p e below s 0 0 (Qrm13_0 Z p0 w h0 n0) s₁ (entryFrame m #[(.ref p0)] 1)
  rw [ef_rm13_0 m p0]
  refine own_step (T' := s₁) (g' := (mkF m 1 #[.val (.ref p0)] [(.ref p0)])) (fun t k => XS.aloadN X0.here hx rfl (hb hby d13_0) rfl rfl k) ?_
  obtain ⟨T1, X1, e1, st1⟩ := getF X0 hx hZ hown (host := "") (Or.inl (hw _ (List.mem_of_getElem? (i := 46) rfl))) Via.refl e0 F_description_p0 (g := (mkF m 1 #[.val (.ref p0)] [(.ref p0)])) rfl rfl (hb hby d13_1)
  refine own_step (T' := T1) (g' := (mkF m 4 #[.val (.ref p0)] [(.ref w)])) st1 ?_
  refine own_retR X1 hx hlk Bd.returns rfl rfl (hb hby d13_4) (by decide) (by decide) ?_
  exact ⟨rfl, N0, e1⟩
theorem ef_rm14_1 (m : MethodId) (x0 : Addr) : entryFrame m #[(.ref x0)] 1 = mkF m 0 #[.val (.ref x0)] [] := by first | (simp [entryFrame, mkF, argsToLocals, Value.category]; done) | rfl
def Qrm14_1 (Z : State) (p0 : Addr) (h0 : Heap) (n0 : Nat) (v : Option Value) (h : Heap) (L : List Loc) : Prop := v = some .null ∧ Fr n0 L ∧ h = h0
set_option maxRecDepth 65536 in
set_option maxHeartbeats 40000000 in
theorem rm14_1 (l : Launch) (Z : State) (a0 : Array Value) (hw : ∀ d ∈ tables_1, d.before a0 Z = true) (ws : List Jvm.Cond) (p0 : Addr) (h0 : Heap) (n0 : Nat) (Z0 : n0 ≤ h0.size) (F_label_p0 : Fld Z h0 p0 "com/example/tapeloom/tapeloom/Option" "label" "Ljava/lang/String;" .null) :
    MetFree l (⟨"com/example/tapeloom/tapeloom/Option", "label", "()Ljava/lang/String;"⟩ : MethodName) (head1 (Jvm.Cond.code (⟨"com/example/tapeloom/tapeloom/Option", "label", "()Ljava/lang/String;"⟩ : MethodName) prog_15_method_7_code 1 (some (.object "java/lang/String")) :: ws) ({ frames := 0, cells := 0, slots := 0, locals := 0 } : Room)) (fun a U => a = #[(.ref p0)] ∧ Z.Warmed39 U.vm ∧ U.heap = h0) (fun _ _ _ _ _ => True) (fun _ U o U' => ∃ v L, o = .returned v ∧ Qrm14_1 Z p0 h0 n0 v U'.heap L ∧ FrameEnd U o U' L ({ frames := 0, cells := 0, slots := 0, locals := 0 } : Room).cells ({ frames := 0, cells := 0, slots := 0, locals := 0 } : Room).slots) := by
  refine MetFree.of_bodySF (plainFor_of_name pn_14) hisR ?_
  intro p e s m args below meth c s₁ Bd hml0 hP hK
  obtain ⟨rfl, hZ, hh⟩ := hP
  have hx := Bd.exec
  have hby := Bd.bytes
  have hlk : meth.locks = false := BodyLoose.notSynchronized Bd
  have hml : c.maxLocals = 1 := hml0
  have hown : s.vm.findClass "com/example/tapeloom/tapeloom/Option" = some m.cls := findClass_of_methodNamed Bd.named
  have hnm := (name_of_methodNamed Bd.named Bd.method).1
  have X0 : Stand p l e ({ frames := 0, cells := 0, slots := 0, locals := 0 } : Room) s m #[(.ref p0)] below meth c s₁ [] 0 0 := Stand.of_body Bd
  have e0 : s₁.heap = h0 := by rw [← hh, Bd.state]; rfl
  have N0 := Fr.nil n0
  have K0 : Keep h0 h0 [] := Keep.refl h0 []
  show own_G p e below s 0 0 (Qrm14_1 Z p0 h0 n0) s₁ (entryFrame m #[(.ref p0)] 1)
  rw [ef_rm14_1 m p0]
  refine own_step (T' := s₁) (g' := (mkF m 1 #[.val (.ref p0)] [(.ref p0)])) (fun t k => XS.aloadN X0.here hx rfl (hb hby d14_0) rfl rfl k) ?_
  obtain ⟨T1, X1, e1, st1⟩ := getF X0 hx hZ hown (host := "") (Or.inl (hw _ (List.mem_of_getElem? (i := 44) rfl))) Via.refl e0 F_label_p0 (g := (mkF m 1 #[.val (.ref p0)] [(.ref p0)])) rfl rfl (hb hby d14_1)
  refine own_step (T' := T1) (g' := (mkF m 4 #[.val (.ref p0)] [.null])) st1 ?_
  refine own_retR X1 hx hlk Bd.returns rfl rfl (hb hby d14_4) (by decide) (by decide) ?_
  exact ⟨rfl, N0, e1⟩
theorem ef_rm15 (m : MethodId) (x0 : Addr) : entryFrame m #[(.ref x0)] 1 = mkF m 0 #[.val (.ref x0)] [] := by first | (simp [entryFrame, mkF, argsToLocals, Value.category]; done) | rfl
def Qrm15 (Z : State) (p0 : Addr) (h0 : Heap) (n0 : Nat) (v : Option Value) (h : Heap) (L : List Loc) : Prop := v = some (.int (0 : Int32)) ∧ Fr n0 L ∧ h = h0
set_option maxRecDepth 65536 in
set_option maxHeartbeats 40000000 in
theorem rm15 (l : Launch) (Z : State) (a0 : Array Value) (hw : ∀ d ∈ tables_1, d.before a0 Z = true) (ws : List Jvm.Cond) (p0 : Addr) (h0 : Heap) (n0 : Nat) (Z0 : n0 ≤ h0.size) (F_label_p0 : Fld Z h0 p0 "com/example/tapeloom/tapeloom/Option" "label" "Ljava/lang/String;" .null) :
    MetFree l (⟨"com/example/tapeloom/tapeloom/Option", "takesValue", "()Z"⟩ : MethodName) (head1 (Jvm.Cond.code (⟨"com/example/tapeloom/tapeloom/Option", "takesValue", "()Z"⟩ : MethodName) prog_15_method_9_code 1 (some .boolean) :: ws) ({ frames := 0, cells := 0, slots := 0, locals := 0 } : Room)) (fun a U => a = #[(.ref p0)] ∧ Z.Warmed39 U.vm ∧ U.heap = h0) (fun _ _ _ _ _ => True) (fun _ U o U' => ∃ v L, o = .returned v ∧ Qrm15 Z p0 h0 n0 v U'.heap L ∧ FrameEnd U o U' L ({ frames := 0, cells := 0, slots := 0, locals := 0 } : Room).cells ({ frames := 0, cells := 0, slots := 0, locals := 0 } : Room).slots) := by
  refine MetFree.of_bodySF (plainFor_of_name pn_15) hisR ?_
  intro p e s m args below meth c s₁ Bd hml0 hP hK
  obtain ⟨rfl, hZ, hh⟩ := hP
  have hx := Bd.exec
  have hby := Bd.bytes
  have hlk : meth.locks = false := BodyLoose.notSynchronized Bd
  have hml : c.maxLocals = 1 := hml0
  have hown : s.vm.findClass "com/example/tapeloom/tapeloom/Option" = some m.cls := findClass_of_methodNamed Bd.named
  have hnm := (name_of_methodNamed Bd.named Bd.method).1
  have X0 : Stand p l e ({ frames := 0, cells := 0, slots := 0, locals := 0 } : Room) s m #[(.ref p0)] below meth c s₁ [] 0 0 := Stand.of_body Bd
  have e0 : s₁.heap = h0 := by rw [← hh, Bd.state]; rfl
  have N0 := Fr.nil n0
  have K0 : Keep h0 h0 [] := Keep.refl h0 []
  show own_G p e below s 0 0 (Qrm15 Z p0 h0 n0) s₁ (entryFrame m #[(.ref p0)] 1)
  rw [ef_rm15 m p0]
  refine own_step (T' := s₁) (g' := (mkF m 1 #[.val (.ref p0)] [(.ref p0)])) (fun t k => XS.aloadN X0.here hx rfl (hb hby d15_0) rfl rfl k) ?_
  obtain ⟨T1, X1, e1, st1⟩ := getF X0 hx hZ hown (host := "") (Or.inl (hw _ (List.mem_of_getElem? (i := 44) rfl))) Via.refl e0 F_label_p0 (g := (mkF m 1 #[.val (.ref p0)] [(.ref p0)])) rfl rfl (hb hby d15_1)
  refine own_step (T' := T1) (g' := (mkF m 4 #[.val (.ref p0)] [.null])) st1 ?_
  refine own_step (T' := T1) (g' := (mkF m 11 #[.val (.ref p0)] [])) (fun t k => XS.ifnullYes X1.here hx rfl (pc0 := 4) (pc' := 11) rfl (hb hby d15_4) rfl (by decide) (by decide) k) ?_
  refine own_step (T' := T1) (g' := (mkF m 12 #[.val (.ref p0)] [(.int (0 : Int32))])) (fun t k => XS.iconst X1.here hx rfl (hb hby d15_11) k) ?_
  refine own_retN X1 hx hlk (t := .boolean) (w := (0 : Int32)) Bd.returns (by simp) (hb hby d15_12) rfl (by decide) (by decide) ?_
  exact ⟨rfl, N0, e1⟩
theorem ef_rm16_00 (m : MethodId) (x0 : Addr) : entryFrame m #[(.ref x0)] 1 = mkF m 0 #[.val (.ref x0)] [] := by first | (simp [entryFrame, mkF, argsToLocals, Value.category]; done) | rfl
def Qrm16_00 (Z : State) (p0 : Addr) (w1 : Addr) (w2 : Addr) (h0 : Heap) (n0 : Nat) (v : Option Value) (h : Heap) (L : List Loc) : Prop := v = some (.int (0 : Int32)) ∧ Fr n0 L ∧ h = h0
set_option maxRecDepth 65536 in
set_option maxHeartbeats 40000000 in
theorem rm16_00 (l : Launch) (Z : State) (a0 : Array Value) (hw : ∀ d ∈ tables_1, d.before a0 Z = true) (ws : List Jvm.Cond) (p0 : Addr) (w1 : Addr) (w2 : Addr) (h0 : Heap) (n0 : Nat) (Z0 : n0 ≤ h0.size) (F_shortName_p0 : Fld Z h0 p0 "com/example/tapeloom/tapeloom/Option" "shortName" "Ljava/lang/String;" (.ref w1)) (F_longName_p0 : Fld Z h0 p0 "com/example/tapeloom/tapeloom/Option" "longName" "Ljava/lang/String;" (.ref w2)) :
    MetFree l (⟨"com/example/tapeloom/tapeloom/Option", "isParameter", "()Z"⟩ : MethodName) (head1 (Jvm.Cond.code (⟨"com/example/tapeloom/tapeloom/Option", "isParameter", "()Z"⟩ : MethodName) prog_15_method_10_code 1 (some .boolean) :: ws) ({ frames := 0, cells := 0, slots := 0, locals := 0 } : Room)) (fun a U => a = #[(.ref p0)] ∧ Z.Warmed39 U.vm ∧ U.heap = h0) (fun _ _ _ _ _ => True) (fun _ U o U' => ∃ v L, o = .returned v ∧ Qrm16_00 Z p0 w1 w2 h0 n0 v U'.heap L ∧ FrameEnd U o U' L ({ frames := 0, cells := 0, slots := 0, locals := 0 } : Room).cells ({ frames := 0, cells := 0, slots := 0, locals := 0 } : Room).slots) := by
  refine MetFree.of_bodySF (plainFor_of_name pn_16) hisR ?_
  intro p e s m args below meth c s₁ Bd hml0 hP hK
  obtain ⟨rfl, hZ, hh⟩ := hP
  have hx := Bd.exec
  have hby := Bd.bytes
  have hlk : meth.locks = false := BodyLoose.notSynchronized Bd
  have hml : c.maxLocals = 1 := hml0
  have hown : s.vm.findClass "com/example/tapeloom/tapeloom/Option" = some m.cls := findClass_of_methodNamed Bd.named
  have hnm := (name_of_methodNamed Bd.named Bd.method).1
  have X0 : Stand p l e ({ frames := 0, cells := 0, slots := 0, locals := 0 } : Room) s m #[(.ref p0)] below meth c s₁ [] 0 0 := Stand.of_body Bd
  have e0 : s₁.heap = h0 := by rw [← hh, Bd.state]; rfl
  have N0 := Fr.nil n0
  have K0 : Keep h0 h0 [] := Keep.refl h0 []
  show own_G p e below s 0 0 (Qrm16_00 Z p0 w1 w2 h0 n0) s₁ (entryFrame m #[(.ref p0)] 1)
  rw [ef_rm16_00 m p0]
  refine own_step (T' := s₁) (g' := (mkF m 1 #[.val (.ref p0)] [(.ref p0)])) (fun t k => XS.aloadN X0.here hx rfl (hb hby d16_0) rfl rfl k) ?_
  obtain ⟨T1, X1, e1, st1⟩ := getF X0 hx hZ hown (host := "") (Or.inl (hw _ (List.mem_of_getElem? (i := 40) rfl))) Via.refl e0 F_shortName_p0 (g := (mkF m 1 #[.val (.ref p0)] [(.ref p0)])) rfl rfl (hb hby d16_1)
  refine own_step (T' := T1) (g' := (mkF m 4 #[.val (.ref p0)] [(.ref w1)])) st1 ?_
  refine own_step (T' := T1) (g' := (mkF m 18 #[.val (.ref p0)] [])) (fun t k => XS.ifnonnullYes X1.here hx rfl (pc0 := 4) (pc' := 18) rfl (hb hby d16_4) rfl (by decide) (by decide) k) ?_
  refine own_step (T' := T1) (g' := (mkF m 19 #[.val (.ref p0)] [(.int (0 : Int32))])) (fun t k => XS.iconst X1.here hx rfl (hb hby d16_18) k) ?_
  refine own_retN X1 hx hlk (t := .boolean) (w := (0 : Int32)) Bd.returns (by simp) (hb hby d16_19) rfl (by decide) (by decide) ?_
  exact ⟨rfl, N0, e1⟩
theorem ef_rm17_00 (m : MethodId) (x0 : Addr) : entryFrame m #[(.ref x0)] 1 = mkF m 0 #[.val (.ref x0)] [] := by first | (simp [entryFrame, mkF, argsToLocals, Value.category]; done) | rfl
def Qrm17_00 (Z : State) (p0 : Addr) (w1 : Addr) (w2 : Addr) (h0 : Heap) (n0 : Nat) (v : Option Value) (h : Heap) (L : List Loc) : Prop := v = some (.ref w2) ∧ Fr n0 L ∧ h = h0
set_option maxRecDepth 65536 in
set_option maxHeartbeats 40000000 in
theorem rm17_00 (l : Launch) (Z : State) (a0 : Array Value) (hw : ∀ d ∈ tables_1, d.before a0 Z = true) (ws : List Jvm.Cond) (p0 : Addr) (w1 : Addr) (w2 : Addr) (h0 : Heap) (n0 : Nat) (Z0 : n0 ≤ h0.size) (F_shortName_p0 : Fld Z h0 p0 "com/example/tapeloom/tapeloom/Option" "shortName" "Ljava/lang/String;" (.ref w1)) (F_longName_p0 : Fld Z h0 p0 "com/example/tapeloom/tapeloom/Option" "longName" "Ljava/lang/String;" (.ref w2)) :
    MetFree l (⟨"com/example/tapeloom/tapeloom/Option", "name", "()Ljava/lang/String;"⟩ : MethodName) (head1 (Jvm.Cond.code (⟨"com/example/tapeloom/tapeloom/Option", "name", "()Ljava/lang/String;"⟩ : MethodName) prog_15_method_11_code 1 (some (.object "java/lang/String")) :: ws) ({ frames := 0, cells := 0, slots := 0, locals := 0 } : Room)) (fun a U => a = #[(.ref p0)] ∧ Z.Warmed39 U.vm ∧ U.heap = h0) (fun _ _ _ _ _ => True) (fun _ U o U' => ∃ v L, o = .returned v ∧ Qrm17_00 Z p0 w1 w2 h0 n0 v U'.heap L ∧ FrameEnd U o U' L ({ frames := 0, cells := 0, slots := 0, locals := 0 } : Room).cells ({ frames := 0, cells := 0, slots := 0, locals := 0 } : Room).slots) := by
  refine MetFree.of_bodySF (plainFor_of_name pn_17) hisR ?_
  intro p e s m args below meth c s₁ Bd hml0 hP hK
  obtain ⟨rfl, hZ, hh⟩ := hP
  have hx := Bd.exec
  have hby := Bd.bytes
  have hlk : meth.locks = false := BodyLoose.notSynchronized Bd
  have hml : c.maxLocals = 1 := hml0
  have hown : s.vm.findClass "com/example/tapeloom/tapeloom/Option" = some m.cls := findClass_of_methodNamed Bd.named
  have hnm := (name_of_methodNamed Bd.named Bd.method).1
  have X0 : Stand p l e ({ frames := 0, cells := 0, slots := 0, locals := 0 } : Room) s m #[(.ref p0)] below meth c s₁ [] 0 0 := Stand.of_body Bd
  have e0 : s₁.heap = h0 := by rw [← hh, Bd.state]; rfl
  have N0 := Fr.nil n0
  have K0 : Keep h0 h0 [] := Keep.refl h0 []
  show own_G p e below s 0 0 (Qrm17_00 Z p0 w1 w2 h0 n0) s₁ (entryFrame m #[(.ref p0)] 1)
  rw [ef_rm17_00 m p0]
  refine own_step (T' := s₁) (g' := (mkF m 1 #[.val (.ref p0)] [(.ref p0)])) (fun t k => XS.aloadN X0.here hx rfl (hb hby d17_0) rfl rfl k) ?_
  obtain ⟨T1, X1, e1, st1⟩ := getF X0 hx hZ hown (host := "") (Or.inl (hw _ (List.mem_of_getElem? (i := 42) rfl))) Via.refl e0 F_longName_p0 (g := (mkF m 1 #[.val (.ref p0)] [(.ref p0)])) rfl rfl (hb hby d17_1)
  refine own_step (T' := T1) (g' := (mkF m 4 #[.val (.ref p0)] [(.ref w2)])) st1 ?_
  refine own_step (T' := T1) (g' := (mkF m 14 #[.val (.ref p0)] [])) (fun t k => XS.ifnonnullYes X1.here hx rfl (pc0 := 4) (pc' := 14) rfl (hb hby d17_4) rfl (by decide) (by decide) k) ?_
  refine own_step (T' := T1) (g' := (mkF m 15 #[.val (.ref p0)] [(.ref p0)])) (fun t k => XS.aloadN X1.here hx rfl (hb hby d17_14) rfl rfl k) ?_
  obtain ⟨T2, X2, e2, st2⟩ := getF X1 hx hZ hown (host := "") (Or.inl (hw _ (List.mem_of_getElem? (i := 42) rfl))) Via.refl e1 F_longName_p0 (g := (mkF m 15 #[.val (.ref p0)] [(.ref p0)])) rfl rfl (hb hby d17_15)
  refine own_step (T' := T2) (g' := (mkF m 18 #[.val (.ref p0)] [(.ref w2)])) st2 ?_
  refine own_retR X2 hx hlk Bd.returns rfl rfl (hb hby d17_18) (by decide) (by decide) ?_
  exact ⟨rfl, N0, e2⟩
theorem ef_rm16_01 (m : MethodId) (x0 : Addr) : entryFrame m #[(.ref x0)] 1 = mkF m 0 #[.val (.ref x0)] [] := by first | (simp [entryFrame, mkF, argsToLocals, Value.category]; done) | rfl
def Qrm16_01 (Z : State) (p0 : Addr) (w1 : Addr) (h0 : Heap) (n0 : Nat) (v : Option Value) (h : Heap) (L : List Loc) : Prop := v = some (.int (0 : Int32)) ∧ Fr n0 L ∧ h = h0
set_option maxRecDepth 65536 in
set_option maxHeartbeats 40000000 in
theorem rm16_01 (l : Launch) (Z : State) (a0 : Array Value) (hw : ∀ d ∈ tables_1, d.before a0 Z = true) (ws : List Jvm.Cond) (p0 : Addr) (w1 : Addr) (h0 : Heap) (n0 : Nat) (Z0 : n0 ≤ h0.size) (F_shortName_p0 : Fld Z h0 p0 "com/example/tapeloom/tapeloom/Option" "shortName" "Ljava/lang/String;" (.ref w1)) (F_longName_p0 : Fld Z h0 p0 "com/example/tapeloom/tapeloom/Option" "longName" "Ljava/lang/String;" .null) :
    MetFree l (⟨"com/example/tapeloom/tapeloom/Option", "isParameter", "()Z"⟩ : MethodName) (head1 (Jvm.Cond.code (⟨"com/example/tapeloom/tapeloom/Option", "isParameter", "()Z"⟩ : MethodName) prog_15_method_10_code 1 (some .boolean) :: ws) ({ frames := 0, cells := 0, slots := 0, locals := 0 } : Room)) (fun a U => a = #[(.ref p0)] ∧ Z.Warmed39 U.vm ∧ U.heap = h0) (fun _ _ _ _ _ => True) (fun _ U o U' => ∃ v L, o = .returned v ∧ Qrm16_01 Z p0 w1 h0 n0 v U'.heap L ∧ FrameEnd U o U' L ({ frames := 0, cells := 0, slots := 0, locals := 0 } : Room).cells ({ frames := 0, cells := 0, slots := 0, locals := 0 } : Room).slots) := by
  refine MetFree.of_bodySF (plainFor_of_name pn_16) hisR ?_
  intro p e s m args below meth c s₁ Bd hml0 hP hK
  obtain ⟨rfl, hZ, hh⟩ := hP
  have hx := Bd.exec
  have hby := Bd.bytes
  have hlk : meth.locks = false := BodyLoose.notSynchronized Bd
  have hml : c.maxLocals = 1 := hml0
  have hown : s.vm.findClass "com/example/tapeloom/tapeloom/Option" = some m.cls := findClass_of_methodNamed Bd.named
  have hnm := (name_of_methodNamed Bd.named Bd.method).1
  have X0 : Stand p l e ({ frames := 0, cells := 0, slots := 0, locals := 0 } : Room) s m #[(.ref p0)] below meth c s₁ [] 0 0 := Stand.of_body Bd
  have e0 : s₁.heap = h0 := by rw [← hh, Bd.state]; rfl
  have N0 := Fr.nil n0
  have K0 : Keep h0 h0 [] := Keep.refl h0 []
  show own_G p e below s 0 0 (Qrm16_01 Z p0 w1 h0 n0) s₁ (entryFrame m #[(.ref p0)] 1)
  rw [ef_rm16_01 m p0]
  refine own_step (T' := s₁) (g' := (mkF m 1 #[.val (.ref p0)] [(.ref p0)])) (fun t k => XS.aloadN X0.here hx rfl (hb hby d16_0) rfl rfl k) ?_
  obtain ⟨T1, X1, e1, st1⟩ := getF X0 hx hZ hown (host := "") (Or.inl (hw _ (List.mem_of_getElem? (i := 40) rfl))) Via.refl e0 F_shortName_p0 (g := (mkF m 1 #[.val (.ref p0)] [(.ref p0)])) rfl rfl (hb hby d16_1)
  refine own_step (T' := T1) (g' := (mkF m 4 #[.val (.ref p0)] [(.ref w1)])) st1 ?_
  refine own_step (T' := T1) (g' := (mkF m 18 #[.val (.ref p0)] [])) (fun t k => XS.ifnonnullYes X1.here hx rfl (pc0 := 4) (pc' := 18) rfl (hb hby d16_4) rfl (by decide) (by decide) k) ?_
  refine own_step (T' := T1) (g' := (mkF m 19 #[.val (.ref p0)] [(.int (0 : Int32))])) (fun t k => XS.iconst X1.here hx rfl (hb hby d16_18) k) ?_
  refine own_retN X1 hx hlk (t := .boolean) (w := (0 : Int32)) Bd.returns (by simp) (hb hby d16_19) rfl (by decide) (by decide) ?_
  exact ⟨rfl, N0, e1⟩
theorem ef_rm17_01 (m : MethodId) (x0 : Addr) : entryFrame m #[(.ref x0)] 1 = mkF m 0 #[.val (.ref x0)] [] := by first | (simp [entryFrame, mkF, argsToLocals, Value.category]; done) | rfl
def Qrm17_01 (Z : State) (p0 : Addr) (w1 : Addr) (h0 : Heap) (n0 : Nat) (v : Option Value) (h : Heap) (L : List Loc) : Prop := v = some (.ref w1) ∧ Fr n0 L ∧ h = h0
set_option maxRecDepth 65536 in
set_option maxHeartbeats 40000000 in
theorem rm17_01 (l : Launch) (Z : State) (a0 : Array Value) (hw : ∀ d ∈ tables_1, d.before a0 Z = true) (ws : List Jvm.Cond) (p0 : Addr) (w1 : Addr) (h0 : Heap) (n0 : Nat) (Z0 : n0 ≤ h0.size) (F_shortName_p0 : Fld Z h0 p0 "com/example/tapeloom/tapeloom/Option" "shortName" "Ljava/lang/String;" (.ref w1)) (F_longName_p0 : Fld Z h0 p0 "com/example/tapeloom/tapeloom/Option" "longName" "Ljava/lang/String;" .null) :
    MetFree l (⟨"com/example/tapeloom/tapeloom/Option", "name", "()Ljava/lang/String;"⟩ : MethodName) (head1 (Jvm.Cond.code (⟨"com/example/tapeloom/tapeloom/Option", "name", "()Ljava/lang/String;"⟩ : MethodName) prog_15_method_11_code 1 (some (.object "java/lang/String")) :: ws) ({ frames := 0, cells := 0, slots := 0, locals := 0 } : Room)) (fun a U => a = #[(.ref p0)] ∧ Z.Warmed39 U.vm ∧ U.heap = h0) (fun _ _ _ _ _ => True) (fun _ U o U' => ∃ v L, o = .returned v ∧ Qrm17_01 Z p0 w1 h0 n0 v U'.heap L ∧ FrameEnd U o U' L ({ frames := 0, cells := 0, slots := 0, locals := 0 } : Room).cells ({ frames := 0, cells := 0, slots := 0, locals := 0 } : Room).slots) := by
  refine MetFree.of_bodySF (plainFor_of_name pn_17) hisR ?_
  intro p e s m args below meth c s₁ Bd hml0 hP hK
  obtain ⟨rfl, hZ, hh⟩ := hP
  have hx := Bd.exec
  have hby := Bd.bytes
  have hlk : meth.locks = false := BodyLoose.notSynchronized Bd
  have hml : c.maxLocals = 1 := hml0
  have hown : s.vm.findClass "com/example/tapeloom/tapeloom/Option" = some m.cls := findClass_of_methodNamed Bd.named
  have hnm := (name_of_methodNamed Bd.named Bd.method).1
  have X0 : Stand p l e ({ frames := 0, cells := 0, slots := 0, locals := 0 } : Room) s m #[(.ref p0)] below meth c s₁ [] 0 0 := Stand.of_body Bd
  have e0 : s₁.heap = h0 := by rw [← hh, Bd.state]; rfl
  have N0 := Fr.nil n0
  have K0 : Keep h0 h0 [] := Keep.refl h0 []
  show own_G p e below s 0 0 (Qrm17_01 Z p0 w1 h0 n0) s₁ (entryFrame m #[(.ref p0)] 1)
  rw [ef_rm17_01 m p0]
  refine own_step (T' := s₁) (g' := (mkF m 1 #[.val (.ref p0)] [(.ref p0)])) (fun t k => XS.aloadN X0.here hx rfl (hb hby d17_0) rfl rfl k) ?_
  obtain ⟨T1, X1, e1, st1⟩ := getF X0 hx hZ hown (host := "") (Or.inl (hw _ (List.mem_of_getElem? (i := 42) rfl))) Via.refl e0 F_longName_p0 (g := (mkF m 1 #[.val (.ref p0)] [(.ref p0)])) rfl rfl (hb hby d17_1)
  refine own_step (T' := T1) (g' := (mkF m 4 #[.val (.ref p0)] [.null])) st1 ?_
  refine own_step (T' := T1) (g' := (mkF m 7 #[.val (.ref p0)] [])) (fun t k => XS.ifnonnullNo X1.here hx rfl (hb hby d17_4) rfl k) ?_
  refine own_step (T' := T1) (g' := (mkF m 8 #[.val (.ref p0)] [(.ref p0)])) (fun t k => XS.aloadN X1.here hx rfl (hb hby d17_7) rfl rfl k) ?_
  obtain ⟨T2, X2, e2, st2⟩ := getF X1 hx hZ hown (host := "") (Or.inl (hw _ (List.mem_of_getElem? (i := 40) rfl))) Via.refl e1 F_shortName_p0 (g := (mkF m 8 #[.val (.ref p0)] [(.ref p0)])) rfl rfl (hb hby d17_8)
  refine own_step (T' := T2) (g' := (mkF m 11 #[.val (.ref p0)] [(.ref w1)])) st2 ?_
  refine own_step (T' := T2) (g' := (mkF m 18 #[.val (.ref p0)] [(.ref w1)])) (fun t k => XS.goto X2.here hx rfl (pc0 := 11) (pc' := 18) rfl (hb hby d17_11) (by decide) (by decide) k) ?_
  refine own_retR X2 hx hlk Bd.returns rfl rfl (hb hby d17_18) (by decide) (by decide) ?_
  exact ⟨rfl, N0, e2⟩
theorem ef_rm16_10 (m : MethodId) (x0 : Addr) : entryFrame m #[(.ref x0)] 1 = mkF m 0 #[.val (.ref x0)] [] := by first | (simp [entryFrame, mkF, argsToLocals, Value.category]; done) | rfl
def Qrm16_10 (Z : State) (p0 : Addr) (w2 : Addr) (h0 : Heap) (n0 : Nat) (v : Option Value) (h : Heap) (L : List Loc) : Prop := v = some (.int (0 : Int32)) ∧ Fr n0 L ∧ h = h0
set_option maxRecDepth 65536 in
set_option maxHeartbeats 40000000 in
theorem rm16_10 (l : Launch) (Z : State) (a0 : Array Value) (hw : ∀ d ∈ tables_1, d.before a0 Z = true) (ws : List Jvm.Cond) (p0 : Addr) (w2 : Addr) (h0 : Heap) (n0 : Nat) (Z0 : n0 ≤ h0.size) (F_shortName_p0 : Fld Z h0 p0 "com/example/tapeloom/tapeloom/Option" "shortName" "Ljava/lang/String;" .null) (F_longName_p0 : Fld Z h0 p0 "com/example/tapeloom/tapeloom/Option" "longName" "Ljava/lang/String;" (.ref w2)) :
    MetFree l (⟨"com/example/tapeloom/tapeloom/Option", "isParameter", "()Z"⟩ : MethodName) (head1 (Jvm.Cond.code (⟨"com/example/tapeloom/tapeloom/Option", "isParameter", "()Z"⟩ : MethodName) prog_15_method_10_code 1 (some .boolean) :: ws) ({ frames := 0, cells := 0, slots := 0, locals := 0 } : Room)) (fun a U => a = #[(.ref p0)] ∧ Z.Warmed39 U.vm ∧ U.heap = h0) (fun _ _ _ _ _ => True) (fun _ U o U' => ∃ v L, o = .returned v ∧ Qrm16_10 Z p0 w2 h0 n0 v U'.heap L ∧ FrameEnd U o U' L ({ frames := 0, cells := 0, slots := 0, locals := 0 } : Room).cells ({ frames := 0, cells := 0, slots := 0, locals := 0 } : Room).slots) := by
  refine MetFree.of_bodySF (plainFor_of_name pn_16) hisR ?_
  intro p e s m args below meth c s₁ Bd hml0 hP hK
  obtain ⟨rfl, hZ, hh⟩ := hP
  have hx := Bd.exec
  have hby := Bd.bytes
  have hlk : meth.locks = false := BodyLoose.notSynchronized Bd
  have hml : c.maxLocals = 1 := hml0
  have hown : s.vm.findClass "com/example/tapeloom/tapeloom/Option" = some m.cls := findClass_of_methodNamed Bd.named
  have hnm := (name_of_methodNamed Bd.named Bd.method).1
  have X0 : Stand p l e ({ frames := 0, cells := 0, slots := 0, locals := 0 } : Room) s m #[(.ref p0)] below meth c s₁ [] 0 0 := Stand.of_body Bd
  have e0 : s₁.heap = h0 := by rw [← hh, Bd.state]; rfl
  have N0 := Fr.nil n0
  have K0 : Keep h0 h0 [] := Keep.refl h0 []
  show own_G p e below s 0 0 (Qrm16_10 Z p0 w2 h0 n0) s₁ (entryFrame m #[(.ref p0)] 1)
  rw [ef_rm16_10 m p0]
  refine own_step (T' := s₁) (g' := (mkF m 1 #[.val (.ref p0)] [(.ref p0)])) (fun t k => XS.aloadN X0.here hx rfl (hb hby d16_0) rfl rfl k) ?_
  obtain ⟨T1, X1, e1, st1⟩ := getF X0 hx hZ hown (host := "") (Or.inl (hw _ (List.mem_of_getElem? (i := 40) rfl))) Via.refl e0 F_shortName_p0 (g := (mkF m 1 #[.val (.ref p0)] [(.ref p0)])) rfl rfl (hb hby d16_1)
  refine own_step (T' := T1) (g' := (mkF m 4 #[.val (.ref p0)] [.null])) st1 ?_
  refine own_step (T' := T1) (g' := (mkF m 7 #[.val (.ref p0)] [])) (fun t k => XS.ifnonnullNo X1.here hx rfl (hb hby d16_4) rfl k) ?_
  refine own_step (T' := T1) (g' := (mkF m 8 #[.val (.ref p0)] [(.ref p0)])) (fun t k => XS.aloadN X1.here hx rfl (hb hby d16_7) rfl rfl k) ?_
  obtain ⟨T2, X2, e2, st2⟩ := getF X1 hx hZ hown (host := "") (Or.inl (hw _ (List.mem_of_getElem? (i := 42) rfl))) Via.refl e1 F_longName_p0 (g := (mkF m 8 #[.val (.ref p0)] [(.ref p0)])) rfl rfl (hb hby d16_8)
  refine own_step (T' := T2) (g' := (mkF m 11 #[.val (.ref p0)] [(.ref w2)])) st2 ?_
  refine own_step (T' := T2) (g' := (mkF m 18 #[.val (.ref p0)] [])) (fun t k => XS.ifnonnullYes X2.here hx rfl (pc0 := 11) (pc' := 18) rfl (hb hby d16_11) rfl (by decide) (by decide) k) ?_
  refine own_step (T' := T2) (g' := (mkF m 19 #[.val (.ref p0)] [(.int (0 : Int32))])) (fun t k => XS.iconst X2.here hx rfl (hb hby d16_18) k) ?_
  refine own_retN X2 hx hlk (t := .boolean) (w := (0 : Int32)) Bd.returns (by simp) (hb hby d16_19) rfl (by decide) (by decide) ?_
  exact ⟨rfl, N0, e2⟩
theorem ef_rm17_10 (m : MethodId) (x0 : Addr) : entryFrame m #[(.ref x0)] 1 = mkF m 0 #[.val (.ref x0)] [] := by first | (simp [entryFrame, mkF, argsToLocals, Value.category]; done) | rfl
def Qrm17_10 (Z : State) (p0 : Addr) (w2 : Addr) (h0 : Heap) (n0 : Nat) (v : Option Value) (h : Heap) (L : List Loc) : Prop := v = some (.ref w2) ∧ Fr n0 L ∧ h = h0
set_option maxRecDepth 65536 in
set_option maxHeartbeats 40000000 in
theorem rm17_10 (l : Launch) (Z : State) (a0 : Array Value) (hw : ∀ d ∈ tables_1, d.before a0 Z = true) (ws : List Jvm.Cond) (p0 : Addr) (w2 : Addr) (h0 : Heap) (n0 : Nat) (Z0 : n0 ≤ h0.size) (F_shortName_p0 : Fld Z h0 p0 "com/example/tapeloom/tapeloom/Option" "shortName" "Ljava/lang/String;" .null) (F_longName_p0 : Fld Z h0 p0 "com/example/tapeloom/tapeloom/Option" "longName" "Ljava/lang/String;" (.ref w2)) :
    MetFree l (⟨"com/example/tapeloom/tapeloom/Option", "name", "()Ljava/lang/String;"⟩ : MethodName) (head1 (Jvm.Cond.code (⟨"com/example/tapeloom/tapeloom/Option", "name", "()Ljava/lang/String;"⟩ : MethodName) prog_15_method_11_code 1 (some (.object "java/lang/String")) :: ws) ({ frames := 0, cells := 0, slots := 0, locals := 0 } : Room)) (fun a U => a = #[(.ref p0)] ∧ Z.Warmed39 U.vm ∧ U.heap = h0) (fun _ _ _ _ _ => True) (fun _ U o U' => ∃ v L, o = .returned v ∧ Qrm17_10 Z p0 w2 h0 n0 v U'.heap L ∧ FrameEnd U o U' L ({ frames := 0, cells := 0, slots := 0, locals := 0 } : Room).cells ({ frames := 0, cells := 0, slots := 0, locals := 0 } : Room).slots) := by
  refine MetFree.of_bodySF (plainFor_of_name pn_17) hisR ?_
  intro p e s m args below meth c s₁ Bd hml0 hP hK
  obtain ⟨rfl, hZ, hh⟩ := hP
  have hx := Bd.exec
  have hby := Bd.bytes
  have hlk : meth.locks = false := BodyLoose.notSynchronized Bd
  have hml : c.maxLocals = 1 := hml0
  have hown : s.vm.findClass "com/example/tapeloom/tapeloom/Option" = some m.cls := findClass_of_methodNamed Bd.named
  have hnm := (name_of_methodNamed Bd.named Bd.method).1
  have X0 : Stand p l e ({ frames := 0, cells := 0, slots := 0, locals := 0 } : Room) s m #[(.ref p0)] below meth c s₁ [] 0 0 := Stand.of_body Bd
  have e0 : s₁.heap = h0 := by rw [← hh, Bd.state]; rfl
  have N0 := Fr.nil n0
  have K0 : Keep h0 h0 [] := Keep.refl h0 []
  show own_G p e below s 0 0 (Qrm17_10 Z p0 w2 h0 n0) s₁ (entryFrame m #[(.ref p0)] 1)
  rw [ef_rm17_10 m p0]
  refine own_step (T' := s₁) (g' := (mkF m 1 #[.val (.ref p0)] [(.ref p0)])) (fun t k => XS.aloadN X0.here hx rfl (hb hby d17_0) rfl rfl k) ?_
  obtain ⟨T1, X1, e1, st1⟩ := getF X0 hx hZ hown (host := "") (Or.inl (hw _ (List.mem_of_getElem? (i := 42) rfl))) Via.refl e0 F_longName_p0 (g := (mkF m 1 #[.val (.ref p0)] [(.ref p0)])) rfl rfl (hb hby d17_1)
  refine own_step (T' := T1) (g' := (mkF m 4 #[.val (.ref p0)] [(.ref w2)])) st1 ?_
  refine own_step (T' := T1) (g' := (mkF m 14 #[.val (.ref p0)] [])) (fun t k => XS.ifnonnullYes X1.here hx rfl (pc0 := 4) (pc' := 14) rfl (hb hby d17_4) rfl (by decide) (by decide) k) ?_
  refine own_step (T' := T1) (g' := (mkF m 15 #[.val (.ref p0)] [(.ref p0)])) (fun t k => XS.aloadN X1.here hx rfl (hb hby d17_14) rfl rfl k) ?_
  obtain ⟨T2, X2, e2, st2⟩ := getF X1 hx hZ hown (host := "") (Or.inl (hw _ (List.mem_of_getElem? (i := 42) rfl))) Via.refl e1 F_longName_p0 (g := (mkF m 15 #[.val (.ref p0)] [(.ref p0)])) rfl rfl (hb hby d17_15)
  refine own_step (T' := T2) (g' := (mkF m 18 #[.val (.ref p0)] [(.ref w2)])) st2 ?_
  refine own_retR X2 hx hlk Bd.returns rfl rfl (hb hby d17_18) (by decide) (by decide) ?_
  exact ⟨rfl, N0, e2⟩
theorem ef_rm16_11 (m : MethodId) (x0 : Addr) : entryFrame m #[(.ref x0)] 1 = mkF m 0 #[.val (.ref x0)] [] := by first | (simp [entryFrame, mkF, argsToLocals, Value.category]; done) | rfl
def Qrm16_11 (Z : State) (p0 : Addr) (h0 : Heap) (n0 : Nat) (v : Option Value) (h : Heap) (L : List Loc) : Prop := v = some (.int (1 : Int32)) ∧ Fr n0 L ∧ h = h0
set_option maxRecDepth 65536 in
set_option maxHeartbeats 40000000 in
theorem rm16_11 (l : Launch) (Z : State) (a0 : Array Value) (hw : ∀ d ∈ tables_1, d.before a0 Z = true) (ws : List Jvm.Cond) (p0 : Addr) (h0 : Heap) (n0 : Nat) (Z0 : n0 ≤ h0.size) (F_shortName_p0 : Fld Z h0 p0 "com/example/tapeloom/tapeloom/Option" "shortName" "Ljava/lang/String;" .null) (F_longName_p0 : Fld Z h0 p0 "com/example/tapeloom/tapeloom/Option" "longName" "Ljava/lang/String;" .null) :
    MetFree l (⟨"com/example/tapeloom/tapeloom/Option", "isParameter", "()Z"⟩ : MethodName) (head1 (Jvm.Cond.code (⟨"com/example/tapeloom/tapeloom/Option", "isParameter", "()Z"⟩ : MethodName) prog_15_method_10_code 1 (some .boolean) :: ws) ({ frames := 0, cells := 0, slots := 0, locals := 0 } : Room)) (fun a U => a = #[(.ref p0)] ∧ Z.Warmed39 U.vm ∧ U.heap = h0) (fun _ _ _ _ _ => True) (fun _ U o U' => ∃ v L, o = .returned v ∧ Qrm16_11 Z p0 h0 n0 v U'.heap L ∧ FrameEnd U o U' L ({ frames := 0, cells := 0, slots := 0, locals := 0 } : Room).cells ({ frames := 0, cells := 0, slots := 0, locals := 0 } : Room).slots) := by
  refine MetFree.of_bodySF (plainFor_of_name pn_16) hisR ?_
  intro p e s m args below meth c s₁ Bd hml0 hP hK
  obtain ⟨rfl, hZ, hh⟩ := hP
  have hx := Bd.exec
  have hby := Bd.bytes
  have hlk : meth.locks = false := BodyLoose.notSynchronized Bd
  have hml : c.maxLocals = 1 := hml0
  have hown : s.vm.findClass "com/example/tapeloom/tapeloom/Option" = some m.cls := findClass_of_methodNamed Bd.named
  have hnm := (name_of_methodNamed Bd.named Bd.method).1
  have X0 : Stand p l e ({ frames := 0, cells := 0, slots := 0, locals := 0 } : Room) s m #[(.ref p0)] below meth c s₁ [] 0 0 := Stand.of_body Bd
  have e0 : s₁.heap = h0 := by rw [← hh, Bd.state]; rfl
  have N0 := Fr.nil n0
  have K0 : Keep h0 h0 [] := Keep.refl h0 []
  show own_G p e below s 0 0 (Qrm16_11 Z p0 h0 n0) s₁ (entryFrame m #[(.ref p0)] 1)
  rw [ef_rm16_11 m p0]
  refine own_step (T' := s₁) (g' := (mkF m 1 #[.val (.ref p0)] [(.ref p0)])) (fun t k => XS.aloadN X0.here hx rfl (hb hby d16_0) rfl rfl k) ?_
  obtain ⟨T1, X1, e1, st1⟩ := getF X0 hx hZ hown (host := "") (Or.inl (hw _ (List.mem_of_getElem? (i := 40) rfl))) Via.refl e0 F_shortName_p0 (g := (mkF m 1 #[.val (.ref p0)] [(.ref p0)])) rfl rfl (hb hby d16_1)
  refine own_step (T' := T1) (g' := (mkF m 4 #[.val (.ref p0)] [.null])) st1 ?_
  refine own_step (T' := T1) (g' := (mkF m 7 #[.val (.ref p0)] [])) (fun t k => XS.ifnonnullNo X1.here hx rfl (hb hby d16_4) rfl k) ?_
  refine own_step (T' := T1) (g' := (mkF m 8 #[.val (.ref p0)] [(.ref p0)])) (fun t k => XS.aloadN X1.here hx rfl (hb hby d16_7) rfl rfl k) ?_
  obtain ⟨T2, X2, e2, st2⟩ := getF X1 hx hZ hown (host := "") (Or.inl (hw _ (List.mem_of_getElem? (i := 42) rfl))) Via.refl e1 F_longName_p0 (g := (mkF m 8 #[.val (.ref p0)] [(.ref p0)])) rfl rfl (hb hby d16_8)
  refine own_step (T' := T2) (g' := (mkF m 11 #[.val (.ref p0)] [.null])) st2 ?_
  refine own_step (T' := T2) (g' := (mkF m 14 #[.val (.ref p0)] [])) (fun t k => XS.ifnonnullNo X2.here hx rfl (hb hby d16_11) rfl k) ?_
  refine own_step (T' := T2) (g' := (mkF m 15 #[.val (.ref p0)] [(.int (1 : Int32))])) (fun t k => XS.iconst X2.here hx rfl (hb hby d16_14) k) ?_
  refine own_step (T' := T2) (g' := (mkF m 19 #[.val (.ref p0)] [(.int (1 : Int32))])) (fun t k => XS.goto X2.here hx rfl (pc0 := 15) (pc' := 19) rfl (hb hby d16_15) (by decide) (by decide) k) ?_
  refine own_retN X2 hx hlk (t := .boolean) (w := (1 : Int32)) Bd.returns (by simp) (hb hby d16_19) rfl (by decide) (by decide) ?_
  exact ⟨rfl, N0, e2⟩
theorem ef_rm17_11 (m : MethodId) (x0 : Addr) : entryFrame m #[(.ref x0)] 1 = mkF m 0 #[.val (.ref x0)] [] := by first | (simp [entryFrame, mkF, argsToLocals, Value.category]; done) | rfl
def Qrm17_11 (Z : State) (p0 : Addr) (h0 : Heap) (n0 : Nat) (v : Option Value) (h : Heap) (L : List Loc) : Prop := v = some .null ∧ Fr n0 L ∧ h = h0
set_option maxRecDepth 65536 in
set_option maxHeartbeats 40000000 in
theorem rm17_11 (l : Launch) (Z : State) (a0 : Array Value) (hw : ∀ d ∈ tables_1, d.before a0 Z = true) (ws : List Jvm.Cond) (p0 : Addr) (h0 : Heap) (n0 : Nat) (Z0 : n0 ≤ h0.size) (F_shortName_p0 : Fld Z h0 p0 "com/example/tapeloom/tapeloom/Option" "shortName" "Ljava/lang/String;" .null) (F_longName_p0 : Fld Z h0 p0 "com/example/tapeloom/tapeloom/Option" "longName" "Ljava/lang/String;" .null) :
    MetFree l (⟨"com/example/tapeloom/tapeloom/Option", "name", "()Ljava/lang/String;"⟩ : MethodName) (head1 (Jvm.Cond.code (⟨"com/example/tapeloom/tapeloom/Option", "name", "()Ljava/lang/String;"⟩ : MethodName) prog_15_method_11_code 1 (some (.object "java/lang/String")) :: ws) ({ frames := 0, cells := 0, slots := 0, locals := 0 } : Room)) (fun a U => a = #[(.ref p0)] ∧ Z.Warmed39 U.vm ∧ U.heap = h0) (fun _ _ _ _ _ => True) (fun _ U o U' => ∃ v L, o = .returned v ∧ Qrm17_11 Z p0 h0 n0 v U'.heap L ∧ FrameEnd U o U' L ({ frames := 0, cells := 0, slots := 0, locals := 0 } : Room).cells ({ frames := 0, cells := 0, slots := 0, locals := 0 } : Room).slots) := by
  refine MetFree.of_bodySF (plainFor_of_name pn_17) hisR ?_
  intro p e s m args below meth c s₁ Bd hml0 hP hK
  obtain ⟨rfl, hZ, hh⟩ := hP
  have hx := Bd.exec
  have hby := Bd.bytes
  have hlk : meth.locks = false := BodyLoose.notSynchronized Bd
  have hml : c.maxLocals = 1 := hml0
  have hown : s.vm.findClass "com/example/tapeloom/tapeloom/Option" = some m.cls := findClass_of_methodNamed Bd.named
  have hnm := (name_of_methodNamed Bd.named Bd.method).1
  have X0 : Stand p l e ({ frames := 0, cells := 0, slots := 0, locals := 0 } : Room) s m #[(.ref p0)] below meth c s₁ [] 0 0 := Stand.of_body Bd
  have e0 : s₁.heap = h0 := by rw [← hh, Bd.state]; rfl
  have N0 := Fr.nil n0
  have K0 : Keep h0 h0 [] := Keep.refl h0 []
  show own_G p e below s 0 0 (Qrm17_11 Z p0 h0 n0) s₁ (entryFrame m #[(.ref p0)] 1)
  rw [ef_rm17_11 m p0]
  refine own_step (T' := s₁) (g' := (mkF m 1 #[.val (.ref p0)] [(.ref p0)])) (fun t k => XS.aloadN X0.here hx rfl (hb hby d17_0) rfl rfl k) ?_
  obtain ⟨T1, X1, e1, st1⟩ := getF X0 hx hZ hown (host := "") (Or.inl (hw _ (List.mem_of_getElem? (i := 42) rfl))) Via.refl e0 F_longName_p0 (g := (mkF m 1 #[.val (.ref p0)] [(.ref p0)])) rfl rfl (hb hby d17_1)
  refine own_step (T' := T1) (g' := (mkF m 4 #[.val (.ref p0)] [.null])) st1 ?_
  refine own_step (T' := T1) (g' := (mkF m 7 #[.val (.ref p0)] [])) (fun t k => XS.ifnonnullNo X1.here hx rfl (hb hby d17_4) rfl k) ?_
  refine own_step (T' := T1) (g' := (mkF m 8 #[.val (.ref p0)] [(.ref p0)])) (fun t k => XS.aloadN X1.here hx rfl (hb hby d17_7) rfl rfl k) ?_
  obtain ⟨T2, X2, e2, st2⟩ := getF X1 hx hZ hown (host := "") (Or.inl (hw _ (List.mem_of_getElem? (i := 40) rfl))) Via.refl e1 F_shortName_p0 (g := (mkF m 8 #[.val (.ref p0)] [(.ref p0)])) rfl rfl (hb hby d17_8)
  refine own_step (T' := T2) (g' := (mkF m 11 #[.val (.ref p0)] [.null])) st2 ?_
  refine own_step (T' := T2) (g' := (mkF m 18 #[.val (.ref p0)] [.null])) (fun t k => XS.goto X2.here hx rfl (pc0 := 11) (pc' := 18) rfl (hb hby d17_11) (by decide) (by decide) k) ?_
  refine own_retR X2 hx hlk Bd.returns rfl rfl (hb hby d17_18) (by decide) (by decide) ?_
  exact ⟨rfl, N0, e2⟩
theorem ef_rm11 (m : MethodId) (x0 : Addr) (x1 : Addr) : entryFrame m #[(.ref x1), (.ref x1)] 3 = mkF m 0 #[.val (.ref x1), .val (.ref x1), .unset] [] := by first | (simp [entryFrame, mkF, argsToLocals, Value.category]; done) | rfl
def Qrm11 (Z : State) (p0 : Addr) (h0 : Heap) (n0 : Nat) (v : Option Value) (h : Heap) (L : List Loc) : Prop := v = some (.int (1 : Int32)) ∧ Fr n0 L ∧ h = h0
set_option maxRecDepth 65536 in
set_option maxHeartbeats 40000000 in
theorem rm11 (l : Launch) (Z : State) (a0 : Array Value) (hw : ∀ d ∈ tables_1, d.before a0 Z = true) (ws : List Jvm.Cond) (p0 : Addr) (h0 : Heap) (n0 : Nat) (Z0 : n0 ≤ h0.size) :
    MetFree l (⟨"java/lang/String", "equals", "(Ljava/lang/Object;)Z"⟩ : MethodName) (head1 (Jvm.Cond.code (⟨"java/lang/String", "equals", "(Ljava/lang/Object;)Z"⟩ : MethodName) jdk_42_method_66_code 3 (some .boolean) :: ws) ({ frames := 0, cells := 0, slots := 0, locals := 0 } : Room)) (fun a U => a = #[(.ref p0), (.ref p0)] ∧ Z.Warmed39 U.vm ∧ U.heap = h0) (fun _ _ _ _ _ => True) (fun _ U o U' => ∃ v L, o = .returned v ∧ Qrm11 Z p0 h0 n0 v U'.heap L ∧ FrameEnd U o U' L ({ frames := 0, cells := 0, slots := 0, locals := 0 } : Room).cells ({ frames := 0, cells := 0, slots := 0, locals := 0 } : Room).slots) := by
  refine MetFree.of_bodySF (plainFor_of_name pn_11) hisR ?_
  intro p e s m args below meth c s₁ Bd hml0 hP hK
  obtain ⟨rfl, hZ, hh⟩ := hP
  have hx := Bd.exec
  have hby := Bd.bytes
  have hlk : meth.locks = false := BodyLoose.notSynchronized Bd
  have hml : c.maxLocals = 3 := hml0
  have hown : s.vm.findClass "java/lang/String" = some m.cls := findClass_of_methodNamed Bd.named
  have hnm := (name_of_methodNamed Bd.named Bd.method).1
  have X0 : Stand p l e ({ frames := 0, cells := 0, slots := 0, locals := 0 } : Room) s m #[(.ref p0), (.ref p0)] below meth c s₁ [] 0 0 := Stand.of_body Bd
  have e0 : s₁.heap = h0 := by rw [← hh, Bd.state]; rfl
  have N0 := Fr.nil n0
  have K0 : Keep h0 h0 [] := Keep.refl h0 []
  show own_G p e below s 0 0 (Qrm11 Z p0 h0 n0) s₁ (entryFrame m #[(.ref p0), (.ref p0)] 3)
  rw [ef_rm11 m p0 p0]
  refine own_step (T' := s₁) (g' := (mkF m 1 #[.val (.ref p0), .val (.ref p0), .unset] [(.ref p0)])) (fun t k => XS.aloadN X0.here hx rfl (hb hby d11_0) rfl rfl k) ?_
  refine own_step (T' := s₁) (g' := (mkF m 2 #[.val (.ref p0), .val (.ref p0), .unset] [(.ref p0), (.ref p0)])) (fun t k => XS.aloadN X0.here hx rfl (hb hby d11_1) rfl rfl k) ?_
  refine own_step (T' := s₁) (g' := (mkF m 5 #[.val (.ref p0), .val (.ref p0), .unset] [])) (fun t k => Jvm.RoadKit.acmp (g := (mkF m 2 #[.val (.ref p0), .val (.ref p0), .unset] [(.ref p0), (.ref p0)])) X0 hx rfl rfl rfl (pc0 := 2) (pc' := 5) (same := true) rfl (hb hby d11_2) rfl (decide_eq_true rfl) (by decide) (by decide) k) ?_
  refine own_step (T' := s₁) (g' := (mkF m 6 #[.val (.ref p0), .val (.ref p0), .unset] [(.int (1 : Int32))])) (fun t k => XS.iconst X0.here hx rfl (hb hby d11_5) k) ?_
  refine own_retN X0 hx hlk (t := .boolean) (w := (1 : Int32)) Bd.returns (by simp) (hb hby d11_6) rfl (by decide) (by decide) ?_
  exact ⟨rfl, N0, e0⟩
theorem ef_rm10_0 (m : MethodId) (x0 : Addr) (x1 : Addr) : entryFrame m #[(.ref x1), (.ref x1)] 2 = mkF m 0 #[.val (.ref x1), .val (.ref x1)] [] := by first | (simp [entryFrame, mkF, argsToLocals, Value.category]; done) | rfl
def Qrm10_0 (Z : State) (p0 : Addr) (h0 : Heap) (n0 : Nat) (v : Option Value) (h : Heap) (L : List Loc) : Prop := v = some (.int (1 : Int32)) ∧ Fr n0 L ∧ h = h0
set_option maxRecDepth 65536 in
set_option maxHeartbeats 40000000 in
theorem rm10_0 (l : Launch) (Z : State) (a0 : Array Value) (hw : ∀ d ∈ tables_1, d.before a0 Z = true) (ws : List Jvm.Cond) (p0 : Addr) (h0 : Heap) (n0 : Nat) (Z0 : n0 ≤ h0.size) (E_p0 : Exa Z h0 p0 "java/lang/String") :
    MetFree l (⟨"com/example/tapeloom/tapeloom/OptionFlagPinLaw", "eq", "(Ljava/lang/String;Ljava/lang/String;)Z"⟩ : MethodName) (head1 (Jvm.Cond.code (⟨"com/example/tapeloom/tapeloom/OptionFlagPinLaw", "eq", "(Ljava/lang/String;Ljava/lang/String;)Z"⟩ : MethodName) method_2_code 2 (some .boolean) :: ws) ({ frames := 1, cells := 0, slots := 0, locals := 14 } : Room)) (fun a U => a = #[(.ref p0), (.ref p0)] ∧ Z.Warmed39 U.vm ∧ U.heap = h0) (fun _ _ _ _ _ => True) (fun _ U o U' => ∃ v L, o = .returned v ∧ Qrm10_0 Z p0 h0 n0 v U'.heap L ∧ FrameEnd U o U' L ({ frames := 1, cells := 0, slots := 0, locals := 14 } : Room).cells ({ frames := 1, cells := 0, slots := 0, locals := 14 } : Room).slots) := by
  refine MetFree.of_bodySF (plainFor_of_name pn_10) hisR ?_
  intro p e s m args below meth c s₁ Bd hml0 hP hK
  obtain ⟨rfl, hZ, hh⟩ := hP
  have hx := Bd.exec
  have hby := Bd.bytes
  have hlk : meth.locks = false := BodyLoose.notSynchronized Bd
  have hml : c.maxLocals = 2 := hml0
  have hown : s.vm.findClass "com/example/tapeloom/tapeloom/OptionFlagPinLaw" = some m.cls := findClass_of_methodNamed Bd.named
  have hnm := (name_of_methodNamed Bd.named Bd.method).1
  have X0 : Stand p l e ({ frames := 1, cells := 0, slots := 0, locals := 14 } : Room) s m #[(.ref p0), (.ref p0)] below meth c s₁ [] 0 0 := Stand.of_body Bd
  have e0 : s₁.heap = h0 := by rw [← hh, Bd.state]; rfl
  have N0 := Fr.nil n0
  have K0 : Keep h0 h0 [] := Keep.refl h0 []
  show own_G p e below s 0 0 (Qrm10_0 Z p0 h0 n0) s₁ (entryFrame m #[(.ref p0), (.ref p0)] 2)
  rw [ef_rm10_0 m p0 p0]
  refine own_step (T' := s₁) (g' := (mkF m 1 #[.val (.ref p0), .val (.ref p0)] [(.ref p0)])) (fun t k => XS.aloadN X0.here hx rfl (hb hby d10_0) rfl rfl k) ?_
  refine own_step (T' := s₁) (g' := (mkF m 14 #[.val (.ref p0), .val (.ref p0)] [])) (fun t k => XS.ifnonnullYes X0.here hx rfl (pc0 := 1) (pc' := 14) rfl (hb hby d10_1) rfl (by decide) (by decide) k) ?_
  refine own_step (T' := s₁) (g' := (mkF m 15 #[.val (.ref p0), .val (.ref p0)] [(.ref p0)])) (fun t k => XS.aloadN X0.here hx rfl (hb hby d10_14) rfl rfl k) ?_
  refine own_step (T' := s₁) (g' := (mkF m 18 #[.val (.ref p0), .val (.ref p0)] [])) (fun t k => XS.ifnullNo X0.here hx rfl (hb hby d10_15) rfl k) ?_
  refine own_step (T' := s₁) (g' := (mkF m 19 #[.val (.ref p0), .val (.ref p0)] [(.ref p0)])) (fun t k => XS.aloadN X0.here hx rfl (hb hby d10_18) rfl rfl k) ?_
  refine own_step (T' := s₁) (g' := (mkF m 20 #[.val (.ref p0), .val (.ref p0)] [(.ref p0), (.ref p0)])) (fun t k => XS.aloadN X0.here hx rfl (hb hby d10_19) rfl rfl k) ?_
  obtain ⟨cq1, kq1, qq1a, qq1b, qq1c⟩ := isOf hZ e0 E_p0
  obtain ⟨_, _, ⟨T1, L1, kk1, nn1⟩, -, X1, ⟨Lc1, hQ1, l1, y1, z1⟩, st1⟩ := X0.virtualBack hx (y := (⟨"java/lang/String", "equals", "(Ljava/lang/Object;)Z"⟩ : MethodName)) (z := (⟨"java/lang/String", "equals", "(Ljava/lang/Object;)Z"⟩ : MethodName)) hown (mvT hZ (hw _ (List.mem_of_getElem? (i := 57) rfl))) (mvT hZ (hw _ (List.mem_of_getElem? (i := 58) rfl))) (notFace_of_selects (args := #[]) (mvT hZ (hw _ (List.mem_of_getElem? (i := 60) rfl)))) (mvT hZ (hw _ (List.mem_of_getElem? (i := 60) rfl))) (mvT hZ (hw _ (List.mem_of_getElem? (i := 59) rfl))) (by decide) (backOf (W := 0) (rm11 l Z a0 hw [] p0 h0 n0 (Nat.le_trans Z0 K0.1) ) hZ (hw _ (List.mem_of_getElem? (i := 61) rfl)) (hw _ (List.mem_of_getElem? (i := 2) rfl)) (by decide) (by decide)) qq1a qq1c (g := (mkF m 20 #[.val (.ref p0), .val (.ref p0)] [(.ref p0), (.ref p0)])) rfl (by rw [hml]; rfl) (Steps.refl _) (argsL := [(.ref p0)]) (rest := []) (lenOf pd_10 rfl) rfl (by show 2 * 0 + _ ≤ _; exact Nat.le_of_eq rfl) (hb hby d10_20) (fun _ _ => ⟨rfl, e0, (by decide : 0 + 0 ≤ _), (by decide : 0 + 0 ≤ _)⟩)
  dsimp only [Pt.U, Pt.locs, Pt.cells, Pt.slots] at X1 l1 y1 z1 st1 hQ1
  rw [l1, y1, z1] at X1
  obtain ⟨rfl, N1q, eq1⟩ := hQ1
  have N1 := Fr.app N0 N1q
  refine own_step (T' := T1) (g' := (mkF m 23 #[.val (.ref p0), .val (.ref p0)] [(.int (1 : Int32))])) (fun t k => st1.trans k) ?_
  refine own_step (T' := T1) (g' := (mkF m 26 #[.val (.ref p0), .val (.ref p0)] [])) (fun t k => XS.ifNo X1.here hx rfl (hb hby d10_23) rfl ((if0 _ _).trans (feq (by decide : ¬ ((1 : Int32) = (0 : Int32)))).1) k) ?_
  refine own_step (T' := T1) (g' := (mkF m 27 #[.val (.ref p0), .val (.ref p0)] [(.int (1 : Int32))])) (fun t k => XS.iconst X1.here hx rfl (hb hby d10_26) k) ?_
  refine own_step (T' := T1) (g' := (mkF m 31 #[.val (.ref p0), .val (.ref p0)] [(.int (1 : Int32))])) (fun t k => XS.goto X1.here hx rfl (pc0 := 27) (pc' := 31) rfl (hb hby d10_27) (by decide) (by decide) k) ?_
  refine own_retN X1 hx hlk (t := .boolean) (w := (1 : Int32)) Bd.returns (by simp) (hb hby d10_31) rfl (by decide) (by decide) ?_
  exact ⟨rfl, N1, eq1⟩
theorem ef_rm10_1 (m : MethodId)  : entryFrame m #[.null, .null] 2 = mkF m 0 #[.val .null, .val .null] [] := by first | (simp [entryFrame, mkF, argsToLocals, Value.category]; done) | rfl
def Qrm10_1 (Z : State)  (h0 : Heap) (n0 : Nat) (v : Option Value) (h : Heap) (L : List Loc) : Prop := v = some (.int (1 : Int32)) ∧ Fr n0 L ∧ h = h0
set_option maxRecDepth 65536 in
set_option maxHeartbeats 40000000 in
theorem rm10_1 (l : Launch) (Z : State) (a0 : Array Value) (hw : ∀ d ∈ tables_1, d.before a0 Z = true) (ws : List Jvm.Cond)  (h0 : Heap) (n0 : Nat) (Z0 : n0 ≤ h0.size) :
    MetFree l (⟨"com/example/tapeloom/tapeloom/OptionFlagPinLaw", "eq", "(Ljava/lang/String;Ljava/lang/String;)Z"⟩ : MethodName) (head1 (Jvm.Cond.code (⟨"com/example/tapeloom/tapeloom/OptionFlagPinLaw", "eq", "(Ljava/lang/String;Ljava/lang/String;)Z"⟩ : MethodName) method_2_code 2 (some .boolean) :: ws) ({ frames := 0, cells := 0, slots := 0, locals := 0 } : Room)) (fun a U => a = #[.null, .null] ∧ Z.Warmed39 U.vm ∧ U.heap = h0) (fun _ _ _ _ _ => True) (fun _ U o U' => ∃ v L, o = .returned v ∧ Qrm10_1 Z  h0 n0 v U'.heap L ∧ FrameEnd U o U' L ({ frames := 0, cells := 0, slots := 0, locals := 0 } : Room).cells ({ frames := 0, cells := 0, slots := 0, locals := 0 } : Room).slots) := by
  refine MetFree.of_bodySF (plainFor_of_name pn_10) hisR ?_
  intro p e s m args below meth c s₁ Bd hml0 hP hK
  obtain ⟨rfl, hZ, hh⟩ := hP
  have hx := Bd.exec
  have hby := Bd.bytes
  have hlk : meth.locks = false := BodyLoose.notSynchronized Bd
  have hml : c.maxLocals = 2 := hml0
  have hown : s.vm.findClass "com/example/tapeloom/tapeloom/OptionFlagPinLaw" = some m.cls := findClass_of_methodNamed Bd.named
  have hnm := (name_of_methodNamed Bd.named Bd.method).1
  have X0 : Stand p l e ({ frames := 0, cells := 0, slots := 0, locals := 0 } : Room) s m #[.null, .null] below meth c s₁ [] 0 0 := Stand.of_body Bd
  have e0 : s₁.heap = h0 := by rw [← hh, Bd.state]; rfl
  have N0 := Fr.nil n0
  have K0 : Keep h0 h0 [] := Keep.refl h0 []
  show own_G p e below s 0 0 (Qrm10_1 Z  h0 n0) s₁ (entryFrame m #[.null, .null] 2)
  rw [ef_rm10_1 m]
  refine own_step (T' := s₁) (g' := (mkF m 1 #[.val .null, .val .null] [.null])) (fun t k => XS.aloadN X0.here hx rfl (hb hby d10_0) rfl rfl k) ?_
  refine own_step (T' := s₁) (g' := (mkF m 4 #[.val .null, .val .null] [])) (fun t k => XS.ifnonnullNo X0.here hx rfl (hb hby d10_1) rfl k) ?_
  refine own_step (T' := s₁) (g' := (mkF m 5 #[.val .null, .val .null] [.null])) (fun t k => XS.aloadN X0.here hx rfl (hb hby d10_4) rfl rfl k) ?_
  refine own_step (T' := s₁) (g' := (mkF m 8 #[.val .null, .val .null] [])) (fun t k => XS.ifnonnullNo X0.here hx rfl (hb hby d10_5) rfl k) ?_
  refine own_step (T' := s₁) (g' := (mkF m 9 #[.val .null, .val .null] [(.int (1 : Int32))])) (fun t k => XS.iconst X0.here hx rfl (hb hby d10_8) k) ?_
  refine own_step (T' := s₁) (g' := (mkF m 13 #[.val .null, .val .null] [(.int (1 : Int32))])) (fun t k => XS.goto X0.here hx rfl (pc0 := 9) (pc' := 13) rfl (hb hby d10_9) (by decide) (by decide) k) ?_
  refine own_retN X0 hx hlk (t := .boolean) (w := (1 : Int32)) Bd.returns (by simp) (hb hby d10_13) rfl (by decide) (by decide) ?_
  exact ⟨rfl, N0, e0⟩
theorem ef_rm0 (m : MethodId) (x0 : Int32) (x1 : Int32) (x2 : Int32) (x3 : Int32) : entryFrame m #[(.int x0), (.int x1), (.int x2), (.int x3)] maxLocals = mkF m 0 #[.val (.int x0), .val (.int x1), .val (.int x2), .val (.int x3), .unset, .unset, .unset, .unset, .unset, .unset] [] := by first | (simp [entryFrame, mkF, argsToLocals, Value.category, maxLocals]; done) | rfl
def Qrm0 (Z : State) (p0 : Int32) (p1 : Int32) (p2 : Int32) (p3 : Int32) (G1 : Int32) (h0 : Heap) (n0 : Nat) (v : Option Value) (h : Heap) (L : List Loc) : Prop := v = some (.int (1 : Int32)) ∧ Fr n0 L
set_option maxRecDepth 65536 in
set_option maxHeartbeats 40000000 in
theorem rm0 (l : Launch) (Z : State) (a0 : Array Value) (hw : ∀ d ∈ tables_1, d.before a0 Z = true) (ws : List Jvm.Cond) (p0 : Int32) (p1 : Int32) (p2 : Int32) (p3 : Int32) (G1 : Int32) (h0 : Heap) (n0 : Nat) (Z0 : n0 ≤ h0.size) (S_COMPACT_STRINGS : Sta Z h0 "java/lang/String" "COMPACT_STRINGS" "Z" (.int G1)) (P5 : ¬ (G1 = (0 : Int32))) :
    MetFree l x (head1 (Jvm.Cond.code x code maxLocals ret :: ws) room_1) (fun a U => a = #[(.int p0), (.int p1), (.int p2), (.int p3)] ∧ Z.Warmed39 U.vm ∧ U.heap = h0) (fun _ _ _ _ _ => True) (fun _ U o U' => ∃ v L, o = .returned v ∧ Qrm0 Z p0 p1 p2 p3 G1 h0 n0 v U'.heap L ∧ FrameEnd U o U' L 10 30) := by
  refine MetFree.of_bodySF (plainFor_of_name pn_0) hisR ?_
  intro p e s m args below meth c s₁ Bd hml0 hP hK
  obtain ⟨rfl, hZ, hh⟩ := hP
  have hx := Bd.exec
  have hby := Bd.bytes
  have hlk : meth.locks = false := BodyLoose.notSynchronized Bd
  have hml : c.maxLocals = 10 := hml0
  have hown : s.vm.findClass "com/example/tapeloom/tapeloom/OptionFlagPinLaw" = some m.cls := findClass_of_methodNamed Bd.named
  have hnm := (name_of_methodNamed Bd.named Bd.method).1
  have X0 : Stand p l e room_1 s m #[(.int p0), (.int p1), (.int p2), (.int p3)] below meth c s₁ [] 0 0 := Stand.of_body Bd
  have e0 : s₁.heap = h0 := by rw [← hh, Bd.state]; rfl
  have N0 := Fr.nil n0
  have K0 : Keep h0 h0 [] := Keep.refl h0 []
  show own_G p e below s 10 30 (Qrm0 Z p0 p1 p2 p3 G1 h0 n0) s₁ (entryFrame m #[(.int p0), (.int p1), (.int p2), (.int p3)] maxLocals)
  rw [ef_rm0 m p0 p1 p2 p3]
  have hws : ∀ d ∈ StrChars.Road.words, d.before a0 Z = true := fun d hd => hw d ((by decide +kernel : ∀ d ∈ StrChars.Road.words, d ∈ tables_1) d hd)
  refine own_step (T' := s₁) (g' := (mkF m 1 #[.val (.int p0), .val (.int p1), .val (.int p2), .val (.int p3), .unset, .unset, .unset, .unset, .unset, .unset] [(.int p0)])) (fun t k => XS.iloadN X0.here hx rfl (hb hby at_0) rfl k) ?_
  refine own_step (T' := s₁) (g' := (mkF m 2 #[.val (.int p0), .val (.int p1), .val (.int p2), .val (.int p3), .unset, .unset, .unset, .unset, .unset, .unset] [(.int (1 : Int32)), (.int p0)])) (fun t k => XS.iconst X0.here hx rfl (hb hby at_1) k) ?_
  refine own_step (T' := s₁) (g' := (mkF m 3 #[.val (.int p0), .val (.int p1), .val (.int p2), .val (.int p3), .unset, .unset, .unset, .unset, .unset, .unset] [(.int (p0 &&& (1 : Int32)))])) (fun t k => XS.iand X0.here hx rfl (hb hby at_2) rfl k) ?_
  by_cases hc3_1 : (p0 &&& (1 : Int32)) = (0 : Int32)
  · refine own_step (T' := s₁) (g' := (mkF m 10 #[.val (.int p0), .val (.int p1), .val (.int p2), .val (.int p3), .unset, .unset, .unset, .unset, .unset, .unset] [])) (fun t k => XS.ifYes X0.here hx rfl (pc0 := 3) (pc' := 10) rfl (hb hby at_3) rfl ((if0 _ _).trans (teq hc3_1).1) (by decide) (by decide) k) ?_
    obtain ⟨T2, h2, X2, e2, E2, A2, D2, -, st2⟩ := newO X0 hx hZ hown (hw _ (List.mem_of_getElem? (i := 0) rfl)) (hw _ (List.mem_of_getElem? (i := 1) rfl)) (hw _ (List.mem_of_getElem? (i := 2) rfl)) e0 (g := (mkF m 10 #[.val (.int p0), .val (.int p1), .val (.int p2), .val (.int p3), .unset, .unset, .unset, .unset, .unset, .unset] [])) rfl (hb hby at_10) (by decide) (by decide)
    obtain ⟨b2, g2⟩ : ∃ z, z = h0.size := ⟨_, rfl⟩
    rw [← g2] at A2 D2 st2
    have S_COMPACT_STRINGS_2 : Sta Z h2 "java/lang/String" "COMPACT_STRINGS" "Z" (.int G1) := S_COMPACT_STRINGS.ext E2
    have K_2 : Keep h0 h2 [] := K0.ext E2
    have sz_b2 : h0.size ≤ b2 := Nat.le_trans K0.1 (Nat.le_of_eq g2.symm)
    have g_b2 : n0 ≤ b2 := Nat.le_trans Z0 sz_b2
    have E_b2 : Exa Z h2 b2 "java/lang/String" := A2
    have F_coder_b2 : Fld Z h2 b2 "java/lang/String" "coder" "B" (.int (0 : Int32)) := D2 (Or.inr (hw _ (List.mem_of_getElem? (i := 27) rfl))) (ty := .byte) (by decide)
    have F_value_b2 : Fld Z h2 b2 "java/lang/String" "value" "[B" .null := D2 (Or.inr (hw _ (List.mem_of_getElem? (i := 29) rfl))) (ty := (.array .byte)) (by decide)
    refine own_step (T' := T2) (g' := (mkF m 13 #[.val (.int p0), .val (.int p1), .val (.int p2), .val (.int p3), .unset, .unset, .unset, .unset, .unset, .unset] [(.ref b2)])) st2 ?_
    refine own_step (T' := T2) (g' := (mkF m 14 #[.val (.int p0), .val (.int p1), .val (.int p2), .val (.int p3), .unset, .unset, .unset, .unset, .unset, .unset] [(.ref b2), (.ref b2)])) (fun t k => XS.dup X2.here hx rfl (hb hby at_13) rfl rfl k) ?_
    refine own_step (T' := T2) (g' := (mkF m 15 #[.val (.int p0), .val (.int p1), .val (.int p2), .val (.int p3), .unset, .unset, .unset, .unset, .unset, .unset] [(.int (2 : Int32)), (.ref b2), (.ref b2)])) (fun t k => XS.iconst X2.here hx rfl (hb hby at_14) k) ?_
    obtain ⟨T3, h3, k3, X3, e3, E3, A3, st3⟩ := newP X2 hx hZ (hw _ (List.mem_of_getElem? (i := 3) rfl)) e2 (g := (mkF m 15 #[.val (.int p0), .val (.int p1), .val (.int p2), .val (.int p3), .unset, .unset, .unset, .unset, .unset, .unset] [(.int (2 : Int32)), (.ref b2), (.ref b2)])) rfl (hb hby at_15) rfl (by decide) (cap := 2) (by decide) (by decide) (by decide) (by decide)
    obtain ⟨b3, g3⟩ : ∃ z, z = h2.size := ⟨_, rfl⟩
    rw [← g3] at A3 st3
    have S_COMPACT_STRINGS_3 : Sta Z h3 "java/lang/String" "COMPACT_STRINGS" "Z" (.int G1) := S_COMPACT_STRINGS_2.ext E3
    have E_b2_3 : Exa Z h3 b2 "java/lang/String" := E_b2.ext E3
    have F_coder_b2_3 : Fld Z h3 b2 "java/lang/String" "coder" "B" (.int (0 : Int32)) := F_coder_b2.ext E3
    have F_value_b2_3 : Fld Z h3 b2 "java/lang/String" "value" "[B" .null := F_value_b2.ext E3
    have K_3 : Keep h0 h3 [] := K_2.ext E3
    have sz_b3 : h0.size ≤ b3 := Nat.le_trans K_2.1 (Nat.le_of_eq g3.symm)
    have g_b3 : n0 ≤ b3 := Nat.le_trans Z0 sz_b3
    have ne_b2_b3 : b2 ≠ b3 := Nat.ne_of_lt (Nat.lt_of_lt_of_le E_b2.lt (Nat.le_of_eq g3.symm))
    have V_b3 : Arv Z h3 b3 k3 .char (2 : Int32) [(.int (0 : Int32)), (.int (0 : Int32))] (.int (0 : Int32)) := (Arv.new A3 (by decide)).pad (pad_rep [] (.int (0 : Int32)) 2)
    refine own_step (T' := T3) (g' := (mkF m 17 #[.val (.int p0), .val (.int p1), .val (.int p2), .val (.int p3), .unset, .unset, .unset, .unset, .unset, .unset] [(.ref b3), (.ref b2), (.ref b2)])) st3 ?_
    refine own_step (T' := T3) (g' := (mkF m 18 #[.val (.int p0), .val (.int p1), .val (.int p2), .val (.int p3), .unset, .unset, .unset, .unset, .unset, .unset] [(.ref b3), (.ref b3), (.ref b2), (.ref b2)])) (fun t k => XS.dup X3.here hx rfl (hb hby at_17) rfl rfl k) ?_
    refine own_step (T' := T3) (g' := (mkF m 19 #[.val (.int p0), .val (.int p1), .val (.int p2), .val (.int p3), .unset, .unset, .unset, .unset, .unset, .unset] [(.int (0 : Int32)), (.ref b3), (.ref b3), (.ref b2), (.ref b2)])) (fun t k => XS.iconst X3.here hx rfl (hb hby at_18) k) ?_
    refine own_step (T' := T3) (g' := (mkF m 20 #[.val (.int p0), .val (.int p1), .val (.int p2), .val (.int p3), .unset, .unset, .unset, .unset, .unset, .unset] [(.int p1), (.int (0 : Int32)), (.ref b3), (.ref b3), (.ref b2), (.ref b2)])) (fun t k => XS.iloadN X3.here hx rfl (hb hby at_19) rfl k) ?_
    refine own_step (T' := T3) (g' := (mkF m 23 #[.val (.int p0), .val (.int p1), .val (.int p2), .val (.int p3), .unset, .unset, .unset, .unset, .unset, .unset] [(.int (255 : Int32)), (.int p1), (.int (0 : Int32)), (.ref b3), (.ref b3), (.ref b2), (.ref b2)])) (fun t k => XS.sipush X3.here hx rfl (hb hby at_20) k) ?_
    refine own_step (T' := T3) (g' := (mkF m 24 #[.val (.int p0), .val (.int p1), .val (.int p2), .val (.int p3), .unset, .unset, .unset, .unset, .unset, .unset] [(.int (p1 &&& (255 : Int32))), (.int (0 : Int32)), (.ref b3), (.ref b3), (.ref b2), (.ref b2)])) (fun t k => XS.iand X3.here hx rfl (hb hby at_23) rfl k) ?_
    refine own_step (T' := T3) (g' := (mkF m 25 #[.val (.int p0), .val (.int p1), .val (.int p2), .val (.int p3), .unset, .unset, .unset, .unset, .unset, .unset] [(.int (p1 &&& (255 : Int32)).toUInt32.toUInt16.toUInt32.toInt32), (.int (0 : Int32)), (.ref b3), (.ref b3), (.ref b2), (.ref b2)])) (fun t k => XS.i2c X3.here hx rfl (hb hby at_24) rfl k) ?_
    obtain ⟨cl4, Ar4, q4, Sz4, Nn4, Hh4, Gg4⟩ := id V_b3
    have hin4 : ¬ ((0 : Int32) < 0 ∨ cl4.slots.size ≤ ((0 : Int32)).toNatClampNeg) := inb_of Sz4 ⟨by decide, by decide⟩
    obtain ⟨T4, h4, X4, e4, W4, st4⟩ := stC X3 hx hZ e3 Ar4 (j := (0 : Int32)) hin4 (g := (mkF m 25 #[.val (.int p0), .val (.int p1), .val (.int p2), .val (.int p3), .unset, .unset, .unset, .unset, .unset, .unset] [(.int (p1 &&& (255 : Int32)).toUInt32.toUInt16.toUInt32.toInt32), (.int (0 : Int32)), (.ref b3), (.ref b3), (.ref b2), (.ref b2)])) rfl rfl (hb hby at_25)
    have S_COMPACT_STRINGS_4 : Sta Z h4 "java/lang/String" "COMPACT_STRINGS" "Z" (.int G1) := S_COMPACT_STRINGS_3.wr W4
    have E_b2_4 : Exa Z h4 b2 "java/lang/String" := E_b2_3.wr W4
    have F_coder_b2_4 : Fld Z h4 b2 "java/lang/String" "coder" "B" (.int (0 : Int32)) := F_coder_b2_3.other W4 (Or.inl ne_b2_b3)
    have F_value_b2_4 : Fld Z h4 b2 "java/lang/String" "value" "[B" .null := F_value_b2_3.other W4 (Or.inl ne_b2_b3)
    have K_4 : Keep h0 h4 [] := K_3.wr W4 (Or.inr sz_b3)
    have N4 := Fr.snoc X4 N0 g_b3
    obtain ⟨ch4, hch4⟩ : ∃ z, z = (nar .char (p1 &&& (255 : Int32)).toUInt32.toUInt16.toUInt32.toInt32) := ⟨_, rfl⟩
    have bch4 : ¬ ch4 < 0 ∧ ¬ (255 : Int32) < ch4 := by rw [hch4]; exact own_c255 _
    have V_b3_4 : Arv Z h4 b3 k3 .char (2 : Int32) [(.int ch4), (.int (0 : Int32))] (.int (0 : Int32)) := by rw [hch4]; exact Arv.set Ar4 q4 Sz4 Nn4 Hh4 Gg4 (fits_nar_char _) W4 0 rfl (Nat.le_of_ble_eq_true rfl)
    refine own_step (T' := T4) (g' := (mkF m 26 #[.val (.int p0), .val (.int p1), .val (.int p2), .val (.int p3), .unset, .unset, .unset, .unset, .unset, .unset] [(.ref b3), (.ref b2), (.ref b2)])) st4 ?_
    refine own_step (T' := T4) (g' := (mkF m 27 #[.val (.int p0), .val (.int p1), .val (.int p2), .val (.int p3), .unset, .unset, .unset, .unset, .unset, .unset] [(.ref b3), (.ref b3), (.ref b2), (.ref b2)])) (fun t k => XS.dup X4.here hx rfl (hb hby at_26) rfl rfl k) ?_
    refine own_step (T' := T4) (g' := (mkF m 28 #[.val (.int p0), .val (.int p1), .val (.int p2), .val (.int p3), .unset, .unset, .unset, .unset, .unset, .unset] [(.int (1 : Int32)), (.ref b3), (.ref b3), (.ref b2), (.ref b2)])) (fun t k => XS.iconst X4.here hx rfl (hb hby at_27) k) ?_
    refine own_step (T' := T4) (g' := (mkF m 29 #[.val (.int p0), .val (.int p1), .val (.int p2), .val (.int p3), .unset, .unset, .unset, .unset, .unset, .unset] [(.int p1), (.int (1 : Int32)), (.ref b3), (.ref b3), (.ref b2), (.ref b2)])) (fun t k => XS.iloadN X4.here hx rfl (hb hby at_28) rfl k) ?_
    refine own_step (T' := T4) (g' := (mkF m 31 #[.val (.int p0), .val (.int p1), .val (.int p2), .val (.int p3), .unset, .unset, .unset, .unset, .unset, .unset] [(.int (8 : Int32)), (.int p1), (.int (1 : Int32)), (.ref b3), (.ref b3), (.ref b2), (.ref b2)])) (fun t k => XS.bipush X4.here hx rfl (hb hby at_29) k) ?_
    refine own_step (T' := T4) (g' := (mkF m 32 #[.val (.int p0), .val (.int p1), .val (.int p2), .val (.int p3), .unset, .unset, .unset, .unset, .unset, .unset] [(.int (p1.toUInt32 >>> ((8 : Int32) &&& 31).toUInt32).toInt32), (.int (1 : Int32)), (.ref b3), (.ref b3), (.ref b2), (.ref b2)])) (fun t k => XS.iushr X4.here hx rfl (hb hby at_31) rfl k) ?_
    refine own_step (T' := T4) (g' := (mkF m 35 #[.val (.int p0), .val (.int p1), .val (.int p2), .val (.int p3), .unset, .unset, .unset, .unset, .unset, .unset] [(.int (255 : Int32)), (.int (p1.toUInt32 >>> ((8 : Int32) &&& 31).toUInt32).toInt32), (.int (1 : Int32)), (.ref b3), (.ref b3), (.ref b2), (.ref b2)])) (fun t k => XS.sipush X4.here hx rfl (hb hby at_32) k) ?_
    refine own_step (T' := T4) (g' := (mkF m 36 #[.val (.int p0), .val (.int p1), .val (.int p2), .val (.int p3), .unset, .unset, .unset, .unset, .unset, .unset] [(.int ((p1.toUInt32 >>> ((8 : Int32) &&& 31).toUInt32).toInt32 &&& (255 : Int32))), (.int (1 : Int32)), (.ref b3), (.ref b3), (.ref b2), (.ref b2)])) (fun t k => XS.iand X4.here hx rfl (hb hby at_35) rfl k) ?_
    refine own_step (T' := T4) (g' := (mkF m 37 #[.val (.int p0), .val (.int p1), .val (.int p2), .val (.int p3), .unset, .unset, .unset, .unset, .unset, .unset] [(.int ((p1.toUInt32 >>> ((8 : Int32) &&& 31).toUInt32).toInt32 &&& (255 : Int32)).toUInt32.toUInt16.toUInt32.toInt32), (.int (1 : Int32)), (.ref b3), (.ref b3), (.ref b2), (.ref b2)])) (fun t k => XS.i2c X4.here hx rfl (hb hby at_36) rfl k) ?_
    obtain ⟨cl5, Ar5, q5, Sz5, Nn5, Hh5, Gg5⟩ := id V_b3_4
    have hin5 : ¬ ((1 : Int32) < 0 ∨ cl5.slots.size ≤ ((1 : Int32)).toNatClampNeg) := inb_of Sz5 ⟨by decide, by decide⟩
    obtain ⟨T5, h5, X5, e5, W5, st5⟩ := stC X4 hx hZ e4 Ar5 (j := (1 : Int32)) hin5 (g := (mkF m 37 #[.val (.int p0), .val (.int p1), .val (.int p2), .val (.int p3), .unset, .unset, .unset, .unset, .unset, .unset] [(.int ((p1.toUInt32 >>> ((8 : Int32) &&& 31).toUInt32).toInt32 &&& (255 : Int32)).toUInt32.toUInt16.toUInt32.toInt32), (.int (1 : Int32)), (.ref b3), (.ref b3), (.ref b2), (.ref b2)])) rfl rfl (hb hby at_37)
    have S_COMPACT_STRINGS_5 : Sta Z h5 "java/lang/String" "COMPACT_STRINGS" "Z" (.int G1) := S_COMPACT_STRINGS_4.wr W5
    have E_b2_5 : Exa Z h5 b2 "java/lang/String" := E_b2_4.wr W5
    have F_coder_b2_5 : Fld Z h5 b2 "java/lang/String" "coder" "B" (.int (0 : Int32)) := F_coder_b2_4.other W5 (Or.inl ne_b2_b3)
    have F_value_b2_5 : Fld Z h5 b2 "java/lang/String" "value" "[B" .null := F_value_b2_4.other W5 (Or.inl ne_b2_b3)
    have K_5 : Keep h0 h5 [] := K_4.wr W5 (Or.inr sz_b3)
    have N5 := Fr.snoc X5 N4 g_b3
    obtain ⟨ch5, hch5⟩ : ∃ z, z = (nar .char ((p1.toUInt32 >>> ((8 : Int32) &&& 31).toUInt32).toInt32 &&& (255 : Int32)).toUInt32.toUInt16.toUInt32.toInt32) := ⟨_, rfl⟩
    have bch5 : ¬ ch5 < 0 ∧ ¬ (255 : Int32) < ch5 := by rw [hch5]; exact own_c255 _
    have V_b3_5 : Arv Z h5 b3 k3 .char (2 : Int32) [(.int ch4), (.int ch5)] (.int (0 : Int32)) := by rw [hch5]; exact Arv.set Ar5 q5 Sz5 Nn5 Hh5 Gg5 (fits_nar_char _) W5 1 rfl (Nat.le_of_ble_eq_true rfl)
    refine own_step (T' := T5) (g' := (mkF m 38 #[.val (.int p0), .val (.int p1), .val (.int p2), .val (.int p3), .unset, .unset, .unset, .unset, .unset, .unset] [(.ref b3), (.ref b2), (.ref b2)])) st5 ?_
    have hp6 : ∀ c ∈ ([ch4, ch5] : List Int32), ¬ c < 0 ∧ ¬ (255 : Int32) < c := by
      intro c hc
      simp only [List.mem_cons, List.not_mem_nil, or_false] at hc
      rcases hc with rfl | rfl
      · exact bch4
      · exact bch5
    obtain ⟨_, _, ⟨T6, L6, kk6, nn6⟩, -, X6, ⟨Lc6, hQ6, l6, y6, z6⟩, st6⟩ := X5.specialBack hx (y := (⟨"java/lang/String", "<init>", "([C)V"⟩ : MethodName)) rfl hown (mvT hZ (hw _ (List.mem_of_getElem? (i := 4) rfl))) (mvT hZ (hw _ (List.mem_of_getElem? (i := 5) rfl))) (mvT hZ (hw _ (List.mem_of_getElem? (i := 6) rfl))) (by decide) (StrChars.Road.backV (W := 1) hZ hws (kI := 4) (hw _ (List.mem_of_getElem? (i := 1) rfl)) (cs := ([ch4, ch5] : List Int32)) (bs := ([ch4, ch5] : List Int32).map (fun c => c.toInt8.toInt32)) (n := 2) g_b2 (Nat.le_trans Z0 K_5.1) E_b2_5 F_value_b2_5 F_coder_b2_5 V_b3_5 S_COMPACT_STRINGS_5 P5 rfl rfl (by decide) (by decide) hp6 rfl (by decide) (by decide)) (g := (mkF m 38 #[.val (.int p0), .val (.int p1), .val (.int p2), .val (.int p3), .unset, .unset, .unset, .unset, .unset, .unset] [(.ref b3), (.ref b2), (.ref b2)])) rfl (by rw [hml]; rfl) (Steps.refl _) (a := b2) (argsL := [(.ref b3)]) (rest := [(.ref b2)]) (lenOf pd_0 rfl) rfl (by show 2 * 0 + _ ≤ _; exact Nat.le_of_eq rfl) (hb hby at_38) (fun _ _ => ⟨rfl, e5, (by decide : 2 + 1 ≤ _), (by decide : 6 + 2 ≤ _)⟩)
    dsimp only [Pt.U, Pt.locs, Pt.cells, Pt.slots] at X6 l6 y6 z6 st6 hQ6
    rw [l6, y6, z6] at X6
    obtain ⟨rfl, N6q, Kq6, pe6, pc6, t6, kb6, gt6, st6', nt6, pv6, pa6⟩ := hQ6
    have N6 := Fr.app N5 N6q
    have S_COMPACT_STRINGS_6 : Sta Z T6.heap "java/lang/String" "COMPACT_STRINGS" "Z" (.int G1) := own_sta_keep S_COMPACT_STRINGS_5 Kq6 (allS E_b2_5.nostat all0)
    have E_b2_6 : Exa Z T6.heap b2 "java/lang/String" := E_b2_5.keep Kq6
    have V_b3_6 : Arv Z T6.heap b3 k3 .char (2 : Int32) [(.int ch4), (.int ch5)] (.int (0 : Int32)) := V_b3_5.keep Kq6 (ninS (Ne.symm ne_b2_b3) nin0)
    have K_6 : Keep h0 T6.heap [] := K_5.trans Kq6 (allS (Or.inr sz_b2) all0)
    have sz_t6 : h0.size ≤ t6 := Nat.le_trans K_5.1 st6'
    have ne_b2_t6 : b2 ≠ t6 := Nat.ne_of_lt (Nat.lt_of_lt_of_le E_b2_5.lt st6')
    have ne_b3_t6 : b3 ≠ t6 := Nat.ne_of_lt (Nat.lt_of_lt_of_le V_b3_5.lt st6')
    refine own_step (T' := T6) (g' := (mkF m 41 #[.val (.int p0), .val (.int p1), .val (.int p2), .val (.int p3), .unset, .unset, .unset, .unset, .unset, .unset] [(.ref b2)])) (fun t k => st6.trans k) ?_
    refine own_step (T' := T6) (g' := (mkF m 43 #[.val (.int p0), .val (.int p1), .val (.int p2), .val (.int p3), .val (.ref b2), .unset, .unset, .unset, .unset, .unset] [])) (fun t k => XS.astore X6.here hx rfl (hb hby at_41) rfl rfl (l' := #[.val (.int p0), .val (.int p1), .val (.int p2), .val (.int p3), .val (.ref b2), .unset, .unset, .unset, .unset, .unset]) rfl k) ?_
    refine own_step (T' := T6) (g' := (mkF m 44 #[.val (.int p0), .val (.int p1), .val (.int p2), .val (.int p3), .val (.ref b2), .unset, .unset, .unset, .unset, .unset] [(.int p0)])) (fun t k => XS.iloadN X6.here hx rfl (hb hby at_43) rfl k) ?_
    refine own_step (T' := T6) (g' := (mkF m 45 #[.val (.int p0), .val (.int p1), .val (.int p2), .val (.int p3), .val (.ref b2), .unset, .unset, .unset, .unset, .unset] [(.int (2 : Int32)), (.int p0)])) (fun t k => XS.iconst X6.here hx rfl (hb hby at_44) k) ?_
    refine own_step (T' := T6) (g' := (mkF m 46 #[.val (.int p0), .val (.int p1), .val (.int p2), .val (.int p3), .val (.ref b2), .unset, .unset, .unset, .unset, .unset] [(.int (p0 &&& (2 : Int32)))])) (fun t k => XS.iand X6.here hx rfl (hb hby at_45) rfl k) ?_
    by_cases hc46_7 : (p0 &&& (2 : Int32)) = (0 : Int32)
    · refine own_step (T' := T6) (g' := (mkF m 53 #[.val (.int p0), .val (.int p1), .val (.int p2), .val (.int p3), .val (.ref b2), .unset, .unset, .unset, .unset, .unset] [])) (fun t k => XS.ifYes X6.here hx rfl (pc0 := 46) (pc' := 53) rfl (hb hby at_46) rfl ((if0 _ _).trans (teq hc46_7).1) (by decide) (by decide) k) ?_
      obtain ⟨T8, h8, X8, e8, E8, A8, D8, -, st8⟩ := newO X6 hx hZ hown (hw _ (List.mem_of_getElem? (i := 0) rfl)) (hw _ (List.mem_of_getElem? (i := 1) rfl)) (hw _ (List.mem_of_getElem? (i := 2) rfl)) rfl (g := (mkF m 53 #[.val (.int p0), .val (.int p1), .val (.int p2), .val (.int p3), .val (.ref b2), .unset, .unset, .unset, .unset, .unset] [])) rfl (hb hby at_53) (by decide) (by decide)
      obtain ⟨b8, g8⟩ : ∃ z, z = T6.heap.size := ⟨_, rfl⟩
      rw [← g8] at A8 D8 st8
      have S_COMPACT_STRINGS_8 : Sta Z h8 "java/lang/String" "COMPACT_STRINGS" "Z" (.int G1) := S_COMPACT_STRINGS_6.ext E8
      have E_b2_8 : Exa Z h8 b2 "java/lang/String" := E_b2_6.ext E8
      have V_b3_8 : Arv Z h8 b3 k3 .char (2 : Int32) [(.int ch4), (.int ch5)] (.int (0 : Int32)) := V_b3_6.ext E8
      have F_coder_b2_8 : Fld Z h8 b2 "java/lang/String" "coder" "B" (.int (0 : Int32)) := pc6.ext E8
      have F_value_b2_8 : Fld Z h8 b2 "java/lang/String" "value" "[B" (.ref t6) := pv6.ext E8
      have V_t6_8 : Arv Z h8 t6 kb6 .byte (2 : Int32) ((([ch4, ch5] : List Int32).map (fun c => c.toInt8.toInt32)).map Value.int) (.int 0) := pa6.ext E8
      have K_8 : Keep h0 h8 [] := K_6.ext E8
      have sz_b8 : h0.size ≤ b8 := Nat.le_trans K_6.1 (Nat.le_of_eq g8.symm)
      have g_b8 : n0 ≤ b8 := Nat.le_trans Z0 sz_b8
      have ne_b2_b8 : b2 ≠ b8 := Nat.ne_of_lt (Nat.lt_of_lt_of_le E_b2_6.lt (Nat.le_of_eq g8.symm))
      have ne_b3_b8 : b3 ≠ b8 := Nat.ne_of_lt (Nat.lt_of_lt_of_le V_b3_6.lt (Nat.le_of_eq g8.symm))
      have ne_t6_b8 : t6 ≠ b8 := Nat.ne_of_lt (Nat.lt_of_lt_of_le pa6.lt (Nat.le_of_eq g8.symm))
      have E_b8 : Exa Z h8 b8 "java/lang/String" := A8
      have F_coder_b8 : Fld Z h8 b8 "java/lang/String" "coder" "B" (.int (0 : Int32)) := D8 (Or.inr (hw _ (List.mem_of_getElem? (i := 27) rfl))) (ty := .byte) (by decide)
      have F_value_b8 : Fld Z h8 b8 "java/lang/String" "value" "[B" .null := D8 (Or.inr (hw _ (List.mem_of_getElem? (i := 29) rfl))) (ty := (.array .byte)) (by decide)
      refine own_step (T' := T8) (g' := (mkF m 56 #[.val (.int p0), .val (.int p1), .val (.int p2), .val (.int p3), .val (.ref b2), .unset, .unset, .unset, .unset, .unset] [(.ref b8)])) st8 ?_
      refine own_step (T' := T8) (g' := (mkF m 57 #[.val (.int p0), .val (.int p1), .val (.int p2), .val (.int p3), .val (.ref b2), .unset, .unset, .unset, .unset, .unset] [(.ref b8), (.ref b8)])) (fun t k => XS.dup X8.here hx rfl (hb hby at_56) rfl rfl k) ?_
      refine own_step (T' := T8) (g' := (mkF m 58 #[.val (.int p0), .val (.int p1), .val (.int p2), .val (.int p3), .val (.ref b2), .unset, .unset, .unset, .unset, .unset] [(.int (3 : Int32)), (.ref b8), (.ref b8)])) (fun t k => XS.iconst X8.here hx rfl (hb hby at_57) k) ?_
      obtain ⟨T9, h9, k9, X9, e9, E9, A9, st9⟩ := newP X8 hx hZ (hw _ (List.mem_of_getElem? (i := 3) rfl)) e8 (g := (mkF m 58 #[.val (.int p0), .val (.int p1), .val (.int p2), .val (.int p3), .val (.ref b2), .unset, .unset, .unset, .unset, .unset] [(.int (3 : Int32)), (.ref b8), (.ref b8)])) rfl (hb hby at_58) rfl (by decide) (cap := 3) (by decide) (by decide) (by decide) (by decide)
      obtain ⟨b9, g9⟩ : ∃ z, z = h8.size := ⟨_, rfl⟩
      rw [← g9] at A9 st9
      have S_COMPACT_STRINGS_9 : Sta Z h9 "java/lang/String" "COMPACT_STRINGS" "Z" (.int G1) := S_COMPACT_STRINGS_8.ext E9
      have E_b2_9 : Exa Z h9 b2 "java/lang/String" := E_b2_8.ext E9
      have V_b3_9 : Arv Z h9 b3 k3 .char (2 : Int32) [(.int ch4), (.int ch5)] (.int (0 : Int32)) := V_b3_8.ext E9
      have F_coder_b2_9 : Fld Z h9 b2 "java/lang/String" "coder" "B" (.int (0 : Int32)) := F_coder_b2_8.ext E9
      have F_value_b2_9 : Fld Z h9 b2 "java/lang/String" "value" "[B" (.ref t6) := F_value_b2_8.ext E9
      have V_t6_9 : Arv Z h9 t6 kb6 .byte (2 : Int32) ((([ch4, ch5] : List Int32).map (fun c => c.toInt8.toInt32)).map Value.int) (.int 0) := V_t6_8.ext E9
      have E_b8_9 : Exa Z h9 b8 "java/lang/String" := E_b8.ext E9
      have F_coder_b8_9 : Fld Z h9 b8 "java/lang/String" "coder" "B" (.int (0 : Int32)) := F_coder_b8.ext E9
      have F_value_b8_9 : Fld Z h9 b8 "java/lang/String" "value" "[B" .null := F_value_b8.ext E9
      have K_9 : Keep h0 h9 [] := K_8.ext E9
      have sz_b9 : h0.size ≤ b9 := Nat.le_trans K_8.1 (Nat.le_of_eq g9.symm)
      have g_b9 : n0 ≤ b9 := Nat.le_trans Z0 sz_b9
      have ne_b2_b9 : b2 ≠ b9 := Nat.ne_of_lt (Nat.lt_of_lt_of_le E_b2_8.lt (Nat.le_of_eq g9.symm))
      have ne_b3_b9 : b3 ≠ b9 := Nat.ne_of_lt (Nat.lt_of_lt_of_le V_b3_8.lt (Nat.le_of_eq g9.symm))
      have ne_t6_b9 : t6 ≠ b9 := Nat.ne_of_lt (Nat.lt_of_lt_of_le V_t6_8.lt (Nat.le_of_eq g9.symm))
      have ne_b8_b9 : b8 ≠ b9 := Nat.ne_of_lt (Nat.lt_of_lt_of_le E_b8.lt (Nat.le_of_eq g9.symm))
      have V_b9 : Arv Z h9 b9 k9 .char (3 : Int32) [(.int (0 : Int32)), (.int (0 : Int32)), (.int (0 : Int32))] (.int (0 : Int32)) := (Arv.new A9 (by decide)).pad (pad_rep [] (.int (0 : Int32)) 3)
      refine own_step (T' := T9) (g' := (mkF m 60 #[.val (.int p0), .val (.int p1), .val (.int p2), .val (.int p3), .val (.ref b2), .unset, .unset, .unset, .unset, .unset] [(.ref b9), (.ref b8), (.ref b8)])) st9 ?_
      refine own_step (T' := T9) (g' := (mkF m 61 #[.val (.int p0), .val (.int p1), .val (.int p2), .val (.int p3), .val (.ref b2), .unset, .unset, .unset, .unset, .unset] [(.ref b9), (.ref b9), (.ref b8), (.ref b8)])) (fun t k => XS.dup X9.here hx rfl (hb hby at_60) rfl rfl k) ?_
      refine own_step (T' := T9) (g' := (mkF m 62 #[.val (.int p0), .val (.int p1), .val (.int p2), .val (.int p3), .val (.ref b2), .unset, .unset, .unset, .unset, .unset] [(.int (0 : Int32)), (.ref b9), (.ref b9), (.ref b8), (.ref b8)])) (fun t k => XS.iconst X9.here hx rfl (hb hby at_61) k) ?_
      refine own_step (T' := T9) (g' := (mkF m 63 #[.val (.int p0), .val (.int p1), .val (.int p2), .val (.int p3), .val (.ref b2), .unset, .unset, .unset, .unset, .unset] [(.int p2), (.int (0 : Int32)), (.ref b9), (.ref b9), (.ref b8), (.ref b8)])) (fun t k => XS.iloadN X9.here hx rfl (hb hby at_62) rfl k) ?_
      refine own_step (T' := T9) (g' := (mkF m 66 #[.val (.int p0), .val (.int p1), .val (.int p2), .val (.int p3), .val (.ref b2), .unset, .unset, .unset, .unset, .unset] [(.int (255 : Int32)), (.int p2), (.int (0 : Int32)), (.ref b9), (.ref b9), (.ref b8), (.ref b8)])) (fun t k => XS.sipush X9.here hx rfl (hb hby at_63) k) ?_
      refine own_step (T' := T9) (g' := (mkF m 67 #[.val (.int p0), .val (.int p1), .val (.int p2), .val (.int p3), .val (.ref b2), .unset, .unset, .unset, .unset, .unset] [(.int (p2 &&& (255 : Int32))), (.int (0 : Int32)), (.ref b9), (.ref b9), (.ref b8), (.ref b8)])) (fun t k => XS.iand X9.here hx rfl (hb hby at_66) rfl k) ?_
      refine own_step (T' := T9) (g' := (mkF m 68 #[.val (.int p0), .val (.int p1), .val (.int p2), .val (.int p3), .val (.ref b2), .unset, .unset, .unset, .unset, .unset] [(.int (p2 &&& (255 : Int32)).toUInt32.toUInt16.toUInt32.toInt32), (.int (0 : Int32)), (.ref b9), (.ref b9), (.ref b8), (.ref b8)])) (fun t k => XS.i2c X9.here hx rfl (hb hby at_67) rfl k) ?_
      obtain ⟨cl10, Ar10, q10, Sz10, Nn10, Hh10, Gg10⟩ := id V_b9
      have hin10 : ¬ ((0 : Int32) < 0 ∨ cl10.slots.size ≤ ((0 : Int32)).toNatClampNeg) := inb_of Sz10 ⟨by decide, by decide⟩
      obtain ⟨T10, h10, X10, e10, W10, st10⟩ := stC X9 hx hZ e9 Ar10 (j := (0 : Int32)) hin10 (g := (mkF m 68 #[.val (.int p0), .val (.int p1), .val (.int p2), .val (.int p3), .val (.ref b2), .unset, .unset, .unset, .unset, .unset] [(.int (p2 &&& (255 : Int32)).toUInt32.toUInt16.toUInt32.toInt32), (.int (0 : Int32)), (.ref b9), (.ref b9), (.ref b8), (.ref b8)])) rfl rfl (hb hby at_68)
      have S_COMPACT_STRINGS_10 : Sta Z h10 "java/lang/String" "COMPACT_STRINGS" "Z" (.int G1) := S_COMPACT_STRINGS_9.wr W10
      have E_b2_10 : Exa Z h10 b2 "java/lang/String" := E_b2_9.wr W10
      have V_b3_10 : Arv Z h10 b3 k3 .char (2 : Int32) [(.int ch4), (.int ch5)] (.int (0 : Int32)) := V_b3_9.other W10 ne_b3_b9
      have F_coder_b2_10 : Fld Z h10 b2 "java/lang/String" "coder" "B" (.int (0 : Int32)) := F_coder_b2_9.other W10 (Or.inl ne_b2_b9)
      have F_value_b2_10 : Fld Z h10 b2 "java/lang/String" "value" "[B" (.ref t6) := F_value_b2_9.other W10 (Or.inl ne_b2_b9)
      have V_t6_10 : Arv Z h10 t6 kb6 .byte (2 : Int32) ((([ch4, ch5] : List Int32).map (fun c => c.toInt8.toInt32)).map Value.int) (.int 0) := V_t6_9.other W10 ne_t6_b9
      have E_b8_10 : Exa Z h10 b8 "java/lang/String" := E_b8_9.wr W10
      have F_coder_b8_10 : Fld Z h10 b8 "java/lang/String" "coder" "B" (.int (0 : Int32)) := F_coder_b8_9.other W10 (Or.inl ne_b8_b9)
      have F_value_b8_10 : Fld Z h10 b8 "java/lang/String" "value" "[B" .null := F_value_b8_9.other W10 (Or.inl ne_b8_b9)
      have K_10 : Keep h0 h10 [] := K_9.wr W10 (Or.inr sz_b9)
      have N10 := Fr.snoc X10 N6 g_b9
      obtain ⟨ch10, hch10⟩ : ∃ z, z = (nar .char (p2 &&& (255 : Int32)).toUInt32.toUInt16.toUInt32.toInt32) := ⟨_, rfl⟩
      have bch10 : ¬ ch10 < 0 ∧ ¬ (255 : Int32) < ch10 := by rw [hch10]; exact own_c255 _
      have V_b9_10 : Arv Z h10 b9 k9 .char (3 : Int32) [(.int ch10), (.int (0 : Int32)), (.int (0 : Int32))] (.int (0 : Int32)) := by rw [hch10]; exact Arv.set Ar10 q10 Sz10 Nn10 Hh10 Gg10 (fits_nar_char _) W10 0 rfl (Nat.le_of_ble_eq_true rfl)
      refine own_step (T' := T10) (g' := (mkF m 69 #[.val (.int p0), .val (.int p1), .val (.int p2), .val (.int p3), .val (.ref b2), .unset, .unset, .unset, .unset, .unset] [(.ref b9), (.ref b8), (.ref b8)])) st10 ?_
      refine own_step (T' := T10) (g' := (mkF m 70 #[.val (.int p0), .val (.int p1), .val (.int p2), .val (.int p3), .val (.ref b2), .unset, .unset, .unset, .unset, .unset] [(.ref b9), (.ref b9), (.ref b8), (.ref b8)])) (fun t k => XS.dup X10.here hx rfl (hb hby at_69) rfl rfl k) ?_
      refine own_step (T' := T10) (g' := (mkF m 71 #[.val (.int p0), .val (.int p1), .val (.int p2), .val (.int p3), .val (.ref b2), .unset, .unset, .unset, .unset, .unset] [(.int (1 : Int32)), (.ref b9), (.ref b9), (.ref b8), (.ref b8)])) (fun t k => XS.iconst X10.here hx rfl (hb hby at_70) k) ?_
      refine own_step (T' := T10) (g' := (mkF m 72 #[.val (.int p0), .val (.int p1), .val (.int p2), .val (.int p3), .val (.ref b2), .unset, .unset, .unset, .unset, .unset] [(.int p2), (.int (1 : Int32)), (.ref b9), (.ref b9), (.ref b8), (.ref b8)])) (fun t k => XS.iloadN X10.here hx rfl (hb hby at_71) rfl k) ?_
      refine own_step (T' := T10) (g' := (mkF m 74 #[.val (.int p0), .val (.int p1), .val (.int p2), .val (.int p3), .val (.ref b2), .unset, .unset, .unset, .unset, .unset] [(.int (8 : Int32)), (.int p2), (.int (1 : Int32)), (.ref b9), (.ref b9), (.ref b8), (.ref b8)])) (fun t k => XS.bipush X10.here hx rfl (hb hby at_72) k) ?_
      refine own_step (T' := T10) (g' := (mkF m 75 #[.val (.int p0), .val (.int p1), .val (.int p2), .val (.int p3), .val (.ref b2), .unset, .unset, .unset, .unset, .unset] [(.int (p2.toUInt32 >>> ((8 : Int32) &&& 31).toUInt32).toInt32), (.int (1 : Int32)), (.ref b9), (.ref b9), (.ref b8), (.ref b8)])) (fun t k => XS.iushr X10.here hx rfl (hb hby at_74) rfl k) ?_
      refine own_step (T' := T10) (g' := (mkF m 78 #[.val (.int p0), .val (.int p1), .val (.int p2), .val (.int p3), .val (.ref b2), .unset, .unset, .unset, .unset, .unset] [(.int (255 : Int32)), (.int (p2.toUInt32 >>> ((8 : Int32) &&& 31).toUInt32).toInt32), (.int (1 : Int32)), (.ref b9), (.ref b9), (.ref b8), (.ref b8)])) (fun t k => XS.sipush X10.here hx rfl (hb hby at_75) k) ?_
      refine own_step (T' := T10) (g' := (mkF m 79 #[.val (.int p0), .val (.int p1), .val (.int p2), .val (.int p3), .val (.ref b2), .unset, .unset, .unset, .unset, .unset] [(.int ((p2.toUInt32 >>> ((8 : Int32) &&& 31).toUInt32).toInt32 &&& (255 : Int32))), (.int (1 : Int32)), (.ref b9), (.ref b9), (.ref b8), (.ref b8)])) (fun t k => XS.iand X10.here hx rfl (hb hby at_78) rfl k) ?_
      refine own_step (T' := T10) (g' := (mkF m 80 #[.val (.int p0), .val (.int p1), .val (.int p2), .val (.int p3), .val (.ref b2), .unset, .unset, .unset, .unset, .unset] [(.int ((p2.toUInt32 >>> ((8 : Int32) &&& 31).toUInt32).toInt32 &&& (255 : Int32)).toUInt32.toUInt16.toUInt32.toInt32), (.int (1 : Int32)), (.ref b9), (.ref b9), (.ref b8), (.ref b8)])) (fun t k => XS.i2c X10.here hx rfl (hb hby at_79) rfl k) ?_
      obtain ⟨cl11, Ar11, q11, Sz11, Nn11, Hh11, Gg11⟩ := id V_b9_10
      have hin11 : ¬ ((1 : Int32) < 0 ∨ cl11.slots.size ≤ ((1 : Int32)).toNatClampNeg) := inb_of Sz11 ⟨by decide, by decide⟩
      obtain ⟨T11, h11, X11, e11, W11, st11⟩ := stC X10 hx hZ e10 Ar11 (j := (1 : Int32)) hin11 (g := (mkF m 80 #[.val (.int p0), .val (.int p1), .val (.int p2), .val (.int p3), .val (.ref b2), .unset, .unset, .unset, .unset, .unset] [(.int ((p2.toUInt32 >>> ((8 : Int32) &&& 31).toUInt32).toInt32 &&& (255 : Int32)).toUInt32.toUInt16.toUInt32.toInt32), (.int (1 : Int32)), (.ref b9), (.ref b9), (.ref b8), (.ref b8)])) rfl rfl (hb hby at_80)
      have S_COMPACT_STRINGS_11 : Sta Z h11 "java/lang/String" "COMPACT_STRINGS" "Z" (.int G1) := S_COMPACT_STRINGS_10.wr W11
      have E_b2_11 : Exa Z h11 b2 "java/lang/String" := E_b2_10.wr W11
      have V_b3_11 : Arv Z h11 b3 k3 .char (2 : Int32) [(.int ch4), (.int ch5)] (.int (0 : Int32)) := V_b3_10.other W11 ne_b3_b9
      have F_coder_b2_11 : Fld Z h11 b2 "java/lang/String" "coder" "B" (.int (0 : Int32)) := F_coder_b2_10.other W11 (Or.inl ne_b2_b9)
      have F_value_b2_11 : Fld Z h11 b2 "java/lang/String" "value" "[B" (.ref t6) := F_value_b2_10.other W11 (Or.inl ne_b2_b9)
      have V_t6_11 : Arv Z h11 t6 kb6 .byte (2 : Int32) ((([ch4, ch5] : List Int32).map (fun c => c.toInt8.toInt32)).map Value.int) (.int 0) := V_t6_10.other W11 ne_t6_b9
      have E_b8_11 : Exa Z h11 b8 "java/lang/String" := E_b8_10.wr W11
      have F_coder_b8_11 : Fld Z h11 b8 "java/lang/String" "coder" "B" (.int (0 : Int32)) := F_coder_b8_10.other W11 (Or.inl ne_b8_b9)
      have F_value_b8_11 : Fld Z h11 b8 "java/lang/String" "value" "[B" .null := F_value_b8_10.other W11 (Or.inl ne_b8_b9)
      have K_11 : Keep h0 h11 [] := K_10.wr W11 (Or.inr sz_b9)
      have N11 := Fr.snoc X11 N10 g_b9
      obtain ⟨ch11, hch11⟩ : ∃ z, z = (nar .char ((p2.toUInt32 >>> ((8 : Int32) &&& 31).toUInt32).toInt32 &&& (255 : Int32)).toUInt32.toUInt16.toUInt32.toInt32) := ⟨_, rfl⟩
      have bch11 : ¬ ch11 < 0 ∧ ¬ (255 : Int32) < ch11 := by rw [hch11]; exact own_c255 _
      have V_b9_11 : Arv Z h11 b9 k9 .char (3 : Int32) [(.int ch10), (.int ch11), (.int (0 : Int32))] (.int (0 : Int32)) := by rw [hch11]; exact Arv.set Ar11 q11 Sz11 Nn11 Hh11 Gg11 (fits_nar_char _) W11 1 rfl (Nat.le_of_ble_eq_true rfl)
      refine own_step (T' := T11) (g' := (mkF m 81 #[.val (.int p0), .val (.int p1), .val (.int p2), .val (.int p3), .val (.ref b2), .unset, .unset, .unset, .unset, .unset] [(.ref b9), (.ref b8), (.ref b8)])) st11 ?_
      refine own_step (T' := T11) (g' := (mkF m 82 #[.val (.int p0), .val (.int p1), .val (.int p2), .val (.int p3), .val (.ref b2), .unset, .unset, .unset, .unset, .unset] [(.ref b9), (.ref b9), (.ref b8), (.ref b8)])) (fun t k => XS.dup X11.here hx rfl (hb hby at_81) rfl rfl k) ?_
      refine own_step (T' := T11) (g' := (mkF m 83 #[.val (.int p0), .val (.int p1), .val (.int p2), .val (.int p3), .val (.ref b2), .unset, .unset, .unset, .unset, .unset] [(.int (2 : Int32)), (.ref b9), (.ref b9), (.ref b8), (.ref b8)])) (fun t k => XS.iconst X11.here hx rfl (hb hby at_82) k) ?_
      refine own_step (T' := T11) (g' := (mkF m 84 #[.val (.int p0), .val (.int p1), .val (.int p2), .val (.int p3), .val (.ref b2), .unset, .unset, .unset, .unset, .unset] [(.int p2), (.int (2 : Int32)), (.ref b9), (.ref b9), (.ref b8), (.ref b8)])) (fun t k => XS.iloadN X11.here hx rfl (hb hby at_83) rfl k) ?_
      refine own_step (T' := T11) (g' := (mkF m 86 #[.val (.int p0), .val (.int p1), .val (.int p2), .val (.int p3), .val (.ref b2), .unset, .unset, .unset, .unset, .unset] [(.int (16 : Int32)), (.int p2), (.int (2 : Int32)), (.ref b9), (.ref b9), (.ref b8), (.ref b8)])) (fun t k => XS.bipush X11.here hx rfl (hb hby at_84) k) ?_
      refine own_step (T' := T11) (g' := (mkF m 87 #[.val (.int p0), .val (.int p1), .val (.int p2), .val (.int p3), .val (.ref b2), .unset, .unset, .unset, .unset, .unset] [(.int (p2.toUInt32 >>> ((16 : Int32) &&& 31).toUInt32).toInt32), (.int (2 : Int32)), (.ref b9), (.ref b9), (.ref b8), (.ref b8)])) (fun t k => XS.iushr X11.here hx rfl (hb hby at_86) rfl k) ?_
      refine own_step (T' := T11) (g' := (mkF m 90 #[.val (.int p0), .val (.int p1), .val (.int p2), .val (.int p3), .val (.ref b2), .unset, .unset, .unset, .unset, .unset] [(.int (255 : Int32)), (.int (p2.toUInt32 >>> ((16 : Int32) &&& 31).toUInt32).toInt32), (.int (2 : Int32)), (.ref b9), (.ref b9), (.ref b8), (.ref b8)])) (fun t k => XS.sipush X11.here hx rfl (hb hby at_87) k) ?_
      refine own_step (T' := T11) (g' := (mkF m 91 #[.val (.int p0), .val (.int p1), .val (.int p2), .val (.int p3), .val (.ref b2), .unset, .unset, .unset, .unset, .unset] [(.int ((p2.toUInt32 >>> ((16 : Int32) &&& 31).toUInt32).toInt32 &&& (255 : Int32))), (.int (2 : Int32)), (.ref b9), (.ref b9), (.ref b8), (.ref b8)])) (fun t k => XS.iand X11.here hx rfl (hb hby at_90) rfl k) ?_
      refine own_step (T' := T11) (g' := (mkF m 92 #[.val (.int p0), .val (.int p1), .val (.int p2), .val (.int p3), .val (.ref b2), .unset, .unset, .unset, .unset, .unset] [(.int ((p2.toUInt32 >>> ((16 : Int32) &&& 31).toUInt32).toInt32 &&& (255 : Int32)).toUInt32.toUInt16.toUInt32.toInt32), (.int (2 : Int32)), (.ref b9), (.ref b9), (.ref b8), (.ref b8)])) (fun t k => XS.i2c X11.here hx rfl (hb hby at_91) rfl k) ?_
      obtain ⟨cl12, Ar12, q12, Sz12, Nn12, Hh12, Gg12⟩ := id V_b9_11
      have hin12 : ¬ ((2 : Int32) < 0 ∨ cl12.slots.size ≤ ((2 : Int32)).toNatClampNeg) := inb_of Sz12 ⟨by decide, by decide⟩
      obtain ⟨T12, h12, X12, e12, W12, st12⟩ := stC X11 hx hZ e11 Ar12 (j := (2 : Int32)) hin12 (g := (mkF m 92 #[.val (.int p0), .val (.int p1), .val (.int p2), .val (.int p3), .val (.ref b2), .unset, .unset, .unset, .unset, .unset] [(.int ((p2.toUInt32 >>> ((16 : Int32) &&& 31).toUInt32).toInt32 &&& (255 : Int32)).toUInt32.toUInt16.toUInt32.toInt32), (.int (2 : Int32)), (.ref b9), (.ref b9), (.ref b8), (.ref b8)])) rfl rfl (hb hby at_92)
      have S_COMPACT_STRINGS_12 : Sta Z h12 "java/lang/String" "COMPACT_STRINGS" "Z" (.int G1) := S_COMPACT_STRINGS_11.wr W12
      have E_b2_12 : Exa Z h12 b2 "java/lang/String" := E_b2_11.wr W12
      have V_b3_12 : Arv Z h12 b3 k3 .char (2 : Int32) [(.int ch4), (.int ch5)] (.int (0 : Int32)) := V_b3_11.other W12 ne_b3_b9
      have F_coder_b2_12 : Fld Z h12 b2 "java/lang/String" "coder" "B" (.int (0 : Int32)) := F_coder_b2_11.other W12 (Or.inl ne_b2_b9)
      have F_value_b2_12 : Fld Z h12 b2 "java/lang/String" "value" "[B" (.ref t6) := F_value_b2_11.other W12 (Or.inl ne_b2_b9)
      have V_t6_12 : Arv Z h12 t6 kb6 .byte (2 : Int32) ((([ch4, ch5] : List Int32).map (fun c => c.toInt8.toInt32)).map Value.int) (.int 0) := V_t6_11.other W12 ne_t6_b9
      have E_b8_12 : Exa Z h12 b8 "java/lang/String" := E_b8_11.wr W12
      have F_coder_b8_12 : Fld Z h12 b8 "java/lang/String" "coder" "B" (.int (0 : Int32)) := F_coder_b8_11.other W12 (Or.inl ne_b8_b9)
      have F_value_b8_12 : Fld Z h12 b8 "java/lang/String" "value" "[B" .null := F_value_b8_11.other W12 (Or.inl ne_b8_b9)
      have K_12 : Keep h0 h12 [] := K_11.wr W12 (Or.inr sz_b9)
      have N12 := Fr.snoc X12 N11 g_b9
      obtain ⟨ch12, hch12⟩ : ∃ z, z = (nar .char ((p2.toUInt32 >>> ((16 : Int32) &&& 31).toUInt32).toInt32 &&& (255 : Int32)).toUInt32.toUInt16.toUInt32.toInt32) := ⟨_, rfl⟩
      have bch12 : ¬ ch12 < 0 ∧ ¬ (255 : Int32) < ch12 := by rw [hch12]; exact own_c255 _
      have V_b9_12 : Arv Z h12 b9 k9 .char (3 : Int32) [(.int ch10), (.int ch11), (.int ch12)] (.int (0 : Int32)) := by rw [hch12]; exact Arv.set Ar12 q12 Sz12 Nn12 Hh12 Gg12 (fits_nar_char _) W12 2 rfl (Nat.le_of_ble_eq_true rfl)
      refine own_step (T' := T12) (g' := (mkF m 93 #[.val (.int p0), .val (.int p1), .val (.int p2), .val (.int p3), .val (.ref b2), .unset, .unset, .unset, .unset, .unset] [(.ref b9), (.ref b8), (.ref b8)])) st12 ?_
      have hp13 : ∀ c ∈ ([ch10, ch11, ch12] : List Int32), ¬ c < 0 ∧ ¬ (255 : Int32) < c := by
        intro c hc
        simp only [List.mem_cons, List.not_mem_nil, or_false] at hc
        rcases hc with rfl | rfl | rfl
        · exact bch10
        · exact bch11
        · exact bch12
      obtain ⟨_, _, ⟨T13, L13, kk13, nn13⟩, -, X13, ⟨Lc13, hQ13, l13, y13, z13⟩, st13⟩ := X12.specialBack hx (y := (⟨"java/lang/String", "<init>", "([C)V"⟩ : MethodName)) rfl hown (mvT hZ (hw _ (List.mem_of_getElem? (i := 4) rfl))) (mvT hZ (hw _ (List.mem_of_getElem? (i := 5) rfl))) (mvT hZ (hw _ (List.mem_of_getElem? (i := 6) rfl))) (by decide) (StrChars.Road.backV (W := 1) hZ hws (kI := 4) (hw _ (List.mem_of_getElem? (i := 1) rfl)) (cs := ([ch10, ch11, ch12] : List Int32)) (bs := ([ch10, ch11, ch12] : List Int32).map (fun c => c.toInt8.toInt32)) (n := 3) g_b8 (Nat.le_trans Z0 K_12.1) E_b8_12 F_value_b8_12 F_coder_b8_12 V_b9_12 S_COMPACT_STRINGS_12 P5 rfl rfl (by decide) (by decide) hp13 rfl (by decide) (by decide)) (g := (mkF m 93 #[.val (.int p0), .val (.int p1), .val (.int p2), .val (.int p3), .val (.ref b2), .unset, .unset, .unset, .unset, .unset] [(.ref b9), (.ref b8), (.ref b8)])) rfl (by rw [hml]; rfl) (Steps.refl _) (a := b8) (argsL := [(.ref b9)]) (rest := [(.ref b8)]) (lenOf pd_0 rfl) rfl (by show 2 * 0 + _ ≤ _; exact Nat.le_of_eq rfl) (hb hby at_93) (fun _ _ => ⟨rfl, e12, (by decide : 5 + 1 ≤ _), (by decide : 15 + 3 ≤ _)⟩)
      dsimp only [Pt.U, Pt.locs, Pt.cells, Pt.slots] at X13 l13 y13 z13 st13 hQ13
      rw [l13, y13, z13] at X13
      obtain ⟨rfl, N13q, Kq13, pe13, pc13, t13, kb13, gt13, st13', nt13, pv13, pa13⟩ := hQ13
      have N13 := Fr.app N12 N13q
      have S_COMPACT_STRINGS_13 : Sta Z T13.heap "java/lang/String" "COMPACT_STRINGS" "Z" (.int G1) := own_sta_keep S_COMPACT_STRINGS_12 Kq13 (allS E_b8_12.nostat all0)
      have E_b2_13 : Exa Z T13.heap b2 "java/lang/String" := E_b2_12.keep Kq13
      have V_b3_13 : Arv Z T13.heap b3 k3 .char (2 : Int32) [(.int ch4), (.int ch5)] (.int (0 : Int32)) := V_b3_12.keep Kq13 (ninS ne_b3_b8 nin0)
      have F_coder_b2_13 : Fld Z T13.heap b2 "java/lang/String" "coder" "B" (.int (0 : Int32)) := F_coder_b2_12.keep Kq13 (ninS ne_b2_b8 nin0)
      have F_value_b2_13 : Fld Z T13.heap b2 "java/lang/String" "value" "[B" (.ref t6) := F_value_b2_12.keep Kq13 (ninS ne_b2_b8 nin0)
      have V_t6_13 : Arv Z T13.heap t6 kb6 .byte (2 : Int32) ((([ch4, ch5] : List Int32).map (fun c => c.toInt8.toInt32)).map Value.int) (.int 0) := V_t6_12.keep Kq13 (ninS ne_t6_b8 nin0)
      have E_b8_13 : Exa Z T13.heap b8 "java/lang/String" := E_b8_12.keep Kq13
      have V_b9_13 : Arv Z T13.heap b9 k9 .char (3 : Int32) [(.int ch10), (.int ch11), (.int ch12)] (.int (0 : Int32)) := V_b9_12.keep Kq13 (ninS (Ne.symm ne_b8_b9) nin0)
      have K_13 : Keep h0 T13.heap [] := K_12.trans Kq13 (allS (Or.inr sz_b8) all0)
      have sz_t13 : h0.size ≤ t13 := Nat.le_trans K_12.1 st13'
      have ne_b2_t13 : b2 ≠ t13 := Nat.ne_of_lt (Nat.lt_of_lt_of_le E_b2_12.lt st13')
      have ne_b3_t13 : b3 ≠ t13 := Nat.ne_of_lt (Nat.lt_of_lt_of_le V_b3_12.lt st13')
      have ne_t6_t13 : t6 ≠ t13 := Nat.ne_of_lt (Nat.lt_of_lt_of_le V_t6_12.lt st13')
      have ne_b8_t13 : b8 ≠ t13 := Nat.ne_of_lt (Nat.lt_of_lt_of_le E_b8_12.lt st13')
      have ne_b9_t13 : b9 ≠ t13 := Nat.ne_of_lt (Nat.lt_of_lt_of_le V_b9_12.lt st13')
      refine own_step (T' := T13) (g' := (mkF m 96 #[.val (.int p0), .val (.int p1), .val (.int p2), .val (.int p3), .val (.ref b2), .unset, .unset, .unset, .unset, .unset] [(.ref b8)])) (fun t k => st13.trans k) ?_
      refine own_step (T' := T13) (g' := (mkF m 98 #[.val (.int p0), .val (.int p1), .val (.int p2), .val (.int p3), .val (.ref b2), .val (.ref b8), .unset, .unset, .unset, .unset] [])) (fun t k => XS.astore X13.here hx rfl (hb hby at_96) rfl rfl (l' := #[.val (.int p0), .val (.int p1), .val (.int p2), .val (.int p3), .val (.ref b2), .val (.ref b8), .unset, .unset, .unset, .unset]) rfl k) ?_
      obtain ⟨T14, h14, X14, e14, E14, A14, D14, -, st14⟩ := newO X13 hx hZ hown (hw _ (List.mem_of_getElem? (i := 0) rfl)) (hw _ (List.mem_of_getElem? (i := 1) rfl)) (hw _ (List.mem_of_getElem? (i := 2) rfl)) rfl (g := (mkF m 98 #[.val (.int p0), .val (.int p1), .val (.int p2), .val (.int p3), .val (.ref b2), .val (.ref b8), .unset, .unset, .unset, .unset] [])) rfl (hb hby at_98) (by decide) (by decide)
      obtain ⟨b14, g14⟩ : ∃ z, z = T13.heap.size := ⟨_, rfl⟩
      rw [← g14] at A14 D14 st14
      have S_COMPACT_STRINGS_14 : Sta Z h14 "java/lang/String" "COMPACT_STRINGS" "Z" (.int G1) := S_COMPACT_STRINGS_13.ext E14
      have E_b2_14 : Exa Z h14 b2 "java/lang/String" := E_b2_13.ext E14
      have V_b3_14 : Arv Z h14 b3 k3 .char (2 : Int32) [(.int ch4), (.int ch5)] (.int (0 : Int32)) := V_b3_13.ext E14
      have F_coder_b2_14 : Fld Z h14 b2 "java/lang/String" "coder" "B" (.int (0 : Int32)) := F_coder_b2_13.ext E14
      have F_value_b2_14 : Fld Z h14 b2 "java/lang/String" "value" "[B" (.ref t6) := F_value_b2_13.ext E14
      have V_t6_14 : Arv Z h14 t6 kb6 .byte (2 : Int32) ((([ch4, ch5] : List Int32).map (fun c => c.toInt8.toInt32)).map Value.int) (.int 0) := V_t6_13.ext E14
      have E_b8_14 : Exa Z h14 b8 "java/lang/String" := E_b8_13.ext E14
      have V_b9_14 : Arv Z h14 b9 k9 .char (3 : Int32) [(.int ch10), (.int ch11), (.int ch12)] (.int (0 : Int32)) := V_b9_13.ext E14
      have F_coder_b8_14 : Fld Z h14 b8 "java/lang/String" "coder" "B" (.int (0 : Int32)) := pc13.ext E14
      have F_value_b8_14 : Fld Z h14 b8 "java/lang/String" "value" "[B" (.ref t13) := pv13.ext E14
      have V_t13_14 : Arv Z h14 t13 kb13 .byte (3 : Int32) ((([ch10, ch11, ch12] : List Int32).map (fun c => c.toInt8.toInt32)).map Value.int) (.int 0) := pa13.ext E14
      have K_14 : Keep h0 h14 [] := K_13.ext E14
      have sz_b14 : h0.size ≤ b14 := Nat.le_trans K_13.1 (Nat.le_of_eq g14.symm)
      have g_b14 : n0 ≤ b14 := Nat.le_trans Z0 sz_b14
      have ne_b2_b14 : b2 ≠ b14 := Nat.ne_of_lt (Nat.lt_of_lt_of_le E_b2_13.lt (Nat.le_of_eq g14.symm))
      have ne_b3_b14 : b3 ≠ b14 := Nat.ne_of_lt (Nat.lt_of_lt_of_le V_b3_13.lt (Nat.le_of_eq g14.symm))
      have ne_t6_b14 : t6 ≠ b14 := Nat.ne_of_lt (Nat.lt_of_lt_of_le V_t6_13.lt (Nat.le_of_eq g14.symm))
      have ne_b8_b14 : b8 ≠ b14 := Nat.ne_of_lt (Nat.lt_of_lt_of_le E_b8_13.lt (Nat.le_of_eq g14.symm))
      have ne_b9_b14 : b9 ≠ b14 := Nat.ne_of_lt (Nat.lt_of_lt_of_le V_b9_13.lt (Nat.le_of_eq g14.symm))
      have ne_t13_b14 : t13 ≠ b14 := Nat.ne_of_lt (Nat.lt_of_lt_of_le pa13.lt (Nat.le_of_eq g14.symm))
      have E_b14 : Exa Z h14 b14 "java/lang/String" := A14
      have F_coder_b14 : Fld Z h14 b14 "java/lang/String" "coder" "B" (.int (0 : Int32)) := D14 (Or.inr (hw _ (List.mem_of_getElem? (i := 27) rfl))) (ty := .byte) (by decide)
      have F_value_b14 : Fld Z h14 b14 "java/lang/String" "value" "[B" .null := D14 (Or.inr (hw _ (List.mem_of_getElem? (i := 29) rfl))) (ty := (.array .byte)) (by decide)
      refine own_step (T' := T14) (g' := (mkF m 101 #[.val (.int p0), .val (.int p1), .val (.int p2), .val (.int p3), .val (.ref b2), .val (.ref b8), .unset, .unset, .unset, .unset] [(.ref b14)])) st14 ?_
      refine own_step (T' := T14) (g' := (mkF m 102 #[.val (.int p0), .val (.int p1), .val (.int p2), .val (.int p3), .val (.ref b2), .val (.ref b8), .unset, .unset, .unset, .unset] [(.ref b14), (.ref b14)])) (fun t k => XS.dup X14.here hx rfl (hb hby at_101) rfl rfl k) ?_
      refine own_step (T' := T14) (g' := (mkF m 103 #[.val (.int p0), .val (.int p1), .val (.int p2), .val (.int p3), .val (.ref b2), .val (.ref b8), .unset, .unset, .unset, .unset] [(.int (2 : Int32)), (.ref b14), (.ref b14)])) (fun t k => XS.iconst X14.here hx rfl (hb hby at_102) k) ?_
      obtain ⟨T15, h15, k15, X15, e15, E15, A15, st15⟩ := newP X14 hx hZ (hw _ (List.mem_of_getElem? (i := 3) rfl)) e14 (g := (mkF m 103 #[.val (.int p0), .val (.int p1), .val (.int p2), .val (.int p3), .val (.ref b2), .val (.ref b8), .unset, .unset, .unset, .unset] [(.int (2 : Int32)), (.ref b14), (.ref b14)])) rfl (hb hby at_103) rfl (by decide) (cap := 2) (by decide) (by decide) (by decide) (by decide)
      obtain ⟨b15, g15⟩ : ∃ z, z = h14.size := ⟨_, rfl⟩
      rw [← g15] at A15 st15
      have S_COMPACT_STRINGS_15 : Sta Z h15 "java/lang/String" "COMPACT_STRINGS" "Z" (.int G1) := S_COMPACT_STRINGS_14.ext E15
      have E_b2_15 : Exa Z h15 b2 "java/lang/String" := E_b2_14.ext E15
      have V_b3_15 : Arv Z h15 b3 k3 .char (2 : Int32) [(.int ch4), (.int ch5)] (.int (0 : Int32)) := V_b3_14.ext E15
      have F_coder_b2_15 : Fld Z h15 b2 "java/lang/String" "coder" "B" (.int (0 : Int32)) := F_coder_b2_14.ext E15
      have F_value_b2_15 : Fld Z h15 b2 "java/lang/String" "value" "[B" (.ref t6) := F_value_b2_14.ext E15
      have V_t6_15 : Arv Z h15 t6 kb6 .byte (2 : Int32) ((([ch4, ch5] : List Int32).map (fun c => c.toInt8.toInt32)).map Value.int) (.int 0) := V_t6_14.ext E15
      have E_b8_15 : Exa Z h15 b8 "java/lang/String" := E_b8_14.ext E15
      have V_b9_15 : Arv Z h15 b9 k9 .char (3 : Int32) [(.int ch10), (.int ch11), (.int ch12)] (.int (0 : Int32)) := V_b9_14.ext E15
      have F_coder_b8_15 : Fld Z h15 b8 "java/lang/String" "coder" "B" (.int (0 : Int32)) := F_coder_b8_14.ext E15
      have F_value_b8_15 : Fld Z h15 b8 "java/lang/String" "value" "[B" (.ref t13) := F_value_b8_14.ext E15
      have V_t13_15 : Arv Z h15 t13 kb13 .byte (3 : Int32) ((([ch10, ch11, ch12] : List Int32).map (fun c => c.toInt8.toInt32)).map Value.int) (.int 0) := V_t13_14.ext E15
      have E_b14_15 : Exa Z h15 b14 "java/lang/String" := E_b14.ext E15
      have F_coder_b14_15 : Fld Z h15 b14 "java/lang/String" "coder" "B" (.int (0 : Int32)) := F_coder_b14.ext E15
      have F_value_b14_15 : Fld Z h15 b14 "java/lang/String" "value" "[B" .null := F_value_b14.ext E15
      have K_15 : Keep h0 h15 [] := K_14.ext E15
      have sz_b15 : h0.size ≤ b15 := Nat.le_trans K_14.1 (Nat.le_of_eq g15.symm)
      have g_b15 : n0 ≤ b15 := Nat.le_trans Z0 sz_b15
      have ne_b2_b15 : b2 ≠ b15 := Nat.ne_of_lt (Nat.lt_of_lt_of_le E_b2_14.lt (Nat.le_of_eq g15.symm))
      have ne_b3_b15 : b3 ≠ b15 := Nat.ne_of_lt (Nat.lt_of_lt_of_le V_b3_14.lt (Nat.le_of_eq g15.symm))
      have ne_t6_b15 : t6 ≠ b15 := Nat.ne_of_lt (Nat.lt_of_lt_of_le V_t6_14.lt (Nat.le_of_eq g15.symm))
      have ne_b8_b15 : b8 ≠ b15 := Nat.ne_of_lt (Nat.lt_of_lt_of_le E_b8_14.lt (Nat.le_of_eq g15.symm))
      have ne_b9_b15 : b9 ≠ b15 := Nat.ne_of_lt (Nat.lt_of_lt_of_le V_b9_14.lt (Nat.le_of_eq g15.symm))
      have ne_t13_b15 : t13 ≠ b15 := Nat.ne_of_lt (Nat.lt_of_lt_of_le V_t13_14.lt (Nat.le_of_eq g15.symm))
      have ne_b14_b15 : b14 ≠ b15 := Nat.ne_of_lt (Nat.lt_of_lt_of_le E_b14.lt (Nat.le_of_eq g15.symm))
      have V_b15 : Arv Z h15 b15 k15 .char (2 : Int32) [(.int (0 : Int32)), (.int (0 : Int32))] (.int (0 : Int32)) := (Arv.new A15 (by decide)).pad (pad_rep [] (.int (0 : Int32)) 2)
      refine own_step (T' := T15) (g' := (mkF m 105 #[.val (.int p0), .val (.int p1), .val (.int p2), .val (.int p3), .val (.ref b2), .val (.ref b8), .unset, .unset, .unset, .unset] [(.ref b15), (.ref b14), (.ref b14)])) st15 ?_
      refine own_step (T' := T15) (g' := (mkF m 106 #[.val (.int p0), .val (.int p1), .val (.int p2), .val (.int p3), .val (.ref b2), .val (.ref b8), .unset, .unset, .unset, .unset] [(.ref b15), (.ref b15), (.ref b14), (.ref b14)])) (fun t k => XS.dup X15.here hx rfl (hb hby at_105) rfl rfl k) ?_
      refine own_step (T' := T15) (g' := (mkF m 107 #[.val (.int p0), .val (.int p1), .val (.int p2), .val (.int p3), .val (.ref b2), .val (.ref b8), .unset, .unset, .unset, .unset] [(.int (0 : Int32)), (.ref b15), (.ref b15), (.ref b14), (.ref b14)])) (fun t k => XS.iconst X15.here hx rfl (hb hby at_106) k) ?_
      refine own_step (T' := T15) (g' := (mkF m 108 #[.val (.int p0), .val (.int p1), .val (.int p2), .val (.int p3), .val (.ref b2), .val (.ref b8), .unset, .unset, .unset, .unset] [(.int p3), (.int (0 : Int32)), (.ref b15), (.ref b15), (.ref b14), (.ref b14)])) (fun t k => XS.iloadN X15.here hx rfl (hb hby at_107) rfl k) ?_
      refine own_step (T' := T15) (g' := (mkF m 111 #[.val (.int p0), .val (.int p1), .val (.int p2), .val (.int p3), .val (.ref b2), .val (.ref b8), .unset, .unset, .unset, .unset] [(.int (255 : Int32)), (.int p3), (.int (0 : Int32)), (.ref b15), (.ref b15), (.ref b14), (.ref b14)])) (fun t k => XS.sipush X15.here hx rfl (hb hby at_108) k) ?_
      refine own_step (T' := T15) (g' := (mkF m 112 #[.val (.int p0), .val (.int p1), .val (.int p2), .val (.int p3), .val (.ref b2), .val (.ref b8), .unset, .unset, .unset, .unset] [(.int (p3 &&& (255 : Int32))), (.int (0 : Int32)), (.ref b15), (.ref b15), (.ref b14), (.ref b14)])) (fun t k => XS.iand X15.here hx rfl (hb hby at_111) rfl k) ?_
      refine own_step (T' := T15) (g' := (mkF m 113 #[.val (.int p0), .val (.int p1), .val (.int p2), .val (.int p3), .val (.ref b2), .val (.ref b8), .unset, .unset, .unset, .unset] [(.int (p3 &&& (255 : Int32)).toUInt32.toUInt16.toUInt32.toInt32), (.int (0 : Int32)), (.ref b15), (.ref b15), (.ref b14), (.ref b14)])) (fun t k => XS.i2c X15.here hx rfl (hb hby at_112) rfl k) ?_
      obtain ⟨cl16, Ar16, q16, Sz16, Nn16, Hh16, Gg16⟩ := id V_b15
      have hin16 : ¬ ((0 : Int32) < 0 ∨ cl16.slots.size ≤ ((0 : Int32)).toNatClampNeg) := inb_of Sz16 ⟨by decide, by decide⟩
      obtain ⟨T16, h16, X16, e16, W16, st16⟩ := stC X15 hx hZ e15 Ar16 (j := (0 : Int32)) hin16 (g := (mkF m 113 #[.val (.int p0), .val (.int p1), .val (.int p2), .val (.int p3), .val (.ref b2), .val (.ref b8), .unset, .unset, .unset, .unset] [(.int (p3 &&& (255 : Int32)).toUInt32.toUInt16.toUInt32.toInt32), (.int (0 : Int32)), (.ref b15), (.ref b15), (.ref b14), (.ref b14)])) rfl rfl (hb hby at_113)
      have S_COMPACT_STRINGS_16 : Sta Z h16 "java/lang/String" "COMPACT_STRINGS" "Z" (.int G1) := S_COMPACT_STRINGS_15.wr W16
      have E_b2_16 : Exa Z h16 b2 "java/lang/String" := E_b2_15.wr W16
      have V_b3_16 : Arv Z h16 b3 k3 .char (2 : Int32) [(.int ch4), (.int ch5)] (.int (0 : Int32)) := V_b3_15.other W16 ne_b3_b15
      have F_coder_b2_16 : Fld Z h16 b2 "java/lang/String" "coder" "B" (.int (0 : Int32)) := F_coder_b2_15.other W16 (Or.inl ne_b2_b15)
      have F_value_b2_16 : Fld Z h16 b2 "java/lang/String" "value" "[B" (.ref t6) := F_value_b2_15.other W16 (Or.inl ne_b2_b15)
      have V_t6_16 : Arv Z h16 t6 kb6 .byte (2 : Int32) ((([ch4, ch5] : List Int32).map (fun c => c.toInt8.toInt32)).map Value.int) (.int 0) := V_t6_15.other W16 ne_t6_b15
      have E_b8_16 : Exa Z h16 b8 "java/lang/String" := E_b8_15.wr W16
      have V_b9_16 : Arv Z h16 b9 k9 .char (3 : Int32) [(.int ch10), (.int ch11), (.int ch12)] (.int (0 : Int32)) := V_b9_15.other W16 ne_b9_b15
      have F_coder_b8_16 : Fld Z h16 b8 "java/lang/String" "coder" "B" (.int (0 : Int32)) := F_coder_b8_15.other W16 (Or.inl ne_b8_b15)
      have F_value_b8_16 : Fld Z h16 b8 "java/lang/String" "value" "[B" (.ref t13) := F_value_b8_15.other W16 (Or.inl ne_b8_b15)
      have V_t13_16 : Arv Z h16 t13 kb13 .byte (3 : Int32) ((([ch10, ch11, ch12] : List Int32).map (fun c => c.toInt8.toInt32)).map Value.int) (.int 0) := V_t13_15.other W16 ne_t13_b15
      have E_b14_16 : Exa Z h16 b14 "java/lang/String" := E_b14_15.wr W16
      have F_coder_b14_16 : Fld Z h16 b14 "java/lang/String" "coder" "B" (.int (0 : Int32)) := F_coder_b14_15.other W16 (Or.inl ne_b14_b15)
      have F_value_b14_16 : Fld Z h16 b14 "java/lang/String" "value" "[B" .null := F_value_b14_15.other W16 (Or.inl ne_b14_b15)
      have K_16 : Keep h0 h16 [] := K_15.wr W16 (Or.inr sz_b15)
      have N16 := Fr.snoc X16 N13 g_b15
      obtain ⟨ch16, hch16⟩ : ∃ z, z = (nar .char (p3 &&& (255 : Int32)).toUInt32.toUInt16.toUInt32.toInt32) := ⟨_, rfl⟩
      have bch16 : ¬ ch16 < 0 ∧ ¬ (255 : Int32) < ch16 := by rw [hch16]; exact own_c255 _
      have V_b15_16 : Arv Z h16 b15 k15 .char (2 : Int32) [(.int ch16), (.int (0 : Int32))] (.int (0 : Int32)) := by rw [hch16]; exact Arv.set Ar16 q16 Sz16 Nn16 Hh16 Gg16 (fits_nar_char _) W16 0 rfl (Nat.le_of_ble_eq_true rfl)
      refine own_step (T' := T16) (g' := (mkF m 114 #[.val (.int p0), .val (.int p1), .val (.int p2), .val (.int p3), .val (.ref b2), .val (.ref b8), .unset, .unset, .unset, .unset] [(.ref b15), (.ref b14), (.ref b14)])) st16 ?_
      refine own_step (T' := T16) (g' := (mkF m 115 #[.val (.int p0), .val (.int p1), .val (.int p2), .val (.int p3), .val (.ref b2), .val (.ref b8), .unset, .unset, .unset, .unset] [(.ref b15), (.ref b15), (.ref b14), (.ref b14)])) (fun t k => XS.dup X16.here hx rfl (hb hby at_114) rfl rfl k) ?_
      refine own_step (T' := T16) (g' := (mkF m 116 #[.val (.int p0), .val (.int p1), .val (.int p2), .val (.int p3), .val (.ref b2), .val (.ref b8), .unset, .unset, .unset, .unset] [(.int (1 : Int32)), (.ref b15), (.ref b15), (.ref b14), (.ref b14)])) (fun t k => XS.iconst X16.here hx rfl (hb hby at_115) k) ?_
      refine own_step (T' := T16) (g' := (mkF m 117 #[.val (.int p0), .val (.int p1), .val (.int p2), .val (.int p3), .val (.ref b2), .val (.ref b8), .unset, .unset, .unset, .unset] [(.int p3), (.int (1 : Int32)), (.ref b15), (.ref b15), (.ref b14), (.ref b14)])) (fun t k => XS.iloadN X16.here hx rfl (hb hby at_116) rfl k) ?_
      refine own_step (T' := T16) (g' := (mkF m 119 #[.val (.int p0), .val (.int p1), .val (.int p2), .val (.int p3), .val (.ref b2), .val (.ref b8), .unset, .unset, .unset, .unset] [(.int (8 : Int32)), (.int p3), (.int (1 : Int32)), (.ref b15), (.ref b15), (.ref b14), (.ref b14)])) (fun t k => XS.bipush X16.here hx rfl (hb hby at_117) k) ?_
      refine own_step (T' := T16) (g' := (mkF m 120 #[.val (.int p0), .val (.int p1), .val (.int p2), .val (.int p3), .val (.ref b2), .val (.ref b8), .unset, .unset, .unset, .unset] [(.int (p3.toUInt32 >>> ((8 : Int32) &&& 31).toUInt32).toInt32), (.int (1 : Int32)), (.ref b15), (.ref b15), (.ref b14), (.ref b14)])) (fun t k => XS.iushr X16.here hx rfl (hb hby at_119) rfl k) ?_
      refine own_step (T' := T16) (g' := (mkF m 123 #[.val (.int p0), .val (.int p1), .val (.int p2), .val (.int p3), .val (.ref b2), .val (.ref b8), .unset, .unset, .unset, .unset] [(.int (255 : Int32)), (.int (p3.toUInt32 >>> ((8 : Int32) &&& 31).toUInt32).toInt32), (.int (1 : Int32)), (.ref b15), (.ref b15), (.ref b14), (.ref b14)])) (fun t k => XS.sipush X16.here hx rfl (hb hby at_120) k) ?_
      refine own_step (T' := T16) (g' := (mkF m 124 #[.val (.int p0), .val (.int p1), .val (.int p2), .val (.int p3), .val (.ref b2), .val (.ref b8), .unset, .unset, .unset, .unset] [(.int ((p3.toUInt32 >>> ((8 : Int32) &&& 31).toUInt32).toInt32 &&& (255 : Int32))), (.int (1 : Int32)), (.ref b15), (.ref b15), (.ref b14), (.ref b14)])) (fun t k => XS.iand X16.here hx rfl (hb hby at_123) rfl k) ?_
      refine own_step (T' := T16) (g' := (mkF m 125 #[.val (.int p0), .val (.int p1), .val (.int p2), .val (.int p3), .val (.ref b2), .val (.ref b8), .unset, .unset, .unset, .unset] [(.int ((p3.toUInt32 >>> ((8 : Int32) &&& 31).toUInt32).toInt32 &&& (255 : Int32)).toUInt32.toUInt16.toUInt32.toInt32), (.int (1 : Int32)), (.ref b15), (.ref b15), (.ref b14), (.ref b14)])) (fun t k => XS.i2c X16.here hx rfl (hb hby at_124) rfl k) ?_
      obtain ⟨cl17, Ar17, q17, Sz17, Nn17, Hh17, Gg17⟩ := id V_b15_16
      have hin17 : ¬ ((1 : Int32) < 0 ∨ cl17.slots.size ≤ ((1 : Int32)).toNatClampNeg) := inb_of Sz17 ⟨by decide, by decide⟩
      obtain ⟨T17, h17, X17, e17, W17, st17⟩ := stC X16 hx hZ e16 Ar17 (j := (1 : Int32)) hin17 (g := (mkF m 125 #[.val (.int p0), .val (.int p1), .val (.int p2), .val (.int p3), .val (.ref b2), .val (.ref b8), .unset, .unset, .unset, .unset] [(.int ((p3.toUInt32 >>> ((8 : Int32) &&& 31).toUInt32).toInt32 &&& (255 : Int32)).toUInt32.toUInt16.toUInt32.toInt32), (.int (1 : Int32)), (.ref b15), (.ref b15), (.ref b14), (.ref b14)])) rfl rfl (hb hby at_125)
      have S_COMPACT_STRINGS_17 : Sta Z h17 "java/lang/String" "COMPACT_STRINGS" "Z" (.int G1) := S_COMPACT_STRINGS_16.wr W17
      have E_b2_17 : Exa Z h17 b2 "java/lang/String" := E_b2_16.wr W17
      have V_b3_17 : Arv Z h17 b3 k3 .char (2 : Int32) [(.int ch4), (.int ch5)] (.int (0 : Int32)) := V_b3_16.other W17 ne_b3_b15
      have F_coder_b2_17 : Fld Z h17 b2 "java/lang/String" "coder" "B" (.int (0 : Int32)) := F_coder_b2_16.other W17 (Or.inl ne_b2_b15)
      have F_value_b2_17 : Fld Z h17 b2 "java/lang/String" "value" "[B" (.ref t6) := F_value_b2_16.other W17 (Or.inl ne_b2_b15)
      have V_t6_17 : Arv Z h17 t6 kb6 .byte (2 : Int32) ((([ch4, ch5] : List Int32).map (fun c => c.toInt8.toInt32)).map Value.int) (.int 0) := V_t6_16.other W17 ne_t6_b15
      have E_b8_17 : Exa Z h17 b8 "java/lang/String" := E_b8_16.wr W17
      have V_b9_17 : Arv Z h17 b9 k9 .char (3 : Int32) [(.int ch10), (.int ch11), (.int ch12)] (.int (0 : Int32)) := V_b9_16.other W17 ne_b9_b15
      have F_coder_b8_17 : Fld Z h17 b8 "java/lang/String" "coder" "B" (.int (0 : Int32)) := F_coder_b8_16.other W17 (Or.inl ne_b8_b15)
      have F_value_b8_17 : Fld Z h17 b8 "java/lang/String" "value" "[B" (.ref t13) := F_value_b8_16.other W17 (Or.inl ne_b8_b15)
      have V_t13_17 : Arv Z h17 t13 kb13 .byte (3 : Int32) ((([ch10, ch11, ch12] : List Int32).map (fun c => c.toInt8.toInt32)).map Value.int) (.int 0) := V_t13_16.other W17 ne_t13_b15
      have E_b14_17 : Exa Z h17 b14 "java/lang/String" := E_b14_16.wr W17
      have F_coder_b14_17 : Fld Z h17 b14 "java/lang/String" "coder" "B" (.int (0 : Int32)) := F_coder_b14_16.other W17 (Or.inl ne_b14_b15)
      have F_value_b14_17 : Fld Z h17 b14 "java/lang/String" "value" "[B" .null := F_value_b14_16.other W17 (Or.inl ne_b14_b15)
      have K_17 : Keep h0 h17 [] := K_16.wr W17 (Or.inr sz_b15)
      have N17 := Fr.snoc X17 N16 g_b15
      obtain ⟨ch17, hch17⟩ : ∃ z, z = (nar .char ((p3.toUInt32 >>> ((8 : Int32) &&& 31).toUInt32).toInt32 &&& (255 : Int32)).toUInt32.toUInt16.toUInt32.toInt32) := ⟨_, rfl⟩
      have bch17 : ¬ ch17 < 0 ∧ ¬ (255 : Int32) < ch17 := by rw [hch17]; exact own_c255 _
      have V_b15_17 : Arv Z h17 b15 k15 .char (2 : Int32) [(.int ch16), (.int ch17)] (.int (0 : Int32)) := by rw [hch17]; exact Arv.set Ar17 q17 Sz17 Nn17 Hh17 Gg17 (fits_nar_char _) W17 1 rfl (Nat.le_of_ble_eq_true rfl)
      refine own_step (T' := T17) (g' := (mkF m 126 #[.val (.int p0), .val (.int p1), .val (.int p2), .val (.int p3), .val (.ref b2), .val (.ref b8), .unset, .unset, .unset, .unset] [(.ref b15), (.ref b14), (.ref b14)])) st17 ?_
      have hp18 : ∀ c ∈ ([ch16, ch17] : List Int32), ¬ c < 0 ∧ ¬ (255 : Int32) < c := by
        intro c hc
        simp only [List.mem_cons, List.not_mem_nil, or_false] at hc
        rcases hc with rfl | rfl
        · exact bch16
        · exact bch17
      obtain ⟨_, _, ⟨T18, L18, kk18, nn18⟩, -, X18, ⟨Lc18, hQ18, l18, y18, z18⟩, st18⟩ := X17.specialBack hx (y := (⟨"java/lang/String", "<init>", "([C)V"⟩ : MethodName)) rfl hown (mvT hZ (hw _ (List.mem_of_getElem? (i := 4) rfl))) (mvT hZ (hw _ (List.mem_of_getElem? (i := 5) rfl))) (mvT hZ (hw _ (List.mem_of_getElem? (i := 6) rfl))) (by decide) (StrChars.Road.backV (W := 1) hZ hws (kI := 4) (hw _ (List.mem_of_getElem? (i := 1) rfl)) (cs := ([ch16, ch17] : List Int32)) (bs := ([ch16, ch17] : List Int32).map (fun c => c.toInt8.toInt32)) (n := 2) g_b14 (Nat.le_trans Z0 K_17.1) E_b14_17 F_value_b14_17 F_coder_b14_17 V_b15_17 S_COMPACT_STRINGS_17 P5 rfl rfl (by decide) (by decide) hp18 rfl (by decide) (by decide)) (g := (mkF m 126 #[.val (.int p0), .val (.int p1), .val (.int p2), .val (.int p3), .val (.ref b2), .val (.ref b8), .unset, .unset, .unset, .unset] [(.ref b15), (.ref b14), (.ref b14)])) rfl (by rw [hml]; rfl) (Steps.refl _) (a := b14) (argsL := [(.ref b15)]) (rest := [(.ref b14)]) (lenOf pd_0 rfl) rfl (by show 2 * 0 + _ ≤ _; exact Nat.le_of_eq rfl) (hb hby at_126) (fun _ _ => ⟨rfl, e17, (by decide : 8 + 1 ≤ _), (by decide : 24 + 2 ≤ _)⟩)
      dsimp only [Pt.U, Pt.locs, Pt.cells, Pt.slots] at X18 l18 y18 z18 st18 hQ18
      rw [l18, y18, z18] at X18
      obtain ⟨rfl, N18q, Kq18, pe18, pc18, t18, kb18, gt18, st18', nt18, pv18, pa18⟩ := hQ18
      have N18 := Fr.app N17 N18q
      have S_COMPACT_STRINGS_18 : Sta Z T18.heap "java/lang/String" "COMPACT_STRINGS" "Z" (.int G1) := own_sta_keep S_COMPACT_STRINGS_17 Kq18 (allS E_b14_17.nostat all0)
      have E_b2_18 : Exa Z T18.heap b2 "java/lang/String" := E_b2_17.keep Kq18
      have V_b3_18 : Arv Z T18.heap b3 k3 .char (2 : Int32) [(.int ch4), (.int ch5)] (.int (0 : Int32)) := V_b3_17.keep Kq18 (ninS ne_b3_b14 nin0)
      have F_coder_b2_18 : Fld Z T18.heap b2 "java/lang/String" "coder" "B" (.int (0 : Int32)) := F_coder_b2_17.keep Kq18 (ninS ne_b2_b14 nin0)
      have F_value_b2_18 : Fld Z T18.heap b2 "java/lang/String" "value" "[B" (.ref t6) := F_value_b2_17.keep Kq18 (ninS ne_b2_b14 nin0)
      have V_t6_18 : Arv Z T18.heap t6 kb6 .byte (2 : Int32) ((([ch4, ch5] : List Int32).map (fun c => c.toInt8.toInt32)).map Value.int) (.int 0) := V_t6_17.keep Kq18 (ninS ne_t6_b14 nin0)
      have E_b8_18 : Exa Z T18.heap b8 "java/lang/String" := E_b8_17.keep Kq18
      have V_b9_18 : Arv Z T18.heap b9 k9 .char (3 : Int32) [(.int ch10), (.int ch11), (.int ch12)] (.int (0 : Int32)) := V_b9_17.keep Kq18 (ninS ne_b9_b14 nin0)
      have F_coder_b8_18 : Fld Z T18.heap b8 "java/lang/String" "coder" "B" (.int (0 : Int32)) := F_coder_b8_17.keep Kq18 (ninS ne_b8_b14 nin0)
      have F_value_b8_18 : Fld Z T18.heap b8 "java/lang/String" "value" "[B" (.ref t13) := F_value_b8_17.keep Kq18 (ninS ne_b8_b14 nin0)
      have V_t13_18 : Arv Z T18.heap t13 kb13 .byte (3 : Int32) ((([ch10, ch11, ch12] : List Int32).map (fun c => c.toInt8.toInt32)).map Value.int) (.int 0) := V_t13_17.keep Kq18 (ninS ne_t13_b14 nin0)
      have E_b14_18 : Exa Z T18.heap b14 "java/lang/String" := E_b14_17.keep Kq18
      have V_b15_18 : Arv Z T18.heap b15 k15 .char (2 : Int32) [(.int ch16), (.int ch17)] (.int (0 : Int32)) := V_b15_17.keep Kq18 (ninS (Ne.symm ne_b14_b15) nin0)
      have K_18 : Keep h0 T18.heap [] := K_17.trans Kq18 (allS (Or.inr sz_b14) all0)
      have sz_t18 : h0.size ≤ t18 := Nat.le_trans K_17.1 st18'
      have ne_b2_t18 : b2 ≠ t18 := Nat.ne_of_lt (Nat.lt_of_lt_of_le E_b2_17.lt st18')
      have ne_b3_t18 : b3 ≠ t18 := Nat.ne_of_lt (Nat.lt_of_lt_of_le V_b3_17.lt st18')
      have ne_t6_t18 : t6 ≠ t18 := Nat.ne_of_lt (Nat.lt_of_lt_of_le V_t6_17.lt st18')
      have ne_b8_t18 : b8 ≠ t18 := Nat.ne_of_lt (Nat.lt_of_lt_of_le E_b8_17.lt st18')
      have ne_b9_t18 : b9 ≠ t18 := Nat.ne_of_lt (Nat.lt_of_lt_of_le V_b9_17.lt st18')
      have ne_t13_t18 : t13 ≠ t18 := Nat.ne_of_lt (Nat.lt_of_lt_of_le V_t13_17.lt st18')
      have ne_b14_t18 : b14 ≠ t18 := Nat.ne_of_lt (Nat.lt_of_lt_of_le E_b14_17.lt st18')
      have ne_b15_t18 : b15 ≠ t18 := Nat.ne_of_lt (Nat.lt_of_lt_of_le V_b15_17.lt st18')
      refine own_step (T' := T18) (g' := (mkF m 129 #[.val (.int p0), .val (.int p1), .val (.int p2), .val (.int p3), .val (.ref b2), .val (.ref b8), .unset, .unset, .unset, .unset] [(.ref b14)])) (fun t k => st18.trans k) ?_
      refine own_step (T' := T18) (g' := (mkF m 131 #[.val (.int p0), .val (.int p1), .val (.int p2), .val (.int p3), .val (.ref b2), .val (.ref b8), .val (.ref b14), .unset, .unset, .unset] [])) (fun t k => XS.astore X18.here hx rfl (hb hby at_129) rfl rfl (l' := #[.val (.int p0), .val (.int p1), .val (.int p2), .val (.int p3), .val (.ref b2), .val (.ref b8), .val (.ref b14), .unset, .unset, .unset]) rfl k) ?_
      refine own_step (T' := T18) (g' := (mkF m 133 #[.val (.int p0), .val (.int p1), .val (.int p2), .val (.int p3), .val (.ref b2), .val (.ref b8), .val (.ref b14), .unset, .unset, .unset] [(.ref b2)])) (fun t k => XS.aload X18.here hx rfl (hb hby at_131) rfl rfl k) ?_
      refine own_step (T' := T18) (g' := (mkF m 135 #[.val (.int p0), .val (.int p1), .val (.int p2), .val (.int p3), .val (.ref b2), .val (.ref b8), .val (.ref b14), .unset, .unset, .unset] [(.ref b8), (.ref b2)])) (fun t k => XS.aload X18.here hx rfl (hb hby at_133) rfl rfl k) ?_
      refine own_step (T' := T18) (g' := (mkF m 137 #[.val (.int p0), .val (.int p1), .val (.int p2), .val (.int p3), .val (.ref b2), .val (.ref b8), .val (.ref b14), .unset, .unset, .unset] [(.ref b14), (.ref b8), (.ref b2)])) (fun t k => XS.aload X18.here hx rfl (hb hby at_135) rfl rfl k) ?_
      obtain ⟨_, _, ⟨T19, L19, kk19, nn19⟩, -, X19, ⟨Lc19, hQ19, l19, y19, z19⟩, st19⟩ := Jvm.LawKit.callS X18 hx (y := (⟨"com/example/tapeloom/tapeloom/Option", "flag", "(Ljava/lang/String;Ljava/lang/String;Ljava/lang/String;)Lcom/example/tapeloom/tapeloom/Option;"⟩ : MethodName)) hown (mvT hZ (hw _ (List.mem_of_getElem? (i := 30) rfl))) (mvT hZ (hw _ (List.mem_of_getElem? (i := 31) rfl))) (mvT hZ (hw _ (List.mem_of_getElem? (i := 32) rfl))) (mvT hZ (hw _ (List.mem_of_getElem? (i := 33) rfl))) (by decide) (backOf (W := 0) (rm7_00 l Z a0 hw [] b2 b8 b14 T18.heap n0 (Nat.le_trans Z0 K_18.1) ) hZ (hw _ (List.mem_of_getElem? (i := 33) rfl)) (hw _ (List.mem_of_getElem? (i := 32) rfl)) (by decide) (by decide)) (g := (mkF m 137 #[.val (.int p0), .val (.int p1), .val (.int p2), .val (.int p3), .val (.ref b2), .val (.ref b8), .val (.ref b14), .unset, .unset, .unset] [(.ref b14), (.ref b8), (.ref b2)])) rfl (by rw [hml]; rfl) (argsL := [(.ref b2), (.ref b8), (.ref b14)]) (rest := []) (lenOf pd_6 rfl) rfl (by show 2 * 0 + _ ≤ _; exact Nat.le_of_eq rfl) (hb hby at_137) (fun _ _ => ⟨rfl, rfl, (by decide : 9 + 1 ≤ _), (by decide : 26 + 4 ≤ _)⟩)
      dsimp only [Pt.U, Pt.locs, Pt.cells, Pt.slots] at X19 l19 y19 z19 st19 hQ19
      rw [l19, y19, z19] at X19
      obtain ⟨ob_19, rfl, N19q, Kq19, pq19_0, pq19_1, pq19_2, pq19_3, pq19_4, pq19_5, pq19_6⟩ := hQ19
      have N19 := Fr.app N18 N19q
      have S_COMPACT_STRINGS_19 : Sta Z T19.heap "java/lang/String" "COMPACT_STRINGS" "Z" (.int G1) := own_sta_keep S_COMPACT_STRINGS_18 Kq19 all0
      have E_b2_19 : Exa Z T19.heap b2 "java/lang/String" := E_b2_18.keep Kq19
      have V_b3_19 : Arv Z T19.heap b3 k3 .char (2 : Int32) [(.int ch4), (.int ch5)] (.int (0 : Int32)) := V_b3_18.keep Kq19 nin0
      have F_coder_b2_19 : Fld Z T19.heap b2 "java/lang/String" "coder" "B" (.int (0 : Int32)) := F_coder_b2_18.keep Kq19 nin0
      have F_value_b2_19 : Fld Z T19.heap b2 "java/lang/String" "value" "[B" (.ref t6) := F_value_b2_18.keep Kq19 nin0
      have V_t6_19 : Arv Z T19.heap t6 kb6 .byte (2 : Int32) ((([ch4, ch5] : List Int32).map (fun c => c.toInt8.toInt32)).map Value.int) (.int 0) := V_t6_18.keep Kq19 nin0
      have E_b8_19 : Exa Z T19.heap b8 "java/lang/String" := E_b8_18.keep Kq19
      have V_b9_19 : Arv Z T19.heap b9 k9 .char (3 : Int32) [(.int ch10), (.int ch11), (.int ch12)] (.int (0 : Int32)) := V_b9_18.keep Kq19 nin0
      have F_coder_b8_19 : Fld Z T19.heap b8 "java/lang/String" "coder" "B" (.int (0 : Int32)) := F_coder_b8_18.keep Kq19 nin0
      have F_value_b8_19 : Fld Z T19.heap b8 "java/lang/String" "value" "[B" (.ref t13) := F_value_b8_18.keep Kq19 nin0
      have V_t13_19 : Arv Z T19.heap t13 kb13 .byte (3 : Int32) ((([ch10, ch11, ch12] : List Int32).map (fun c => c.toInt8.toInt32)).map Value.int) (.int 0) := V_t13_18.keep Kq19 nin0
      have E_b14_19 : Exa Z T19.heap b14 "java/lang/String" := E_b14_18.keep Kq19
      have V_b15_19 : Arv Z T19.heap b15 k15 .char (2 : Int32) [(.int ch16), (.int ch17)] (.int (0 : Int32)) := V_b15_18.keep Kq19 nin0
      have F_coder_b14_19 : Fld Z T19.heap b14 "java/lang/String" "coder" "B" (.int (0 : Int32)) := pc18.keep Kq19 nin0
      have F_value_b14_19 : Fld Z T19.heap b14 "java/lang/String" "value" "[B" (.ref t18) := pv18.keep Kq19 nin0
      have V_t18_19 : Arv Z T19.heap t18 kb18 .byte (2 : Int32) ((([ch16, ch17] : List Int32).map (fun c => c.toInt8.toInt32)).map Value.int) (.int 0) := pa18.keep Kq19 nin0
      have K_19 : Keep h0 T19.heap [] := K_18.trans Kq19 all0
      have sz_ob_19 : h0.size ≤ ob_19 := Nat.le_trans K_18.1 pq19_6
      have ne_b2_ob_19 : b2 ≠ ob_19 := Nat.ne_of_lt (Nat.lt_of_lt_of_le E_b2_18.lt pq19_6)
      have ne_b3_ob_19 : b3 ≠ ob_19 := Nat.ne_of_lt (Nat.lt_of_lt_of_le V_b3_18.lt pq19_6)
      have ne_t6_ob_19 : t6 ≠ ob_19 := Nat.ne_of_lt (Nat.lt_of_lt_of_le V_t6_18.lt pq19_6)
      have ne_b8_ob_19 : b8 ≠ ob_19 := Nat.ne_of_lt (Nat.lt_of_lt_of_le E_b8_18.lt pq19_6)
      have ne_b9_ob_19 : b9 ≠ ob_19 := Nat.ne_of_lt (Nat.lt_of_lt_of_le V_b9_18.lt pq19_6)
      have ne_t13_ob_19 : t13 ≠ ob_19 := Nat.ne_of_lt (Nat.lt_of_lt_of_le V_t13_18.lt pq19_6)
      have ne_b14_ob_19 : b14 ≠ ob_19 := Nat.ne_of_lt (Nat.lt_of_lt_of_le E_b14_18.lt pq19_6)
      have ne_b15_ob_19 : b15 ≠ ob_19 := Nat.ne_of_lt (Nat.lt_of_lt_of_le V_b15_18.lt pq19_6)
      have ne_t18_ob_19 : t18 ≠ ob_19 := Nat.ne_of_lt (Nat.lt_of_lt_of_le pa18.lt pq19_6)
      refine own_step (T' := T19) (g' := (mkF m 140 #[.val (.int p0), .val (.int p1), .val (.int p2), .val (.int p3), .val (.ref b2), .val (.ref b8), .val (.ref b14), .unset, .unset, .unset] [(.ref ob_19)])) st19 ?_
      refine own_step (T' := T19) (g' := (mkF m 142 #[.val (.int p0), .val (.int p1), .val (.int p2), .val (.int p3), .val (.ref b2), .val (.ref b8), .val (.ref b14), .val (.ref ob_19), .unset, .unset] [])) (fun t k => XS.astore X19.here hx rfl (hb hby at_140) rfl rfl (l' := #[.val (.int p0), .val (.int p1), .val (.int p2), .val (.int p3), .val (.ref b2), .val (.ref b8), .val (.ref b14), .val (.ref ob_19), .unset, .unset]) rfl k) ?_
      refine own_step (T' := T19) (g' := (mkF m 144 #[.val (.int p0), .val (.int p1), .val (.int p2), .val (.int p3), .val (.ref b2), .val (.ref b8), .val (.ref b14), .val (.ref ob_19), .unset, .unset] [(.ref b8)])) (fun t k => XS.aload X19.here hx rfl (hb hby at_142) rfl rfl k) ?_
      refine own_step (T' := T19) (g' := (mkF m 152 #[.val (.int p0), .val (.int p1), .val (.int p2), .val (.int p3), .val (.ref b2), .val (.ref b8), .val (.ref b14), .val (.ref ob_19), .unset, .unset] [])) (fun t k => XS.ifnonnullYes X19.here hx rfl (pc0 := 144) (pc' := 152) rfl (hb hby at_144) rfl (by decide) (by decide) k) ?_
      refine own_step (T' := T19) (g' := (mkF m 154 #[.val (.int p0), .val (.int p1), .val (.int p2), .val (.int p3), .val (.ref b2), .val (.ref b8), .val (.ref b14), .val (.ref ob_19), .unset, .unset] [(.ref b8)])) (fun t k => XS.aload X19.here hx rfl (hb hby at_152) rfl rfl k) ?_
      refine own_step (T' := T19) (g' := (mkF m 156 #[.val (.int p0), .val (.int p1), .val (.int p2), .val (.int p3), .val (.ref b2), .val (.ref b8), .val (.ref b14), .val (.ref ob_19), .val (.ref b8), .unset] [])) (fun t k => XS.astore X19.here hx rfl (hb hby at_154) rfl rfl (l' := #[.val (.int p0), .val (.int p1), .val (.int p2), .val (.int p3), .val (.ref b2), .val (.ref b8), .val (.ref b14), .val (.ref ob_19), .val (.ref b8), .unset]) rfl k) ?_
      refine own_step (T' := T19) (g' := (mkF m 158 #[.val (.int p0), .val (.int p1), .val (.int p2), .val (.int p3), .val (.ref b2), .val (.ref b8), .val (.ref b14), .val (.ref ob_19), .val (.ref b8), .unset] [(.ref b2)])) (fun t k => XS.aload X19.here hx rfl (hb hby at_156) rfl rfl k) ?_
      refine own_step (T' := T19) (g' := (mkF m 170 #[.val (.int p0), .val (.int p1), .val (.int p2), .val (.int p3), .val (.ref b2), .val (.ref b8), .val (.ref b14), .val (.ref ob_19), .val (.ref b8), .unset] [])) (fun t k => XS.ifnonnullYes X19.here hx rfl (pc0 := 158) (pc' := 170) rfl (hb hby at_158) rfl (by decide) (by decide) k) ?_
      refine own_step (T' := T19) (g' := (mkF m 171 #[.val (.int p0), .val (.int p1), .val (.int p2), .val (.int p3), .val (.ref b2), .val (.ref b8), .val (.ref b14), .val (.ref ob_19), .val (.ref b8), .unset] [(.int (0 : Int32))])) (fun t k => XS.iconst X19.here hx rfl (hb hby at_170) k) ?_
      refine own_step (T' := T19) (g' := (mkF m 173 #[.val (.int p0), .val (.int p1), .val (.int p2), .val (.int p3), .val (.ref b2), .val (.ref b8), .val (.ref b14), .val (.ref ob_19), .val (.ref b8), .val (.int (0 : Int32))] [])) (fun t k => XS.istore X19.here hx rfl (hb hby at_171) rfl (l' := #[.val (.int p0), .val (.int p1), .val (.int p2), .val (.int p3), .val (.ref b2), .val (.ref b8), .val (.ref b14), .val (.ref ob_19), .val (.ref b8), .val (.int (0 : Int32))]) rfl k) ?_
      refine own_step (T' := T19) (g' := (mkF m 175 #[.val (.int p0), .val (.int p1), .val (.int p2), .val (.int p3), .val (.ref b2), .val (.ref b8), .val (.ref b14), .val (.ref ob_19), .val (.ref b8), .val (.int (0 : Int32))] [(.ref ob_19)])) (fun t k => XS.aload X19.here hx rfl (hb hby at_173) rfl rfl k) ?_
      obtain ⟨cq20, kq20, qq20a, qq20b, qq20c⟩ := isOf hZ rfl pq19_0
      obtain ⟨_, _, ⟨T20, L20, kk20, nn20⟩, -, X20, ⟨Lc20, hQ20, l20, y20, z20⟩, st20⟩ := X19.virtualBack hx (y := (⟨"com/example/tapeloom/tapeloom/Option", "shortName", "()Ljava/lang/String;"⟩ : MethodName)) (z := (⟨"com/example/tapeloom/tapeloom/Option", "shortName", "()Ljava/lang/String;"⟩ : MethodName)) hown (mvT hZ (hw _ (List.mem_of_getElem? (i := 48) rfl))) (mvT hZ (hw _ (List.mem_of_getElem? (i := 49) rfl))) (notFace_of_selects (args := #[]) (mvT hZ (hw _ (List.mem_of_getElem? (i := 51) rfl)))) (mvT hZ (hw _ (List.mem_of_getElem? (i := 51) rfl))) (mvT hZ (hw _ (List.mem_of_getElem? (i := 50) rfl))) (by decide) (backOf (W := 0) (rm9_0 l Z a0 hw [] ob_19 b2 T19.heap n0 (Nat.le_trans Z0 K_19.1) pq19_1) hZ (hw _ (List.mem_of_getElem? (i := 52) rfl)) (hw _ (List.mem_of_getElem? (i := 32) rfl)) (by decide) (by decide)) qq20a qq20c (g := (mkF m 175 #[.val (.int p0), .val (.int p1), .val (.int p2), .val (.int p3), .val (.ref b2), .val (.ref b8), .val (.ref b14), .val (.ref ob_19), .val (.ref b8), .val (.int (0 : Int32))] [(.ref ob_19)])) rfl (by rw [hml]; rfl) (Steps.refl _) (argsL := []) (rest := []) (lenOf pd_8 rfl) rfl (by show 2 * 0 + _ ≤ _; exact Nat.le_of_eq rfl) (hb hby at_175) (fun _ _ => ⟨rfl, rfl, (by decide : 10 + 0 ≤ _), (by decide : 30 + 0 ≤ _)⟩)
      dsimp only [Pt.U, Pt.locs, Pt.cells, Pt.slots] at X20 l20 y20 z20 st20 hQ20
      rw [l20, y20, z20] at X20
      obtain ⟨rfl, N20q, eq20⟩ := hQ20
      have N20 := Fr.app N19 N20q
      refine own_step (T' := T20) (g' := (mkF m 178 #[.val (.int p0), .val (.int p1), .val (.int p2), .val (.int p3), .val (.ref b2), .val (.ref b8), .val (.ref b14), .val (.ref ob_19), .val (.ref b8), .val (.int (0 : Int32))] [(.ref b2)])) (fun t k => st20.trans k) ?_
      refine own_step (T' := T20) (g' := (mkF m 180 #[.val (.int p0), .val (.int p1), .val (.int p2), .val (.int p3), .val (.ref b2), .val (.ref b8), .val (.ref b14), .val (.ref ob_19), .val (.ref b8), .val (.int (0 : Int32))] [(.ref b2), (.ref b2)])) (fun t k => XS.aload X20.here hx rfl (hb hby at_178) rfl rfl k) ?_
      obtain ⟨_, _, ⟨T21, L21, kk21, nn21⟩, -, X21, ⟨Lc21, hQ21, l21, y21, z21⟩, st21⟩ := Jvm.LawKit.callS X20 hx (y := (⟨"com/example/tapeloom/tapeloom/OptionFlagPinLaw", "eq", "(Ljava/lang/String;Ljava/lang/String;)Z"⟩ : MethodName)) hown (mvT hZ (hw _ (List.mem_of_getElem? (i := 53) rfl))) (mvT hZ (hw _ (List.mem_of_getElem? (i := 54) rfl))) (mvT hZ (hw _ (List.mem_of_getElem? (i := 55) rfl))) (mvT hZ (hw _ (List.mem_of_getElem? (i := 56) rfl))) (by decide) (backOf (W := 0) (rm10_0 l Z a0 hw [] b2 T19.heap n0 (Nat.le_trans Z0 K_19.1) E_b2_19) hZ (hw _ (List.mem_of_getElem? (i := 56) rfl)) (hw _ (List.mem_of_getElem? (i := 55) rfl)) (by decide) (by decide)) (g := (mkF m 180 #[.val (.int p0), .val (.int p1), .val (.int p2), .val (.int p3), .val (.ref b2), .val (.ref b8), .val (.ref b14), .val (.ref ob_19), .val (.ref b8), .val (.int (0 : Int32))] [(.ref b2), (.ref b2)])) rfl (by rw [hml]; rfl) (argsL := [(.ref b2), (.ref b2)]) (rest := []) (lenOf pd_9 rfl) rfl (by show 2 * 0 + _ ≤ _; exact Nat.le_of_eq rfl) (hb hby at_180) (fun _ _ => ⟨rfl, eq20, (by decide : 10 + 0 ≤ _), (by decide : 30 + 0 ≤ _)⟩)
      dsimp only [Pt.U, Pt.locs, Pt.cells, Pt.slots] at X21 l21 y21 z21 st21 hQ21
      rw [l21, y21, z21] at X21
      obtain ⟨rfl, N21q, eq21⟩ := hQ21
      have N21 := Fr.app N20 N21q
      refine own_step (T' := T21) (g' := (mkF m 183 #[.val (.int p0), .val (.int p1), .val (.int p2), .val (.int p3), .val (.ref b2), .val (.ref b8), .val (.ref b14), .val (.ref ob_19), .val (.ref b8), .val (.int (0 : Int32))] [(.int (1 : Int32))])) st21 ?_
      refine own_step (T' := T21) (g' := (mkF m 186 #[.val (.int p0), .val (.int p1), .val (.int p2), .val (.int p3), .val (.ref b2), .val (.ref b8), .val (.ref b14), .val (.ref ob_19), .val (.ref b8), .val (.int (0 : Int32))] [])) (fun t k => XS.ifNo X21.here hx rfl (hb hby at_183) rfl ((if0 _ _).trans (feq (by decide : ¬ ((1 : Int32) = (0 : Int32)))).1) k) ?_
      refine own_step (T' := T21) (g' := (mkF m 188 #[.val (.int p0), .val (.int p1), .val (.int p2), .val (.int p3), .val (.ref b2), .val (.ref b8), .val (.ref b14), .val (.ref ob_19), .val (.ref b8), .val (.int (0 : Int32))] [(.ref ob_19)])) (fun t k => XS.aload X21.here hx rfl (hb hby at_186) rfl rfl k) ?_
      obtain ⟨cq22, kq22, qq22a, qq22b, qq22c⟩ := isOf hZ eq21 pq19_0
      obtain ⟨_, _, ⟨T22, L22, kk22, nn22⟩, -, X22, ⟨Lc22, hQ22, l22, y22, z22⟩, st22⟩ := X21.virtualBack hx (y := (⟨"com/example/tapeloom/tapeloom/Option", "longName", "()Ljava/lang/String;"⟩ : MethodName)) (z := (⟨"com/example/tapeloom/tapeloom/Option", "longName", "()Ljava/lang/String;"⟩ : MethodName)) hown (mvT hZ (hw _ (List.mem_of_getElem? (i := 62) rfl))) (mvT hZ (hw _ (List.mem_of_getElem? (i := 63) rfl))) (notFace_of_selects (args := #[]) (mvT hZ (hw _ (List.mem_of_getElem? (i := 65) rfl)))) (mvT hZ (hw _ (List.mem_of_getElem? (i := 65) rfl))) (mvT hZ (hw _ (List.mem_of_getElem? (i := 64) rfl))) (by decide) (backOf (W := 0) (rm12_0 l Z a0 hw [] ob_19 b8 T19.heap n0 (Nat.le_trans Z0 K_19.1) pq19_2) hZ (hw _ (List.mem_of_getElem? (i := 66) rfl)) (hw _ (List.mem_of_getElem? (i := 32) rfl)) (by decide) (by decide)) qq22a qq22c (g := (mkF m 188 #[.val (.int p0), .val (.int p1), .val (.int p2), .val (.int p3), .val (.ref b2), .val (.ref b8), .val (.ref b14), .val (.ref ob_19), .val (.ref b8), .val (.int (0 : Int32))] [(.ref ob_19)])) rfl (by rw [hml]; rfl) (Steps.refl _) (argsL := []) (rest := []) (lenOf pd_8 rfl) rfl (by show 2 * 0 + _ ≤ _; exact Nat.le_of_eq rfl) (hb hby at_188) (fun _ _ => ⟨rfl, eq21, (by decide : 10 + 0 ≤ _), (by decide : 30 + 0 ≤ _)⟩)
      dsimp only [Pt.U, Pt.locs, Pt.cells, Pt.slots] at X22 l22 y22 z22 st22 hQ22
      rw [l22, y22, z22] at X22
      obtain ⟨rfl, N22q, eq22⟩ := hQ22
      have N22 := Fr.app N21 N22q
      refine own_step (T' := T22) (g' := (mkF m 191 #[.val (.int p0), .val (.int p1), .val (.int p2), .val (.int p3), .val (.ref b2), .val (.ref b8), .val (.ref b14), .val (.ref ob_19), .val (.ref b8), .val (.int (0 : Int32))] [(.ref b8)])) (fun t k => st22.trans k) ?_
      refine own_step (T' := T22) (g' := (mkF m 193 #[.val (.int p0), .val (.int p1), .val (.int p2), .val (.int p3), .val (.ref b2), .val (.ref b8), .val (.ref b14), .val (.ref ob_19), .val (.ref b8), .val (.int (0 : Int32))] [(.ref b8), (.ref b8)])) (fun t k => XS.aload X22.here hx rfl (hb hby at_191) rfl rfl k) ?_
      obtain ⟨_, _, ⟨T23, L23, kk23, nn23⟩, -, X23, ⟨Lc23, hQ23, l23, y23, z23⟩, st23⟩ := Jvm.LawKit.callS X22 hx (y := (⟨"com/example/tapeloom/tapeloom/OptionFlagPinLaw", "eq", "(Ljava/lang/String;Ljava/lang/String;)Z"⟩ : MethodName)) hown (mvT hZ (hw _ (List.mem_of_getElem? (i := 53) rfl))) (mvT hZ (hw _ (List.mem_of_getElem? (i := 54) rfl))) (mvT hZ (hw _ (List.mem_of_getElem? (i := 55) rfl))) (mvT hZ (hw _ (List.mem_of_getElem? (i := 56) rfl))) (by decide) (backOf (W := 0) (rm10_0 l Z a0 hw [] b8 T19.heap n0 (Nat.le_trans Z0 K_19.1) E_b8_19) hZ (hw _ (List.mem_of_getElem? (i := 56) rfl)) (hw _ (List.mem_of_getElem? (i := 55) rfl)) (by decide) (by decide)) (g := (mkF m 193 #[.val (.int p0), .val (.int p1), .val (.int p2), .val (.int p3), .val (.ref b2), .val (.ref b8), .val (.ref b14), .val (.ref ob_19), .val (.ref b8), .val (.int (0 : Int32))] [(.ref b8), (.ref b8)])) rfl (by rw [hml]; rfl) (argsL := [(.ref b8), (.ref b8)]) (rest := []) (lenOf pd_9 rfl) rfl (by show 2 * 0 + _ ≤ _; exact Nat.le_of_eq rfl) (hb hby at_193) (fun _ _ => ⟨rfl, eq22, (by decide : 10 + 0 ≤ _), (by decide : 30 + 0 ≤ _)⟩)
      dsimp only [Pt.U, Pt.locs, Pt.cells, Pt.slots] at X23 l23 y23 z23 st23 hQ23
      rw [l23, y23, z23] at X23
      obtain ⟨rfl, N23q, eq23⟩ := hQ23
      have N23 := Fr.app N22 N23q
      refine own_step (T' := T23) (g' := (mkF m 196 #[.val (.int p0), .val (.int p1), .val (.int p2), .val (.int p3), .val (.ref b2), .val (.ref b8), .val (.ref b14), .val (.ref ob_19), .val (.ref b8), .val (.int (0 : Int32))] [(.int (1 : Int32))])) st23 ?_
      refine own_step (T' := T23) (g' := (mkF m 199 #[.val (.int p0), .val (.int p1), .val (.int p2), .val (.int p3), .val (.ref b2), .val (.ref b8), .val (.ref b14), .val (.ref ob_19), .val (.ref b8), .val (.int (0 : Int32))] [])) (fun t k => XS.ifNo X23.here hx rfl (hb hby at_196) rfl ((if0 _ _).trans (feq (by decide : ¬ ((1 : Int32) = (0 : Int32)))).1) k) ?_
      refine own_step (T' := T23) (g' := (mkF m 201 #[.val (.int p0), .val (.int p1), .val (.int p2), .val (.int p3), .val (.ref b2), .val (.ref b8), .val (.ref b14), .val (.ref ob_19), .val (.ref b8), .val (.int (0 : Int32))] [(.ref ob_19)])) (fun t k => XS.aload X23.here hx rfl (hb hby at_199) rfl rfl k) ?_
      obtain ⟨cq24, kq24, qq24a, qq24b, qq24c⟩ := isOf hZ eq23 pq19_0
      obtain ⟨_, _, ⟨T24, L24, kk24, nn24⟩, -, X24, ⟨Lc24, hQ24, l24, y24, z24⟩, st24⟩ := X23.virtualBack hx (y := (⟨"com/example/tapeloom/tapeloom/Option", "description", "()Ljava/lang/String;"⟩ : MethodName)) (z := (⟨"com/example/tapeloom/tapeloom/Option", "description", "()Ljava/lang/String;"⟩ : MethodName)) hown (mvT hZ (hw _ (List.mem_of_getElem? (i := 67) rfl))) (mvT hZ (hw _ (List.mem_of_getElem? (i := 68) rfl))) (notFace_of_selects (args := #[]) (mvT hZ (hw _ (List.mem_of_getElem? (i := 70) rfl)))) (mvT hZ (hw _ (List.mem_of_getElem? (i := 70) rfl))) (mvT hZ (hw _ (List.mem_of_getElem? (i := 69) rfl))) (by decide) (backOf (W := 0) (rm13_0 l Z a0 hw [] ob_19 b14 T19.heap n0 (Nat.le_trans Z0 K_19.1) pq19_4) hZ (hw _ (List.mem_of_getElem? (i := 71) rfl)) (hw _ (List.mem_of_getElem? (i := 32) rfl)) (by decide) (by decide)) qq24a qq24c (g := (mkF m 201 #[.val (.int p0), .val (.int p1), .val (.int p2), .val (.int p3), .val (.ref b2), .val (.ref b8), .val (.ref b14), .val (.ref ob_19), .val (.ref b8), .val (.int (0 : Int32))] [(.ref ob_19)])) rfl (by rw [hml]; rfl) (Steps.refl _) (argsL := []) (rest := []) (lenOf pd_8 rfl) rfl (by show 2 * 0 + _ ≤ _; exact Nat.le_of_eq rfl) (hb hby at_201) (fun _ _ => ⟨rfl, eq23, (by decide : 10 + 0 ≤ _), (by decide : 30 + 0 ≤ _)⟩)
      dsimp only [Pt.U, Pt.locs, Pt.cells, Pt.slots] at X24 l24 y24 z24 st24 hQ24
      rw [l24, y24, z24] at X24
      obtain ⟨rfl, N24q, eq24⟩ := hQ24
      have N24 := Fr.app N23 N24q
      refine own_step (T' := T24) (g' := (mkF m 204 #[.val (.int p0), .val (.int p1), .val (.int p2), .val (.int p3), .val (.ref b2), .val (.ref b8), .val (.ref b14), .val (.ref ob_19), .val (.ref b8), .val (.int (0 : Int32))] [(.ref b14)])) (fun t k => st24.trans k) ?_
      refine own_step (T' := T24) (g' := (mkF m 206 #[.val (.int p0), .val (.int p1), .val (.int p2), .val (.int p3), .val (.ref b2), .val (.ref b8), .val (.ref b14), .val (.ref ob_19), .val (.ref b8), .val (.int (0 : Int32))] [(.ref b14), (.ref b14)])) (fun t k => XS.aload X24.here hx rfl (hb hby at_204) rfl rfl k) ?_
      obtain ⟨_, _, ⟨T25, L25, kk25, nn25⟩, -, X25, ⟨Lc25, hQ25, l25, y25, z25⟩, st25⟩ := Jvm.LawKit.callS X24 hx (y := (⟨"com/example/tapeloom/tapeloom/OptionFlagPinLaw", "eq", "(Ljava/lang/String;Ljava/lang/String;)Z"⟩ : MethodName)) hown (mvT hZ (hw _ (List.mem_of_getElem? (i := 53) rfl))) (mvT hZ (hw _ (List.mem_of_getElem? (i := 54) rfl))) (mvT hZ (hw _ (List.mem_of_getElem? (i := 55) rfl))) (mvT hZ (hw _ (List.mem_of_getElem? (i := 56) rfl))) (by decide) (backOf (W := 0) (rm10_0 l Z a0 hw [] b14 T19.heap n0 (Nat.le_trans Z0 K_19.1) E_b14_19) hZ (hw _ (List.mem_of_getElem? (i := 56) rfl)) (hw _ (List.mem_of_getElem? (i := 55) rfl)) (by decide) (by decide)) (g := (mkF m 206 #[.val (.int p0), .val (.int p1), .val (.int p2), .val (.int p3), .val (.ref b2), .val (.ref b8), .val (.ref b14), .val (.ref ob_19), .val (.ref b8), .val (.int (0 : Int32))] [(.ref b14), (.ref b14)])) rfl (by rw [hml]; rfl) (argsL := [(.ref b14), (.ref b14)]) (rest := []) (lenOf pd_9 rfl) rfl (by show 2 * 0 + _ ≤ _; exact Nat.le_of_eq rfl) (hb hby at_206) (fun _ _ => ⟨rfl, eq24, (by decide : 10 + 0 ≤ _), (by decide : 30 + 0 ≤ _)⟩)
      dsimp only [Pt.U, Pt.locs, Pt.cells, Pt.slots] at X25 l25 y25 z25 st25 hQ25
      rw [l25, y25, z25] at X25
      obtain ⟨rfl, N25q, eq25⟩ := hQ25
      have N25 := Fr.app N24 N25q
      refine own_step (T' := T25) (g' := (mkF m 209 #[.val (.int p0), .val (.int p1), .val (.int p2), .val (.int p3), .val (.ref b2), .val (.ref b8), .val (.ref b14), .val (.ref ob_19), .val (.ref b8), .val (.int (0 : Int32))] [(.int (1 : Int32))])) st25 ?_
      refine own_step (T' := T25) (g' := (mkF m 212 #[.val (.int p0), .val (.int p1), .val (.int p2), .val (.int p3), .val (.ref b2), .val (.ref b8), .val (.ref b14), .val (.ref ob_19), .val (.ref b8), .val (.int (0 : Int32))] [])) (fun t k => XS.ifNo X25.here hx rfl (hb hby at_209) rfl ((if0 _ _).trans (feq (by decide : ¬ ((1 : Int32) = (0 : Int32)))).1) k) ?_
      refine own_step (T' := T25) (g' := (mkF m 214 #[.val (.int p0), .val (.int p1), .val (.int p2), .val (.int p3), .val (.ref b2), .val (.ref b8), .val (.ref b14), .val (.ref ob_19), .val (.ref b8), .val (.int (0 : Int32))] [(.ref ob_19)])) (fun t k => XS.aload X25.here hx rfl (hb hby at_212) rfl rfl k) ?_
      obtain ⟨cq26, kq26, qq26a, qq26b, qq26c⟩ := isOf hZ eq25 pq19_0
      obtain ⟨_, _, ⟨T26, L26, kk26, nn26⟩, -, X26, ⟨Lc26, hQ26, l26, y26, z26⟩, st26⟩ := X25.virtualBack hx (y := (⟨"com/example/tapeloom/tapeloom/Option", "label", "()Ljava/lang/String;"⟩ : MethodName)) (z := (⟨"com/example/tapeloom/tapeloom/Option", "label", "()Ljava/lang/String;"⟩ : MethodName)) hown (mvT hZ (hw _ (List.mem_of_getElem? (i := 72) rfl))) (mvT hZ (hw _ (List.mem_of_getElem? (i := 73) rfl))) (notFace_of_selects (args := #[]) (mvT hZ (hw _ (List.mem_of_getElem? (i := 75) rfl)))) (mvT hZ (hw _ (List.mem_of_getElem? (i := 75) rfl))) (mvT hZ (hw _ (List.mem_of_getElem? (i := 74) rfl))) (by decide) (backOf (W := 0) (rm14_1 l Z a0 hw [] ob_19 T19.heap n0 (Nat.le_trans Z0 K_19.1) pq19_3) hZ (hw _ (List.mem_of_getElem? (i := 76) rfl)) (hw _ (List.mem_of_getElem? (i := 32) rfl)) (by decide) (by decide)) qq26a qq26c (g := (mkF m 214 #[.val (.int p0), .val (.int p1), .val (.int p2), .val (.int p3), .val (.ref b2), .val (.ref b8), .val (.ref b14), .val (.ref ob_19), .val (.ref b8), .val (.int (0 : Int32))] [(.ref ob_19)])) rfl (by rw [hml]; rfl) (Steps.refl _) (argsL := []) (rest := []) (lenOf pd_8 rfl) rfl (by show 2 * 0 + _ ≤ _; exact Nat.le_of_eq rfl) (hb hby at_214) (fun _ _ => ⟨rfl, eq25, (by decide : 10 + 0 ≤ _), (by decide : 30 + 0 ≤ _)⟩)
      dsimp only [Pt.U, Pt.locs, Pt.cells, Pt.slots] at X26 l26 y26 z26 st26 hQ26
      rw [l26, y26, z26] at X26
      obtain ⟨rfl, N26q, eq26⟩ := hQ26
      have N26 := Fr.app N25 N26q
      refine own_step (T' := T26) (g' := (mkF m 217 #[.val (.int p0), .val (.int p1), .val (.int p2), .val (.int p3), .val (.ref b2), .val (.ref b8), .val (.ref b14), .val (.ref ob_19), .val (.ref b8), .val (.int (0 : Int32))] [.null])) (fun t k => st26.trans k) ?_
      refine own_step (T' := T26) (g' := (mkF m 220 #[.val (.int p0), .val (.int p1), .val (.int p2), .val (.int p3), .val (.ref b2), .val (.ref b8), .val (.ref b14), .val (.ref ob_19), .val (.ref b8), .val (.int (0 : Int32))] [])) (fun t k => XS.ifnonnullNo X26.here hx rfl (hb hby at_217) rfl k) ?_
      refine own_step (T' := T26) (g' := (mkF m 222 #[.val (.int p0), .val (.int p1), .val (.int p2), .val (.int p3), .val (.ref b2), .val (.ref b8), .val (.ref b14), .val (.ref ob_19), .val (.ref b8), .val (.int (0 : Int32))] [(.ref ob_19)])) (fun t k => XS.aload X26.here hx rfl (hb hby at_220) rfl rfl k) ?_
      obtain ⟨cq27, kq27, qq27a, qq27b, qq27c⟩ := isOf hZ eq26 pq19_0
      obtain ⟨_, _, ⟨T27, L27, kk27, nn27⟩, -, X27, ⟨Lc27, hQ27, l27, y27, z27⟩, st27⟩ := X26.virtualBack hx (y := (⟨"com/example/tapeloom/tapeloom/Option", "takesValue", "()Z"⟩ : MethodName)) (z := (⟨"com/example/tapeloom/tapeloom/Option", "takesValue", "()Z"⟩ : MethodName)) hown (mvT hZ (hw _ (List.mem_of_getElem? (i := 77) rfl))) (mvT hZ (hw _ (List.mem_of_getElem? (i := 78) rfl))) (notFace_of_selects (args := #[]) (mvT hZ (hw _ (List.mem_of_getElem? (i := 80) rfl)))) (mvT hZ (hw _ (List.mem_of_getElem? (i := 80) rfl))) (mvT hZ (hw _ (List.mem_of_getElem? (i := 79) rfl))) (by decide) (backOf (W := 0) (rm15 l Z a0 hw [] ob_19 T19.heap n0 (Nat.le_trans Z0 K_19.1) pq19_3) hZ (hw _ (List.mem_of_getElem? (i := 81) rfl)) (hw _ (List.mem_of_getElem? (i := 32) rfl)) (by decide) (by decide)) qq27a qq27c (g := (mkF m 222 #[.val (.int p0), .val (.int p1), .val (.int p2), .val (.int p3), .val (.ref b2), .val (.ref b8), .val (.ref b14), .val (.ref ob_19), .val (.ref b8), .val (.int (0 : Int32))] [(.ref ob_19)])) rfl (by rw [hml]; rfl) (Steps.refl _) (argsL := []) (rest := []) (lenOf pd_11 rfl) rfl (by show 2 * 0 + _ ≤ _; exact Nat.le_of_eq rfl) (hb hby at_222) (fun _ _ => ⟨rfl, eq26, (by decide : 10 + 0 ≤ _), (by decide : 30 + 0 ≤ _)⟩)
      dsimp only [Pt.U, Pt.locs, Pt.cells, Pt.slots] at X27 l27 y27 z27 st27 hQ27
      rw [l27, y27, z27] at X27
      obtain ⟨rfl, N27q, eq27⟩ := hQ27
      have N27 := Fr.app N26 N27q
      refine own_step (T' := T27) (g' := (mkF m 225 #[.val (.int p0), .val (.int p1), .val (.int p2), .val (.int p3), .val (.ref b2), .val (.ref b8), .val (.ref b14), .val (.ref ob_19), .val (.ref b8), .val (.int (0 : Int32))] [(.int (0 : Int32))])) (fun t k => st27.trans k) ?_
      refine own_step (T' := T27) (g' := (mkF m 228 #[.val (.int p0), .val (.int p1), .val (.int p2), .val (.int p3), .val (.ref b2), .val (.ref b8), .val (.ref b14), .val (.ref ob_19), .val (.ref b8), .val (.int (0 : Int32))] [])) (fun t k => XS.ifNo X27.here hx rfl (hb hby at_225) rfl ((if0 _ _).trans (teq (by decide : (0 : Int32) = (0 : Int32))).2) k) ?_
      refine own_step (T' := T27) (g' := (mkF m 230 #[.val (.int p0), .val (.int p1), .val (.int p2), .val (.int p3), .val (.ref b2), .val (.ref b8), .val (.ref b14), .val (.ref ob_19), .val (.ref b8), .val (.int (0 : Int32))] [(.ref ob_19)])) (fun t k => XS.aload X27.here hx rfl (hb hby at_228) rfl rfl k) ?_
      obtain ⟨cq28, kq28, qq28a, qq28b, qq28c⟩ := isOf hZ eq27 pq19_0
      obtain ⟨_, _, ⟨T28, L28, kk28, nn28⟩, -, X28, ⟨Lc28, hQ28, l28, y28, z28⟩, st28⟩ := X27.virtualBack hx (y := (⟨"com/example/tapeloom/tapeloom/Option", "isParameter", "()Z"⟩ : MethodName)) (z := (⟨"com/example/tapeloom/tapeloom/Option", "isParameter", "()Z"⟩ : MethodName)) hown (mvT hZ (hw _ (List.mem_of_getElem? (i := 82) rfl))) (mvT hZ (hw _ (List.mem_of_getElem? (i := 83) rfl))) (notFace_of_selects (args := #[]) (mvT hZ (hw _ (List.mem_of_getElem? (i := 85) rfl)))) (mvT hZ (hw _ (List.mem_of_getElem? (i := 85) rfl))) (mvT hZ (hw _ (List.mem_of_getElem? (i := 84) rfl))) (by decide) (backOf (W := 0) (rm16_00 l Z a0 hw [] ob_19 b2 b8 T19.heap n0 (Nat.le_trans Z0 K_19.1) pq19_1 pq19_2) hZ (hw _ (List.mem_of_getElem? (i := 86) rfl)) (hw _ (List.mem_of_getElem? (i := 32) rfl)) (by decide) (by decide)) qq28a qq28c (g := (mkF m 230 #[.val (.int p0), .val (.int p1), .val (.int p2), .val (.int p3), .val (.ref b2), .val (.ref b8), .val (.ref b14), .val (.ref ob_19), .val (.ref b8), .val (.int (0 : Int32))] [(.ref ob_19)])) rfl (by rw [hml]; rfl) (Steps.refl _) (argsL := []) (rest := []) (lenOf pd_11 rfl) rfl (by show 2 * 0 + _ ≤ _; exact Nat.le_of_eq rfl) (hb hby at_230) (fun _ _ => ⟨rfl, eq27, (by decide : 10 + 0 ≤ _), (by decide : 30 + 0 ≤ _)⟩)
      dsimp only [Pt.U, Pt.locs, Pt.cells, Pt.slots] at X28 l28 y28 z28 st28 hQ28
      rw [l28, y28, z28] at X28
      obtain ⟨rfl, N28q, eq28⟩ := hQ28
      have N28 := Fr.app N27 N28q
      refine own_step (T' := T28) (g' := (mkF m 233 #[.val (.int p0), .val (.int p1), .val (.int p2), .val (.int p3), .val (.ref b2), .val (.ref b8), .val (.ref b14), .val (.ref ob_19), .val (.ref b8), .val (.int (0 : Int32))] [(.int (0 : Int32))])) (fun t k => st28.trans k) ?_
      refine own_step (T' := T28) (g' := (mkF m 235 #[.val (.int p0), .val (.int p1), .val (.int p2), .val (.int p3), .val (.ref b2), .val (.ref b8), .val (.ref b14), .val (.ref ob_19), .val (.ref b8), .val (.int (0 : Int32))] [(.int (0 : Int32)), (.int (0 : Int32))])) (fun t k => XS.iload X28.here hx rfl (hb hby at_233) rfl k) ?_
      refine own_step (T' := T28) (g' := (mkF m 238 #[.val (.int p0), .val (.int p1), .val (.int p2), .val (.int p3), .val (.ref b2), .val (.ref b8), .val (.ref b14), .val (.ref ob_19), .val (.ref b8), .val (.int (0 : Int32))] [])) (fun t k => XS.icmpNo X28.here hx rfl (hb hby at_235) rfl (teq (by decide : (0 : Int32) = (0 : Int32))).2 k) ?_
      refine own_step (T' := T28) (g' := (mkF m 240 #[.val (.int p0), .val (.int p1), .val (.int p2), .val (.int p3), .val (.ref b2), .val (.ref b8), .val (.ref b14), .val (.ref ob_19), .val (.ref b8), .val (.int (0 : Int32))] [(.ref ob_19)])) (fun t k => XS.aload X28.here hx rfl (hb hby at_238) rfl rfl k) ?_
      obtain ⟨cq29, kq29, qq29a, qq29b, qq29c⟩ := isOf hZ eq28 pq19_0
      obtain ⟨_, _, ⟨T29, L29, kk29, nn29⟩, -, X29, ⟨Lc29, hQ29, l29, y29, z29⟩, st29⟩ := X28.virtualBack hx (y := (⟨"com/example/tapeloom/tapeloom/Option", "name", "()Ljava/lang/String;"⟩ : MethodName)) (z := (⟨"com/example/tapeloom/tapeloom/Option", "name", "()Ljava/lang/String;"⟩ : MethodName)) hown (mvT hZ (hw _ (List.mem_of_getElem? (i := 87) rfl))) (mvT hZ (hw _ (List.mem_of_getElem? (i := 88) rfl))) (notFace_of_selects (args := #[]) (mvT hZ (hw _ (List.mem_of_getElem? (i := 90) rfl)))) (mvT hZ (hw _ (List.mem_of_getElem? (i := 90) rfl))) (mvT hZ (hw _ (List.mem_of_getElem? (i := 89) rfl))) (by decide) (backOf (W := 0) (rm17_00 l Z a0 hw [] ob_19 b2 b8 T19.heap n0 (Nat.le_trans Z0 K_19.1) pq19_1 pq19_2) hZ (hw _ (List.mem_of_getElem? (i := 91) rfl)) (hw _ (List.mem_of_getElem? (i := 32) rfl)) (by decide) (by decide)) qq29a qq29c (g := (mkF m 240 #[.val (.int p0), .val (.int p1), .val (.int p2), .val (.int p3), .val (.ref b2), .val (.ref b8), .val (.ref b14), .val (.ref ob_19), .val (.ref b8), .val (.int (0 : Int32))] [(.ref ob_19)])) rfl (by rw [hml]; rfl) (Steps.refl _) (argsL := []) (rest := []) (lenOf pd_8 rfl) rfl (by show 2 * 0 + _ ≤ _; exact Nat.le_of_eq rfl) (hb hby at_240) (fun _ _ => ⟨rfl, eq28, (by decide : 10 + 0 ≤ _), (by decide : 30 + 0 ≤ _)⟩)
      dsimp only [Pt.U, Pt.locs, Pt.cells, Pt.slots] at X29 l29 y29 z29 st29 hQ29
      rw [l29, y29, z29] at X29
      obtain ⟨rfl, N29q, eq29⟩ := hQ29
      have N29 := Fr.app N28 N29q
      refine own_step (T' := T29) (g' := (mkF m 243 #[.val (.int p0), .val (.int p1), .val (.int p2), .val (.int p3), .val (.ref b2), .val (.ref b8), .val (.ref b14), .val (.ref ob_19), .val (.ref b8), .val (.int (0 : Int32))] [(.ref b8)])) (fun t k => st29.trans k) ?_
      refine own_step (T' := T29) (g' := (mkF m 245 #[.val (.int p0), .val (.int p1), .val (.int p2), .val (.int p3), .val (.ref b2), .val (.ref b8), .val (.ref b14), .val (.ref ob_19), .val (.ref b8), .val (.int (0 : Int32))] [(.ref b8), (.ref b8)])) (fun t k => XS.aload X29.here hx rfl (hb hby at_243) rfl rfl k) ?_
      obtain ⟨_, _, ⟨T30, L30, kk30, nn30⟩, -, X30, ⟨Lc30, hQ30, l30, y30, z30⟩, st30⟩ := Jvm.LawKit.callS X29 hx (y := (⟨"com/example/tapeloom/tapeloom/OptionFlagPinLaw", "eq", "(Ljava/lang/String;Ljava/lang/String;)Z"⟩ : MethodName)) hown (mvT hZ (hw _ (List.mem_of_getElem? (i := 53) rfl))) (mvT hZ (hw _ (List.mem_of_getElem? (i := 54) rfl))) (mvT hZ (hw _ (List.mem_of_getElem? (i := 55) rfl))) (mvT hZ (hw _ (List.mem_of_getElem? (i := 56) rfl))) (by decide) (backOf (W := 0) (rm10_0 l Z a0 hw [] b8 T19.heap n0 (Nat.le_trans Z0 K_19.1) E_b8_19) hZ (hw _ (List.mem_of_getElem? (i := 56) rfl)) (hw _ (List.mem_of_getElem? (i := 55) rfl)) (by decide) (by decide)) (g := (mkF m 245 #[.val (.int p0), .val (.int p1), .val (.int p2), .val (.int p3), .val (.ref b2), .val (.ref b8), .val (.ref b14), .val (.ref ob_19), .val (.ref b8), .val (.int (0 : Int32))] [(.ref b8), (.ref b8)])) rfl (by rw [hml]; rfl) (argsL := [(.ref b8), (.ref b8)]) (rest := []) (lenOf pd_9 rfl) rfl (by show 2 * 0 + _ ≤ _; exact Nat.le_of_eq rfl) (hb hby at_245) (fun _ _ => ⟨rfl, eq29, (by decide : 10 + 0 ≤ _), (by decide : 30 + 0 ≤ _)⟩)
      dsimp only [Pt.U, Pt.locs, Pt.cells, Pt.slots] at X30 l30 y30 z30 st30 hQ30
      rw [l30, y30, z30] at X30
      obtain ⟨rfl, N30q, eq30⟩ := hQ30
      have N30 := Fr.app N29 N30q
      refine own_step (T' := T30) (g' := (mkF m 248 #[.val (.int p0), .val (.int p1), .val (.int p2), .val (.int p3), .val (.ref b2), .val (.ref b8), .val (.ref b14), .val (.ref ob_19), .val (.ref b8), .val (.int (0 : Int32))] [(.int (1 : Int32))])) st30 ?_
      refine own_step (T' := T30) (g' := (mkF m 251 #[.val (.int p0), .val (.int p1), .val (.int p2), .val (.int p3), .val (.ref b2), .val (.ref b8), .val (.ref b14), .val (.ref ob_19), .val (.ref b8), .val (.int (0 : Int32))] [])) (fun t k => XS.ifNo X30.here hx rfl (hb hby at_248) rfl ((if0 _ _).trans (feq (by decide : ¬ ((1 : Int32) = (0 : Int32)))).1) k) ?_
      refine own_step (T' := T30) (g' := (mkF m 252 #[.val (.int p0), .val (.int p1), .val (.int p2), .val (.int p3), .val (.ref b2), .val (.ref b8), .val (.ref b14), .val (.ref ob_19), .val (.ref b8), .val (.int (0 : Int32))] [(.int (1 : Int32))])) (fun t k => XS.iconst X30.here hx rfl (hb hby at_251) k) ?_
      refine own_step (T' := T30) (g' := (mkF m 256 #[.val (.int p0), .val (.int p1), .val (.int p2), .val (.int p3), .val (.ref b2), .val (.ref b8), .val (.ref b14), .val (.ref ob_19), .val (.ref b8), .val (.int (0 : Int32))] [(.int (1 : Int32))])) (fun t k => XS.goto X30.here hx rfl (pc0 := 252) (pc' := 256) rfl (hb hby at_252) (by decide) (by decide) k) ?_
      refine own_retN X30 hx hlk (t := .boolean) (w := (1 : Int32)) Bd.returns (by simp) (hb hby at_256) rfl (by decide) (by decide) ?_
      exact ⟨rfl, N30⟩
    · refine own_step (T' := T6) (g' := (mkF m 49 #[.val (.int p0), .val (.int p1), .val (.int p2), .val (.int p3), .val (.ref b2), .unset, .unset, .unset, .unset, .unset] [])) (fun t k => XS.ifNo X6.here hx rfl (hb hby at_46) rfl ((if0 _ _).trans (feq hc46_7).1) k) ?_
      refine own_step (T' := T6) (g' := (mkF m 50 #[.val (.int p0), .val (.int p1), .val (.int p2), .val (.int p3), .val (.ref b2), .unset, .unset, .unset, .unset, .unset] [.null])) (fun t k => XS.aconstNull X6.here hx rfl (hb hby at_49) k) ?_
      refine own_step (T' := T6) (g' := (mkF m 96 #[.val (.int p0), .val (.int p1), .val (.int p2), .val (.int p3), .val (.ref b2), .unset, .unset, .unset, .unset, .unset] [.null])) (fun t k => XS.goto X6.here hx rfl (pc0 := 50) (pc' := 96) rfl (hb hby at_50) (by decide) (by decide) k) ?_
      refine own_step (T' := T6) (g' := (mkF m 98 #[.val (.int p0), .val (.int p1), .val (.int p2), .val (.int p3), .val (.ref b2), .val .null, .unset, .unset, .unset, .unset] [])) (fun t k => XS.astore X6.here hx rfl (hb hby at_96) rfl rfl (l' := #[.val (.int p0), .val (.int p1), .val (.int p2), .val (.int p3), .val (.ref b2), .val .null, .unset, .unset, .unset, .unset]) rfl k) ?_
      obtain ⟨T32, h32, X32, e32, E32, A32, D32, -, st32⟩ := newO X6 hx hZ hown (hw _ (List.mem_of_getElem? (i := 0) rfl)) (hw _ (List.mem_of_getElem? (i := 1) rfl)) (hw _ (List.mem_of_getElem? (i := 2) rfl)) rfl (g := (mkF m 98 #[.val (.int p0), .val (.int p1), .val (.int p2), .val (.int p3), .val (.ref b2), .val .null, .unset, .unset, .unset, .unset] [])) rfl (hb hby at_98) (by decide) (by decide)
      obtain ⟨b32, g32⟩ : ∃ z, z = T6.heap.size := ⟨_, rfl⟩
      rw [← g32] at A32 D32 st32
      have S_COMPACT_STRINGS_32 : Sta Z h32 "java/lang/String" "COMPACT_STRINGS" "Z" (.int G1) := S_COMPACT_STRINGS_6.ext E32
      have E_b2_32 : Exa Z h32 b2 "java/lang/String" := E_b2_6.ext E32
      have V_b3_32 : Arv Z h32 b3 k3 .char (2 : Int32) [(.int ch4), (.int ch5)] (.int (0 : Int32)) := V_b3_6.ext E32
      have F_coder_b2_32 : Fld Z h32 b2 "java/lang/String" "coder" "B" (.int (0 : Int32)) := pc6.ext E32
      have F_value_b2_32 : Fld Z h32 b2 "java/lang/String" "value" "[B" (.ref t6) := pv6.ext E32
      have V_t6_32 : Arv Z h32 t6 kb6 .byte (2 : Int32) ((([ch4, ch5] : List Int32).map (fun c => c.toInt8.toInt32)).map Value.int) (.int 0) := pa6.ext E32
      have K_32 : Keep h0 h32 [] := K_6.ext E32
      have sz_b32 : h0.size ≤ b32 := Nat.le_trans K_6.1 (Nat.le_of_eq g32.symm)
      have g_b32 : n0 ≤ b32 := Nat.le_trans Z0 sz_b32
      have ne_b2_b32 : b2 ≠ b32 := Nat.ne_of_lt (Nat.lt_of_lt_of_le E_b2_6.lt (Nat.le_of_eq g32.symm))
      have ne_b3_b32 : b3 ≠ b32 := Nat.ne_of_lt (Nat.lt_of_lt_of_le V_b3_6.lt (Nat.le_of_eq g32.symm))
      have ne_t6_b32 : t6 ≠ b32 := Nat.ne_of_lt (Nat.lt_of_lt_of_le pa6.lt (Nat.le_of_eq g32.symm))
      have E_b32 : Exa Z h32 b32 "java/lang/String" := A32
      have F_coder_b32 : Fld Z h32 b32 "java/lang/String" "coder" "B" (.int (0 : Int32)) := D32 (Or.inr (hw _ (List.mem_of_getElem? (i := 27) rfl))) (ty := .byte) (by decide)
      have F_value_b32 : Fld Z h32 b32 "java/lang/String" "value" "[B" .null := D32 (Or.inr (hw _ (List.mem_of_getElem? (i := 29) rfl))) (ty := (.array .byte)) (by decide)
      refine own_step (T' := T32) (g' := (mkF m 101 #[.val (.int p0), .val (.int p1), .val (.int p2), .val (.int p3), .val (.ref b2), .val .null, .unset, .unset, .unset, .unset] [(.ref b32)])) st32 ?_
      refine own_step (T' := T32) (g' := (mkF m 102 #[.val (.int p0), .val (.int p1), .val (.int p2), .val (.int p3), .val (.ref b2), .val .null, .unset, .unset, .unset, .unset] [(.ref b32), (.ref b32)])) (fun t k => XS.dup X32.here hx rfl (hb hby at_101) rfl rfl k) ?_
      refine own_step (T' := T32) (g' := (mkF m 103 #[.val (.int p0), .val (.int p1), .val (.int p2), .val (.int p3), .val (.ref b2), .val .null, .unset, .unset, .unset, .unset] [(.int (2 : Int32)), (.ref b32), (.ref b32)])) (fun t k => XS.iconst X32.here hx rfl (hb hby at_102) k) ?_
      obtain ⟨T33, h33, k33, X33, e33, E33, A33, st33⟩ := newP X32 hx hZ (hw _ (List.mem_of_getElem? (i := 3) rfl)) e32 (g := (mkF m 103 #[.val (.int p0), .val (.int p1), .val (.int p2), .val (.int p3), .val (.ref b2), .val .null, .unset, .unset, .unset, .unset] [(.int (2 : Int32)), (.ref b32), (.ref b32)])) rfl (hb hby at_103) rfl (by decide) (cap := 2) (by decide) (by decide) (by decide) (by decide)
      obtain ⟨b33, g33⟩ : ∃ z, z = h32.size := ⟨_, rfl⟩
      rw [← g33] at A33 st33
      have S_COMPACT_STRINGS_33 : Sta Z h33 "java/lang/String" "COMPACT_STRINGS" "Z" (.int G1) := S_COMPACT_STRINGS_32.ext E33
      have E_b2_33 : Exa Z h33 b2 "java/lang/String" := E_b2_32.ext E33
      have V_b3_33 : Arv Z h33 b3 k3 .char (2 : Int32) [(.int ch4), (.int ch5)] (.int (0 : Int32)) := V_b3_32.ext E33
      have F_coder_b2_33 : Fld Z h33 b2 "java/lang/String" "coder" "B" (.int (0 : Int32)) := F_coder_b2_32.ext E33
      have F_value_b2_33 : Fld Z h33 b2 "java/lang/String" "value" "[B" (.ref t6) := F_value_b2_32.ext E33
      have V_t6_33 : Arv Z h33 t6 kb6 .byte (2 : Int32) ((([ch4, ch5] : List Int32).map (fun c => c.toInt8.toInt32)).map Value.int) (.int 0) := V_t6_32.ext E33
      have E_b32_33 : Exa Z h33 b32 "java/lang/String" := E_b32.ext E33
      have F_coder_b32_33 : Fld Z h33 b32 "java/lang/String" "coder" "B" (.int (0 : Int32)) := F_coder_b32.ext E33
      have F_value_b32_33 : Fld Z h33 b32 "java/lang/String" "value" "[B" .null := F_value_b32.ext E33
      have K_33 : Keep h0 h33 [] := K_32.ext E33
      have sz_b33 : h0.size ≤ b33 := Nat.le_trans K_32.1 (Nat.le_of_eq g33.symm)
      have g_b33 : n0 ≤ b33 := Nat.le_trans Z0 sz_b33
      have ne_b2_b33 : b2 ≠ b33 := Nat.ne_of_lt (Nat.lt_of_lt_of_le E_b2_32.lt (Nat.le_of_eq g33.symm))
      have ne_b3_b33 : b3 ≠ b33 := Nat.ne_of_lt (Nat.lt_of_lt_of_le V_b3_32.lt (Nat.le_of_eq g33.symm))
      have ne_t6_b33 : t6 ≠ b33 := Nat.ne_of_lt (Nat.lt_of_lt_of_le V_t6_32.lt (Nat.le_of_eq g33.symm))
      have ne_b32_b33 : b32 ≠ b33 := Nat.ne_of_lt (Nat.lt_of_lt_of_le E_b32.lt (Nat.le_of_eq g33.symm))
      have V_b33 : Arv Z h33 b33 k33 .char (2 : Int32) [(.int (0 : Int32)), (.int (0 : Int32))] (.int (0 : Int32)) := (Arv.new A33 (by decide)).pad (pad_rep [] (.int (0 : Int32)) 2)
      refine own_step (T' := T33) (g' := (mkF m 105 #[.val (.int p0), .val (.int p1), .val (.int p2), .val (.int p3), .val (.ref b2), .val .null, .unset, .unset, .unset, .unset] [(.ref b33), (.ref b32), (.ref b32)])) st33 ?_
      refine own_step (T' := T33) (g' := (mkF m 106 #[.val (.int p0), .val (.int p1), .val (.int p2), .val (.int p3), .val (.ref b2), .val .null, .unset, .unset, .unset, .unset] [(.ref b33), (.ref b33), (.ref b32), (.ref b32)])) (fun t k => XS.dup X33.here hx rfl (hb hby at_105) rfl rfl k) ?_
      refine own_step (T' := T33) (g' := (mkF m 107 #[.val (.int p0), .val (.int p1), .val (.int p2), .val (.int p3), .val (.ref b2), .val .null, .unset, .unset, .unset, .unset] [(.int (0 : Int32)), (.ref b33), (.ref b33), (.ref b32), (.ref b32)])) (fun t k => XS.iconst X33.here hx rfl (hb hby at_106) k) ?_
      refine own_step (T' := T33) (g' := (mkF m 108 #[.val (.int p0), .val (.int p1), .val (.int p2), .val (.int p3), .val (.ref b2), .val .null, .unset, .unset, .unset, .unset] [(.int p3), (.int (0 : Int32)), (.ref b33), (.ref b33), (.ref b32), (.ref b32)])) (fun t k => XS.iloadN X33.here hx rfl (hb hby at_107) rfl k) ?_
      refine own_step (T' := T33) (g' := (mkF m 111 #[.val (.int p0), .val (.int p1), .val (.int p2), .val (.int p3), .val (.ref b2), .val .null, .unset, .unset, .unset, .unset] [(.int (255 : Int32)), (.int p3), (.int (0 : Int32)), (.ref b33), (.ref b33), (.ref b32), (.ref b32)])) (fun t k => XS.sipush X33.here hx rfl (hb hby at_108) k) ?_
      refine own_step (T' := T33) (g' := (mkF m 112 #[.val (.int p0), .val (.int p1), .val (.int p2), .val (.int p3), .val (.ref b2), .val .null, .unset, .unset, .unset, .unset] [(.int (p3 &&& (255 : Int32))), (.int (0 : Int32)), (.ref b33), (.ref b33), (.ref b32), (.ref b32)])) (fun t k => XS.iand X33.here hx rfl (hb hby at_111) rfl k) ?_
      refine own_step (T' := T33) (g' := (mkF m 113 #[.val (.int p0), .val (.int p1), .val (.int p2), .val (.int p3), .val (.ref b2), .val .null, .unset, .unset, .unset, .unset] [(.int (p3 &&& (255 : Int32)).toUInt32.toUInt16.toUInt32.toInt32), (.int (0 : Int32)), (.ref b33), (.ref b33), (.ref b32), (.ref b32)])) (fun t k => XS.i2c X33.here hx rfl (hb hby at_112) rfl k) ?_
      obtain ⟨cl34, Ar34, q34, Sz34, Nn34, Hh34, Gg34⟩ := id V_b33
      have hin34 : ¬ ((0 : Int32) < 0 ∨ cl34.slots.size ≤ ((0 : Int32)).toNatClampNeg) := inb_of Sz34 ⟨by decide, by decide⟩
      obtain ⟨T34, h34, X34, e34, W34, st34⟩ := stC X33 hx hZ e33 Ar34 (j := (0 : Int32)) hin34 (g := (mkF m 113 #[.val (.int p0), .val (.int p1), .val (.int p2), .val (.int p3), .val (.ref b2), .val .null, .unset, .unset, .unset, .unset] [(.int (p3 &&& (255 : Int32)).toUInt32.toUInt16.toUInt32.toInt32), (.int (0 : Int32)), (.ref b33), (.ref b33), (.ref b32), (.ref b32)])) rfl rfl (hb hby at_113)
      have S_COMPACT_STRINGS_34 : Sta Z h34 "java/lang/String" "COMPACT_STRINGS" "Z" (.int G1) := S_COMPACT_STRINGS_33.wr W34
      have E_b2_34 : Exa Z h34 b2 "java/lang/String" := E_b2_33.wr W34
      have V_b3_34 : Arv Z h34 b3 k3 .char (2 : Int32) [(.int ch4), (.int ch5)] (.int (0 : Int32)) := V_b3_33.other W34 ne_b3_b33
      have F_coder_b2_34 : Fld Z h34 b2 "java/lang/String" "coder" "B" (.int (0 : Int32)) := F_coder_b2_33.other W34 (Or.inl ne_b2_b33)
      have F_value_b2_34 : Fld Z h34 b2 "java/lang/String" "value" "[B" (.ref t6) := F_value_b2_33.other W34 (Or.inl ne_b2_b33)
      have V_t6_34 : Arv Z h34 t6 kb6 .byte (2 : Int32) ((([ch4, ch5] : List Int32).map (fun c => c.toInt8.toInt32)).map Value.int) (.int 0) := V_t6_33.other W34 ne_t6_b33
      have E_b32_34 : Exa Z h34 b32 "java/lang/String" := E_b32_33.wr W34
      have F_coder_b32_34 : Fld Z h34 b32 "java/lang/String" "coder" "B" (.int (0 : Int32)) := F_coder_b32_33.other W34 (Or.inl ne_b32_b33)
      have F_value_b32_34 : Fld Z h34 b32 "java/lang/String" "value" "[B" .null := F_value_b32_33.other W34 (Or.inl ne_b32_b33)
      have K_34 : Keep h0 h34 [] := K_33.wr W34 (Or.inr sz_b33)
      have N34 := Fr.snoc X34 N6 g_b33
      obtain ⟨ch34, hch34⟩ : ∃ z, z = (nar .char (p3 &&& (255 : Int32)).toUInt32.toUInt16.toUInt32.toInt32) := ⟨_, rfl⟩
      have bch34 : ¬ ch34 < 0 ∧ ¬ (255 : Int32) < ch34 := by rw [hch34]; exact own_c255 _
      have V_b33_34 : Arv Z h34 b33 k33 .char (2 : Int32) [(.int ch34), (.int (0 : Int32))] (.int (0 : Int32)) := by rw [hch34]; exact Arv.set Ar34 q34 Sz34 Nn34 Hh34 Gg34 (fits_nar_char _) W34 0 rfl (Nat.le_of_ble_eq_true rfl)
      refine own_step (T' := T34) (g' := (mkF m 114 #[.val (.int p0), .val (.int p1), .val (.int p2), .val (.int p3), .val (.ref b2), .val .null, .unset, .unset, .unset, .unset] [(.ref b33), (.ref b32), (.ref b32)])) st34 ?_
      refine own_step (T' := T34) (g' := (mkF m 115 #[.val (.int p0), .val (.int p1), .val (.int p2), .val (.int p3), .val (.ref b2), .val .null, .unset, .unset, .unset, .unset] [(.ref b33), (.ref b33), (.ref b32), (.ref b32)])) (fun t k => XS.dup X34.here hx rfl (hb hby at_114) rfl rfl k) ?_
      refine own_step (T' := T34) (g' := (mkF m 116 #[.val (.int p0), .val (.int p1), .val (.int p2), .val (.int p3), .val (.ref b2), .val .null, .unset, .unset, .unset, .unset] [(.int (1 : Int32)), (.ref b33), (.ref b33), (.ref b32), (.ref b32)])) (fun t k => XS.iconst X34.here hx rfl (hb hby at_115) k) ?_
      refine own_step (T' := T34) (g' := (mkF m 117 #[.val (.int p0), .val (.int p1), .val (.int p2), .val (.int p3), .val (.ref b2), .val .null, .unset, .unset, .unset, .unset] [(.int p3), (.int (1 : Int32)), (.ref b33), (.ref b33), (.ref b32), (.ref b32)])) (fun t k => XS.iloadN X34.here hx rfl (hb hby at_116) rfl k) ?_
      refine own_step (T' := T34) (g' := (mkF m 119 #[.val (.int p0), .val (.int p1), .val (.int p2), .val (.int p3), .val (.ref b2), .val .null, .unset, .unset, .unset, .unset] [(.int (8 : Int32)), (.int p3), (.int (1 : Int32)), (.ref b33), (.ref b33), (.ref b32), (.ref b32)])) (fun t k => XS.bipush X34.here hx rfl (hb hby at_117) k) ?_
      refine own_step (T' := T34) (g' := (mkF m 120 #[.val (.int p0), .val (.int p1), .val (.int p2), .val (.int p3), .val (.ref b2), .val .null, .unset, .unset, .unset, .unset] [(.int (p3.toUInt32 >>> ((8 : Int32) &&& 31).toUInt32).toInt32), (.int (1 : Int32)), (.ref b33), (.ref b33), (.ref b32), (.ref b32)])) (fun t k => XS.iushr X34.here hx rfl (hb hby at_119) rfl k) ?_
      refine own_step (T' := T34) (g' := (mkF m 123 #[.val (.int p0), .val (.int p1), .val (.int p2), .val (.int p3), .val (.ref b2), .val .null, .unset, .unset, .unset, .unset] [(.int (255 : Int32)), (.int (p3.toUInt32 >>> ((8 : Int32) &&& 31).toUInt32).toInt32), (.int (1 : Int32)), (.ref b33), (.ref b33), (.ref b32), (.ref b32)])) (fun t k => XS.sipush X34.here hx rfl (hb hby at_120) k) ?_
      refine own_step (T' := T34) (g' := (mkF m 124 #[.val (.int p0), .val (.int p1), .val (.int p2), .val (.int p3), .val (.ref b2), .val .null, .unset, .unset, .unset, .unset] [(.int ((p3.toUInt32 >>> ((8 : Int32) &&& 31).toUInt32).toInt32 &&& (255 : Int32))), (.int (1 : Int32)), (.ref b33), (.ref b33), (.ref b32), (.ref b32)])) (fun t k => XS.iand X34.here hx rfl (hb hby at_123) rfl k) ?_
      refine own_step (T' := T34) (g' := (mkF m 125 #[.val (.int p0), .val (.int p1), .val (.int p2), .val (.int p3), .val (.ref b2), .val .null, .unset, .unset, .unset, .unset] [(.int ((p3.toUInt32 >>> ((8 : Int32) &&& 31).toUInt32).toInt32 &&& (255 : Int32)).toUInt32.toUInt16.toUInt32.toInt32), (.int (1 : Int32)), (.ref b33), (.ref b33), (.ref b32), (.ref b32)])) (fun t k => XS.i2c X34.here hx rfl (hb hby at_124) rfl k) ?_
      obtain ⟨cl35, Ar35, q35, Sz35, Nn35, Hh35, Gg35⟩ := id V_b33_34
      have hin35 : ¬ ((1 : Int32) < 0 ∨ cl35.slots.size ≤ ((1 : Int32)).toNatClampNeg) := inb_of Sz35 ⟨by decide, by decide⟩
      obtain ⟨T35, h35, X35, e35, W35, st35⟩ := stC X34 hx hZ e34 Ar35 (j := (1 : Int32)) hin35 (g := (mkF m 125 #[.val (.int p0), .val (.int p1), .val (.int p2), .val (.int p3), .val (.ref b2), .val .null, .unset, .unset, .unset, .unset] [(.int ((p3.toUInt32 >>> ((8 : Int32) &&& 31).toUInt32).toInt32 &&& (255 : Int32)).toUInt32.toUInt16.toUInt32.toInt32), (.int (1 : Int32)), (.ref b33), (.ref b33), (.ref b32), (.ref b32)])) rfl rfl (hb hby at_125)
      have S_COMPACT_STRINGS_35 : Sta Z h35 "java/lang/String" "COMPACT_STRINGS" "Z" (.int G1) := S_COMPACT_STRINGS_34.wr W35
      have E_b2_35 : Exa Z h35 b2 "java/lang/String" := E_b2_34.wr W35
      have V_b3_35 : Arv Z h35 b3 k3 .char (2 : Int32) [(.int ch4), (.int ch5)] (.int (0 : Int32)) := V_b3_34.other W35 ne_b3_b33
      have F_coder_b2_35 : Fld Z h35 b2 "java/lang/String" "coder" "B" (.int (0 : Int32)) := F_coder_b2_34.other W35 (Or.inl ne_b2_b33)
      have F_value_b2_35 : Fld Z h35 b2 "java/lang/String" "value" "[B" (.ref t6) := F_value_b2_34.other W35 (Or.inl ne_b2_b33)
      have V_t6_35 : Arv Z h35 t6 kb6 .byte (2 : Int32) ((([ch4, ch5] : List Int32).map (fun c => c.toInt8.toInt32)).map Value.int) (.int 0) := V_t6_34.other W35 ne_t6_b33
      have E_b32_35 : Exa Z h35 b32 "java/lang/String" := E_b32_34.wr W35
      have F_coder_b32_35 : Fld Z h35 b32 "java/lang/String" "coder" "B" (.int (0 : Int32)) := F_coder_b32_34.other W35 (Or.inl ne_b32_b33)
      have F_value_b32_35 : Fld Z h35 b32 "java/lang/String" "value" "[B" .null := F_value_b32_34.other W35 (Or.inl ne_b32_b33)
      have K_35 : Keep h0 h35 [] := K_34.wr W35 (Or.inr sz_b33)
      have N35 := Fr.snoc X35 N34 g_b33
      obtain ⟨ch35, hch35⟩ : ∃ z, z = (nar .char ((p3.toUInt32 >>> ((8 : Int32) &&& 31).toUInt32).toInt32 &&& (255 : Int32)).toUInt32.toUInt16.toUInt32.toInt32) := ⟨_, rfl⟩
      have bch35 : ¬ ch35 < 0 ∧ ¬ (255 : Int32) < ch35 := by rw [hch35]; exact own_c255 _
      have V_b33_35 : Arv Z h35 b33 k33 .char (2 : Int32) [(.int ch34), (.int ch35)] (.int (0 : Int32)) := by rw [hch35]; exact Arv.set Ar35 q35 Sz35 Nn35 Hh35 Gg35 (fits_nar_char _) W35 1 rfl (Nat.le_of_ble_eq_true rfl)
      refine own_step (T' := T35) (g' := (mkF m 126 #[.val (.int p0), .val (.int p1), .val (.int p2), .val (.int p3), .val (.ref b2), .val .null, .unset, .unset, .unset, .unset] [(.ref b33), (.ref b32), (.ref b32)])) st35 ?_
      have hp36 : ∀ c ∈ ([ch34, ch35] : List Int32), ¬ c < 0 ∧ ¬ (255 : Int32) < c := by
        intro c hc
        simp only [List.mem_cons, List.not_mem_nil, or_false] at hc
        rcases hc with rfl | rfl
        · exact bch34
        · exact bch35
      obtain ⟨_, _, ⟨T36, L36, kk36, nn36⟩, -, X36, ⟨Lc36, hQ36, l36, y36, z36⟩, st36⟩ := X35.specialBack hx (y := (⟨"java/lang/String", "<init>", "([C)V"⟩ : MethodName)) rfl hown (mvT hZ (hw _ (List.mem_of_getElem? (i := 4) rfl))) (mvT hZ (hw _ (List.mem_of_getElem? (i := 5) rfl))) (mvT hZ (hw _ (List.mem_of_getElem? (i := 6) rfl))) (by decide) (StrChars.Road.backV (W := 1) hZ hws (kI := 4) (hw _ (List.mem_of_getElem? (i := 1) rfl)) (cs := ([ch34, ch35] : List Int32)) (bs := ([ch34, ch35] : List Int32).map (fun c => c.toInt8.toInt32)) (n := 2) g_b32 (Nat.le_trans Z0 K_35.1) E_b32_35 F_value_b32_35 F_coder_b32_35 V_b33_35 S_COMPACT_STRINGS_35 P5 rfl rfl (by decide) (by decide) hp36 rfl (by decide) (by decide)) (g := (mkF m 126 #[.val (.int p0), .val (.int p1), .val (.int p2), .val (.int p3), .val (.ref b2), .val .null, .unset, .unset, .unset, .unset] [(.ref b33), (.ref b32), (.ref b32)])) rfl (by rw [hml]; rfl) (Steps.refl _) (a := b32) (argsL := [(.ref b33)]) (rest := [(.ref b32)]) (lenOf pd_0 rfl) rfl (by show 2 * 0 + _ ≤ _; exact Nat.le_of_eq rfl) (hb hby at_126) (fun _ _ => ⟨rfl, e35, (by decide : 5 + 1 ≤ _), (by decide : 14 + 2 ≤ _)⟩)
      dsimp only [Pt.U, Pt.locs, Pt.cells, Pt.slots] at X36 l36 y36 z36 st36 hQ36
      rw [l36, y36, z36] at X36
      obtain ⟨rfl, N36q, Kq36, pe36, pc36, t36, kb36, gt36, st36', nt36, pv36, pa36⟩ := hQ36
      have N36 := Fr.app N35 N36q
      have S_COMPACT_STRINGS_36 : Sta Z T36.heap "java/lang/String" "COMPACT_STRINGS" "Z" (.int G1) := own_sta_keep S_COMPACT_STRINGS_35 Kq36 (allS E_b32_35.nostat all0)
      have E_b2_36 : Exa Z T36.heap b2 "java/lang/String" := E_b2_35.keep Kq36
      have V_b3_36 : Arv Z T36.heap b3 k3 .char (2 : Int32) [(.int ch4), (.int ch5)] (.int (0 : Int32)) := V_b3_35.keep Kq36 (ninS ne_b3_b32 nin0)
      have F_coder_b2_36 : Fld Z T36.heap b2 "java/lang/String" "coder" "B" (.int (0 : Int32)) := F_coder_b2_35.keep Kq36 (ninS ne_b2_b32 nin0)
      have F_value_b2_36 : Fld Z T36.heap b2 "java/lang/String" "value" "[B" (.ref t6) := F_value_b2_35.keep Kq36 (ninS ne_b2_b32 nin0)
      have V_t6_36 : Arv Z T36.heap t6 kb6 .byte (2 : Int32) ((([ch4, ch5] : List Int32).map (fun c => c.toInt8.toInt32)).map Value.int) (.int 0) := V_t6_35.keep Kq36 (ninS ne_t6_b32 nin0)
      have E_b32_36 : Exa Z T36.heap b32 "java/lang/String" := E_b32_35.keep Kq36
      have V_b33_36 : Arv Z T36.heap b33 k33 .char (2 : Int32) [(.int ch34), (.int ch35)] (.int (0 : Int32)) := V_b33_35.keep Kq36 (ninS (Ne.symm ne_b32_b33) nin0)
      have K_36 : Keep h0 T36.heap [] := K_35.trans Kq36 (allS (Or.inr sz_b32) all0)
      have sz_t36 : h0.size ≤ t36 := Nat.le_trans K_35.1 st36'
      have ne_b2_t36 : b2 ≠ t36 := Nat.ne_of_lt (Nat.lt_of_lt_of_le E_b2_35.lt st36')
      have ne_b3_t36 : b3 ≠ t36 := Nat.ne_of_lt (Nat.lt_of_lt_of_le V_b3_35.lt st36')
      have ne_t6_t36 : t6 ≠ t36 := Nat.ne_of_lt (Nat.lt_of_lt_of_le V_t6_35.lt st36')
      have ne_b32_t36 : b32 ≠ t36 := Nat.ne_of_lt (Nat.lt_of_lt_of_le E_b32_35.lt st36')
      have ne_b33_t36 : b33 ≠ t36 := Nat.ne_of_lt (Nat.lt_of_lt_of_le V_b33_35.lt st36')
      refine own_step (T' := T36) (g' := (mkF m 129 #[.val (.int p0), .val (.int p1), .val (.int p2), .val (.int p3), .val (.ref b2), .val .null, .unset, .unset, .unset, .unset] [(.ref b32)])) (fun t k => st36.trans k) ?_
      refine own_step (T' := T36) (g' := (mkF m 131 #[.val (.int p0), .val (.int p1), .val (.int p2), .val (.int p3), .val (.ref b2), .val .null, .val (.ref b32), .unset, .unset, .unset] [])) (fun t k => XS.astore X36.here hx rfl (hb hby at_129) rfl rfl (l' := #[.val (.int p0), .val (.int p1), .val (.int p2), .val (.int p3), .val (.ref b2), .val .null, .val (.ref b32), .unset, .unset, .unset]) rfl k) ?_
      refine own_step (T' := T36) (g' := (mkF m 133 #[.val (.int p0), .val (.int p1), .val (.int p2), .val (.int p3), .val (.ref b2), .val .null, .val (.ref b32), .unset, .unset, .unset] [(.ref b2)])) (fun t k => XS.aload X36.here hx rfl (hb hby at_131) rfl rfl k) ?_
      refine own_step (T' := T36) (g' := (mkF m 135 #[.val (.int p0), .val (.int p1), .val (.int p2), .val (.int p3), .val (.ref b2), .val .null, .val (.ref b32), .unset, .unset, .unset] [.null, (.ref b2)])) (fun t k => XS.aload X36.here hx rfl (hb hby at_133) rfl rfl k) ?_
      refine own_step (T' := T36) (g' := (mkF m 137 #[.val (.int p0), .val (.int p1), .val (.int p2), .val (.int p3), .val (.ref b2), .val .null, .val (.ref b32), .unset, .unset, .unset] [(.ref b32), .null, (.ref b2)])) (fun t k => XS.aload X36.here hx rfl (hb hby at_135) rfl rfl k) ?_
      obtain ⟨_, _, ⟨T37, L37, kk37, nn37⟩, -, X37, ⟨Lc37, hQ37, l37, y37, z37⟩, st37⟩ := Jvm.LawKit.callS X36 hx (y := (⟨"com/example/tapeloom/tapeloom/Option", "flag", "(Ljava/lang/String;Ljava/lang/String;Ljava/lang/String;)Lcom/example/tapeloom/tapeloom/Option;"⟩ : MethodName)) hown (mvT hZ (hw _ (List.mem_of_getElem? (i := 30) rfl))) (mvT hZ (hw _ (List.mem_of_getElem? (i := 31) rfl))) (mvT hZ (hw _ (List.mem_of_getElem? (i := 32) rfl))) (mvT hZ (hw _ (List.mem_of_getElem? (i := 33) rfl))) (by decide) (backOf (W := 0) (rm7_01 l Z a0 hw [] b2 b32 T36.heap n0 (Nat.le_trans Z0 K_36.1) ) hZ (hw _ (List.mem_of_getElem? (i := 33) rfl)) (hw _ (List.mem_of_getElem? (i := 32) rfl)) (by decide) (by decide)) (g := (mkF m 137 #[.val (.int p0), .val (.int p1), .val (.int p2), .val (.int p3), .val (.ref b2), .val .null, .val (.ref b32), .unset, .unset, .unset] [(.ref b32), .null, (.ref b2)])) rfl (by rw [hml]; rfl) (argsL := [(.ref b2), .null, (.ref b32)]) (rest := []) (lenOf pd_6 rfl) rfl (by show 2 * 0 + _ ≤ _; exact Nat.le_of_eq rfl) (hb hby at_137) (fun _ _ => ⟨rfl, rfl, (by decide : 6 + 1 ≤ _), (by decide : 16 + 4 ≤ _)⟩)
      dsimp only [Pt.U, Pt.locs, Pt.cells, Pt.slots] at X37 l37 y37 z37 st37 hQ37
      rw [l37, y37, z37] at X37
      obtain ⟨ob_37, rfl, N37q, Kq37, pq37_0, pq37_1, pq37_2, pq37_3, pq37_4, pq37_5, pq37_6⟩ := hQ37
      have N37 := Fr.app N36 N37q
      have S_COMPACT_STRINGS_37 : Sta Z T37.heap "java/lang/String" "COMPACT_STRINGS" "Z" (.int G1) := own_sta_keep S_COMPACT_STRINGS_36 Kq37 all0
      have E_b2_37 : Exa Z T37.heap b2 "java/lang/String" := E_b2_36.keep Kq37
      have V_b3_37 : Arv Z T37.heap b3 k3 .char (2 : Int32) [(.int ch4), (.int ch5)] (.int (0 : Int32)) := V_b3_36.keep Kq37 nin0
      have F_coder_b2_37 : Fld Z T37.heap b2 "java/lang/String" "coder" "B" (.int (0 : Int32)) := F_coder_b2_36.keep Kq37 nin0
      have F_value_b2_37 : Fld Z T37.heap b2 "java/lang/String" "value" "[B" (.ref t6) := F_value_b2_36.keep Kq37 nin0
      have V_t6_37 : Arv Z T37.heap t6 kb6 .byte (2 : Int32) ((([ch4, ch5] : List Int32).map (fun c => c.toInt8.toInt32)).map Value.int) (.int 0) := V_t6_36.keep Kq37 nin0
      have E_b32_37 : Exa Z T37.heap b32 "java/lang/String" := E_b32_36.keep Kq37
      have V_b33_37 : Arv Z T37.heap b33 k33 .char (2 : Int32) [(.int ch34), (.int ch35)] (.int (0 : Int32)) := V_b33_36.keep Kq37 nin0
      have F_coder_b32_37 : Fld Z T37.heap b32 "java/lang/String" "coder" "B" (.int (0 : Int32)) := pc36.keep Kq37 nin0
      have F_value_b32_37 : Fld Z T37.heap b32 "java/lang/String" "value" "[B" (.ref t36) := pv36.keep Kq37 nin0
      have V_t36_37 : Arv Z T37.heap t36 kb36 .byte (2 : Int32) ((([ch34, ch35] : List Int32).map (fun c => c.toInt8.toInt32)).map Value.int) (.int 0) := pa36.keep Kq37 nin0
      have K_37 : Keep h0 T37.heap [] := K_36.trans Kq37 all0
      have sz_ob_37 : h0.size ≤ ob_37 := Nat.le_trans K_36.1 pq37_6
      have ne_b2_ob_37 : b2 ≠ ob_37 := Nat.ne_of_lt (Nat.lt_of_lt_of_le E_b2_36.lt pq37_6)
      have ne_b3_ob_37 : b3 ≠ ob_37 := Nat.ne_of_lt (Nat.lt_of_lt_of_le V_b3_36.lt pq37_6)
      have ne_t6_ob_37 : t6 ≠ ob_37 := Nat.ne_of_lt (Nat.lt_of_lt_of_le V_t6_36.lt pq37_6)
      have ne_b32_ob_37 : b32 ≠ ob_37 := Nat.ne_of_lt (Nat.lt_of_lt_of_le E_b32_36.lt pq37_6)
      have ne_b33_ob_37 : b33 ≠ ob_37 := Nat.ne_of_lt (Nat.lt_of_lt_of_le V_b33_36.lt pq37_6)
      have ne_t36_ob_37 : t36 ≠ ob_37 := Nat.ne_of_lt (Nat.lt_of_lt_of_le pa36.lt pq37_6)
      refine own_step (T' := T37) (g' := (mkF m 140 #[.val (.int p0), .val (.int p1), .val (.int p2), .val (.int p3), .val (.ref b2), .val .null, .val (.ref b32), .unset, .unset, .unset] [(.ref ob_37)])) st37 ?_
      refine own_step (T' := T37) (g' := (mkF m 142 #[.val (.int p0), .val (.int p1), .val (.int p2), .val (.int p3), .val (.ref b2), .val .null, .val (.ref b32), .val (.ref ob_37), .unset, .unset] [])) (fun t k => XS.astore X37.here hx rfl (hb hby at_140) rfl rfl (l' := #[.val (.int p0), .val (.int p1), .val (.int p2), .val (.int p3), .val (.ref b2), .val .null, .val (.ref b32), .val (.ref ob_37), .unset, .unset]) rfl k) ?_
      refine own_step (T' := T37) (g' := (mkF m 144 #[.val (.int p0), .val (.int p1), .val (.int p2), .val (.int p3), .val (.ref b2), .val .null, .val (.ref b32), .val (.ref ob_37), .unset, .unset] [.null])) (fun t k => XS.aload X37.here hx rfl (hb hby at_142) rfl rfl k) ?_
      refine own_step (T' := T37) (g' := (mkF m 147 #[.val (.int p0), .val (.int p1), .val (.int p2), .val (.int p3), .val (.ref b2), .val .null, .val (.ref b32), .val (.ref ob_37), .unset, .unset] [])) (fun t k => XS.ifnonnullNo X37.here hx rfl (hb hby at_144) rfl k) ?_
      refine own_step (T' := T37) (g' := (mkF m 149 #[.val (.int p0), .val (.int p1), .val (.int p2), .val (.int p3), .val (.ref b2), .val .null, .val (.ref b32), .val (.ref ob_37), .unset, .unset] [(.ref b2)])) (fun t k => XS.aload X37.here hx rfl (hb hby at_147) rfl rfl k) ?_
      refine own_step (T' := T37) (g' := (mkF m 154 #[.val (.int p0), .val (.int p1), .val (.int p2), .val (.int p3), .val (.ref b2), .val .null, .val (.ref b32), .val (.ref ob_37), .unset, .unset] [(.ref b2)])) (fun t k => XS.goto X37.here hx rfl (pc0 := 149) (pc' := 154) rfl (hb hby at_149) (by decide) (by decide) k) ?_
      refine own_step (T' := T37) (g' := (mkF m 156 #[.val (.int p0), .val (.int p1), .val (.int p2), .val (.int p3), .val (.ref b2), .val .null, .val (.ref b32), .val (.ref ob_37), .val (.ref b2), .unset] [])) (fun t k => XS.astore X37.here hx rfl (hb hby at_154) rfl rfl (l' := #[.val (.int p0), .val (.int p1), .val (.int p2), .val (.int p3), .val (.ref b2), .val .null, .val (.ref b32), .val (.ref ob_37), .val (.ref b2), .unset]) rfl k) ?_
      refine own_step (T' := T37) (g' := (mkF m 158 #[.val (.int p0), .val (.int p1), .val (.int p2), .val (.int p3), .val (.ref b2), .val .null, .val (.ref b32), .val (.ref ob_37), .val (.ref b2), .unset] [(.ref b2)])) (fun t k => XS.aload X37.here hx rfl (hb hby at_156) rfl rfl k) ?_
      refine own_step (T' := T37) (g' := (mkF m 170 #[.val (.int p0), .val (.int p1), .val (.int p2), .val (.int p3), .val (.ref b2), .val .null, .val (.ref b32), .val (.ref ob_37), .val (.ref b2), .unset] [])) (fun t k => XS.ifnonnullYes X37.here hx rfl (pc0 := 158) (pc' := 170) rfl (hb hby at_158) rfl (by decide) (by decide) k) ?_
      refine own_step (T' := T37) (g' := (mkF m 171 #[.val (.int p0), .val (.int p1), .val (.int p2), .val (.int p3), .val (.ref b2), .val .null, .val (.ref b32), .val (.ref ob_37), .val (.ref b2), .unset] [(.int (0 : Int32))])) (fun t k => XS.iconst X37.here hx rfl (hb hby at_170) k) ?_
      refine own_step (T' := T37) (g' := (mkF m 173 #[.val (.int p0), .val (.int p1), .val (.int p2), .val (.int p3), .val (.ref b2), .val .null, .val (.ref b32), .val (.ref ob_37), .val (.ref b2), .val (.int (0 : Int32))] [])) (fun t k => XS.istore X37.here hx rfl (hb hby at_171) rfl (l' := #[.val (.int p0), .val (.int p1), .val (.int p2), .val (.int p3), .val (.ref b2), .val .null, .val (.ref b32), .val (.ref ob_37), .val (.ref b2), .val (.int (0 : Int32))]) rfl k) ?_
      refine own_step (T' := T37) (g' := (mkF m 175 #[.val (.int p0), .val (.int p1), .val (.int p2), .val (.int p3), .val (.ref b2), .val .null, .val (.ref b32), .val (.ref ob_37), .val (.ref b2), .val (.int (0 : Int32))] [(.ref ob_37)])) (fun t k => XS.aload X37.here hx rfl (hb hby at_173) rfl rfl k) ?_
      obtain ⟨cq38, kq38, qq38a, qq38b, qq38c⟩ := isOf hZ rfl pq37_0
      obtain ⟨_, _, ⟨T38, L38, kk38, nn38⟩, -, X38, ⟨Lc38, hQ38, l38, y38, z38⟩, st38⟩ := X37.virtualBack hx (y := (⟨"com/example/tapeloom/tapeloom/Option", "shortName", "()Ljava/lang/String;"⟩ : MethodName)) (z := (⟨"com/example/tapeloom/tapeloom/Option", "shortName", "()Ljava/lang/String;"⟩ : MethodName)) hown (mvT hZ (hw _ (List.mem_of_getElem? (i := 48) rfl))) (mvT hZ (hw _ (List.mem_of_getElem? (i := 49) rfl))) (notFace_of_selects (args := #[]) (mvT hZ (hw _ (List.mem_of_getElem? (i := 51) rfl)))) (mvT hZ (hw _ (List.mem_of_getElem? (i := 51) rfl))) (mvT hZ (hw _ (List.mem_of_getElem? (i := 50) rfl))) (by decide) (backOf (W := 0) (rm9_0 l Z a0 hw [] ob_37 b2 T37.heap n0 (Nat.le_trans Z0 K_37.1) pq37_1) hZ (hw _ (List.mem_of_getElem? (i := 52) rfl)) (hw _ (List.mem_of_getElem? (i := 32) rfl)) (by decide) (by decide)) qq38a qq38c (g := (mkF m 175 #[.val (.int p0), .val (.int p1), .val (.int p2), .val (.int p3), .val (.ref b2), .val .null, .val (.ref b32), .val (.ref ob_37), .val (.ref b2), .val (.int (0 : Int32))] [(.ref ob_37)])) rfl (by rw [hml]; rfl) (Steps.refl _) (argsL := []) (rest := []) (lenOf pd_8 rfl) rfl (by show 2 * 0 + _ ≤ _; exact Nat.le_of_eq rfl) (hb hby at_175) (fun _ _ => ⟨rfl, rfl, (by decide : 7 + 0 ≤ _), (by decide : 20 + 0 ≤ _)⟩)
      dsimp only [Pt.U, Pt.locs, Pt.cells, Pt.slots] at X38 l38 y38 z38 st38 hQ38
      rw [l38, y38, z38] at X38
      obtain ⟨rfl, N38q, eq38⟩ := hQ38
      have N38 := Fr.app N37 N38q
      refine own_step (T' := T38) (g' := (mkF m 178 #[.val (.int p0), .val (.int p1), .val (.int p2), .val (.int p3), .val (.ref b2), .val .null, .val (.ref b32), .val (.ref ob_37), .val (.ref b2), .val (.int (0 : Int32))] [(.ref b2)])) (fun t k => st38.trans k) ?_
      refine own_step (T' := T38) (g' := (mkF m 180 #[.val (.int p0), .val (.int p1), .val (.int p2), .val (.int p3), .val (.ref b2), .val .null, .val (.ref b32), .val (.ref ob_37), .val (.ref b2), .val (.int (0 : Int32))] [(.ref b2), (.ref b2)])) (fun t k => XS.aload X38.here hx rfl (hb hby at_178) rfl rfl k) ?_
      obtain ⟨_, _, ⟨T39, L39, kk39, nn39⟩, -, X39, ⟨Lc39, hQ39, l39, y39, z39⟩, st39⟩ := Jvm.LawKit.callS X38 hx (y := (⟨"com/example/tapeloom/tapeloom/OptionFlagPinLaw", "eq", "(Ljava/lang/String;Ljava/lang/String;)Z"⟩ : MethodName)) hown (mvT hZ (hw _ (List.mem_of_getElem? (i := 53) rfl))) (mvT hZ (hw _ (List.mem_of_getElem? (i := 54) rfl))) (mvT hZ (hw _ (List.mem_of_getElem? (i := 55) rfl))) (mvT hZ (hw _ (List.mem_of_getElem? (i := 56) rfl))) (by decide) (backOf (W := 0) (rm10_0 l Z a0 hw [] b2 T37.heap n0 (Nat.le_trans Z0 K_37.1) E_b2_37) hZ (hw _ (List.mem_of_getElem? (i := 56) rfl)) (hw _ (List.mem_of_getElem? (i := 55) rfl)) (by decide) (by decide)) (g := (mkF m 180 #[.val (.int p0), .val (.int p1), .val (.int p2), .val (.int p3), .val (.ref b2), .val .null, .val (.ref b32), .val (.ref ob_37), .val (.ref b2), .val (.int (0 : Int32))] [(.ref b2), (.ref b2)])) rfl (by rw [hml]; rfl) (argsL := [(.ref b2), (.ref b2)]) (rest := []) (lenOf pd_9 rfl) rfl (by show 2 * 0 + _ ≤ _; exact Nat.le_of_eq rfl) (hb hby at_180) (fun _ _ => ⟨rfl, eq38, (by decide : 7 + 0 ≤ _), (by decide : 20 + 0 ≤ _)⟩)
      dsimp only [Pt.U, Pt.locs, Pt.cells, Pt.slots] at X39 l39 y39 z39 st39 hQ39
      rw [l39, y39, z39] at X39
      obtain ⟨rfl, N39q, eq39⟩ := hQ39
      have N39 := Fr.app N38 N39q
      refine own_step (T' := T39) (g' := (mkF m 183 #[.val (.int p0), .val (.int p1), .val (.int p2), .val (.int p3), .val (.ref b2), .val .null, .val (.ref b32), .val (.ref ob_37), .val (.ref b2), .val (.int (0 : Int32))] [(.int (1 : Int32))])) st39 ?_
      refine own_step (T' := T39) (g' := (mkF m 186 #[.val (.int p0), .val (.int p1), .val (.int p2), .val (.int p3), .val (.ref b2), .val .null, .val (.ref b32), .val (.ref ob_37), .val (.ref b2), .val (.int (0 : Int32))] [])) (fun t k => XS.ifNo X39.here hx rfl (hb hby at_183) rfl ((if0 _ _).trans (feq (by decide : ¬ ((1 : Int32) = (0 : Int32)))).1) k) ?_
      refine own_step (T' := T39) (g' := (mkF m 188 #[.val (.int p0), .val (.int p1), .val (.int p2), .val (.int p3), .val (.ref b2), .val .null, .val (.ref b32), .val (.ref ob_37), .val (.ref b2), .val (.int (0 : Int32))] [(.ref ob_37)])) (fun t k => XS.aload X39.here hx rfl (hb hby at_186) rfl rfl k) ?_
      obtain ⟨cq40, kq40, qq40a, qq40b, qq40c⟩ := isOf hZ eq39 pq37_0
      obtain ⟨_, _, ⟨T40, L40, kk40, nn40⟩, -, X40, ⟨Lc40, hQ40, l40, y40, z40⟩, st40⟩ := X39.virtualBack hx (y := (⟨"com/example/tapeloom/tapeloom/Option", "longName", "()Ljava/lang/String;"⟩ : MethodName)) (z := (⟨"com/example/tapeloom/tapeloom/Option", "longName", "()Ljava/lang/String;"⟩ : MethodName)) hown (mvT hZ (hw _ (List.mem_of_getElem? (i := 62) rfl))) (mvT hZ (hw _ (List.mem_of_getElem? (i := 63) rfl))) (notFace_of_selects (args := #[]) (mvT hZ (hw _ (List.mem_of_getElem? (i := 65) rfl)))) (mvT hZ (hw _ (List.mem_of_getElem? (i := 65) rfl))) (mvT hZ (hw _ (List.mem_of_getElem? (i := 64) rfl))) (by decide) (backOf (W := 0) (rm12_1 l Z a0 hw [] ob_37 T37.heap n0 (Nat.le_trans Z0 K_37.1) pq37_2) hZ (hw _ (List.mem_of_getElem? (i := 66) rfl)) (hw _ (List.mem_of_getElem? (i := 32) rfl)) (by decide) (by decide)) qq40a qq40c (g := (mkF m 188 #[.val (.int p0), .val (.int p1), .val (.int p2), .val (.int p3), .val (.ref b2), .val .null, .val (.ref b32), .val (.ref ob_37), .val (.ref b2), .val (.int (0 : Int32))] [(.ref ob_37)])) rfl (by rw [hml]; rfl) (Steps.refl _) (argsL := []) (rest := []) (lenOf pd_8 rfl) rfl (by show 2 * 0 + _ ≤ _; exact Nat.le_of_eq rfl) (hb hby at_188) (fun _ _ => ⟨rfl, eq39, (by decide : 7 + 0 ≤ _), (by decide : 20 + 0 ≤ _)⟩)
      dsimp only [Pt.U, Pt.locs, Pt.cells, Pt.slots] at X40 l40 y40 z40 st40 hQ40
      rw [l40, y40, z40] at X40
      obtain ⟨rfl, N40q, eq40⟩ := hQ40
      have N40 := Fr.app N39 N40q
      refine own_step (T' := T40) (g' := (mkF m 191 #[.val (.int p0), .val (.int p1), .val (.int p2), .val (.int p3), .val (.ref b2), .val .null, .val (.ref b32), .val (.ref ob_37), .val (.ref b2), .val (.int (0 : Int32))] [.null])) (fun t k => st40.trans k) ?_
      refine own_step (T' := T40) (g' := (mkF m 193 #[.val (.int p0), .val (.int p1), .val (.int p2), .val (.int p3), .val (.ref b2), .val .null, .val (.ref b32), .val (.ref ob_37), .val (.ref b2), .val (.int (0 : Int32))] [.null, .null])) (fun t k => XS.aload X40.here hx rfl (hb hby at_191) rfl rfl k) ?_
      obtain ⟨_, _, ⟨T41, L41, kk41, nn41⟩, -, X41, ⟨Lc41, hQ41, l41, y41, z41⟩, st41⟩ := Jvm.LawKit.callS X40 hx (y := (⟨"com/example/tapeloom/tapeloom/OptionFlagPinLaw", "eq", "(Ljava/lang/String;Ljava/lang/String;)Z"⟩ : MethodName)) hown (mvT hZ (hw _ (List.mem_of_getElem? (i := 53) rfl))) (mvT hZ (hw _ (List.mem_of_getElem? (i := 54) rfl))) (mvT hZ (hw _ (List.mem_of_getElem? (i := 55) rfl))) (mvT hZ (hw _ (List.mem_of_getElem? (i := 56) rfl))) (by decide) (backOf (W := 0) (rm10_1 l Z a0 hw []  T37.heap n0 (Nat.le_trans Z0 K_37.1) ) hZ (hw _ (List.mem_of_getElem? (i := 56) rfl)) (hw _ (List.mem_of_getElem? (i := 55) rfl)) (by decide) (by decide)) (g := (mkF m 193 #[.val (.int p0), .val (.int p1), .val (.int p2), .val (.int p3), .val (.ref b2), .val .null, .val (.ref b32), .val (.ref ob_37), .val (.ref b2), .val (.int (0 : Int32))] [.null, .null])) rfl (by rw [hml]; rfl) (argsL := [.null, .null]) (rest := []) (lenOf pd_9 rfl) rfl (by show 2 * 0 + _ ≤ _; exact Nat.le_of_eq rfl) (hb hby at_193) (fun _ _ => ⟨rfl, eq40, (by decide : 7 + 0 ≤ _), (by decide : 20 + 0 ≤ _)⟩)
      dsimp only [Pt.U, Pt.locs, Pt.cells, Pt.slots] at X41 l41 y41 z41 st41 hQ41
      rw [l41, y41, z41] at X41
      obtain ⟨rfl, N41q, eq41⟩ := hQ41
      have N41 := Fr.app N40 N41q
      refine own_step (T' := T41) (g' := (mkF m 196 #[.val (.int p0), .val (.int p1), .val (.int p2), .val (.int p3), .val (.ref b2), .val .null, .val (.ref b32), .val (.ref ob_37), .val (.ref b2), .val (.int (0 : Int32))] [(.int (1 : Int32))])) st41 ?_
      refine own_step (T' := T41) (g' := (mkF m 199 #[.val (.int p0), .val (.int p1), .val (.int p2), .val (.int p3), .val (.ref b2), .val .null, .val (.ref b32), .val (.ref ob_37), .val (.ref b2), .val (.int (0 : Int32))] [])) (fun t k => XS.ifNo X41.here hx rfl (hb hby at_196) rfl ((if0 _ _).trans (feq (by decide : ¬ ((1 : Int32) = (0 : Int32)))).1) k) ?_
      refine own_step (T' := T41) (g' := (mkF m 201 #[.val (.int p0), .val (.int p1), .val (.int p2), .val (.int p3), .val (.ref b2), .val .null, .val (.ref b32), .val (.ref ob_37), .val (.ref b2), .val (.int (0 : Int32))] [(.ref ob_37)])) (fun t k => XS.aload X41.here hx rfl (hb hby at_199) rfl rfl k) ?_
      obtain ⟨cq42, kq42, qq42a, qq42b, qq42c⟩ := isOf hZ eq41 pq37_0
      obtain ⟨_, _, ⟨T42, L42, kk42, nn42⟩, -, X42, ⟨Lc42, hQ42, l42, y42, z42⟩, st42⟩ := X41.virtualBack hx (y := (⟨"com/example/tapeloom/tapeloom/Option", "description", "()Ljava/lang/String;"⟩ : MethodName)) (z := (⟨"com/example/tapeloom/tapeloom/Option", "description", "()Ljava/lang/String;"⟩ : MethodName)) hown (mvT hZ (hw _ (List.mem_of_getElem? (i := 67) rfl))) (mvT hZ (hw _ (List.mem_of_getElem? (i := 68) rfl))) (notFace_of_selects (args := #[]) (mvT hZ (hw _ (List.mem_of_getElem? (i := 70) rfl)))) (mvT hZ (hw _ (List.mem_of_getElem? (i := 70) rfl))) (mvT hZ (hw _ (List.mem_of_getElem? (i := 69) rfl))) (by decide) (backOf (W := 0) (rm13_0 l Z a0 hw [] ob_37 b32 T37.heap n0 (Nat.le_trans Z0 K_37.1) pq37_4) hZ (hw _ (List.mem_of_getElem? (i := 71) rfl)) (hw _ (List.mem_of_getElem? (i := 32) rfl)) (by decide) (by decide)) qq42a qq42c (g := (mkF m 201 #[.val (.int p0), .val (.int p1), .val (.int p2), .val (.int p3), .val (.ref b2), .val .null, .val (.ref b32), .val (.ref ob_37), .val (.ref b2), .val (.int (0 : Int32))] [(.ref ob_37)])) rfl (by rw [hml]; rfl) (Steps.refl _) (argsL := []) (rest := []) (lenOf pd_8 rfl) rfl (by show 2 * 0 + _ ≤ _; exact Nat.le_of_eq rfl) (hb hby at_201) (fun _ _ => ⟨rfl, eq41, (by decide : 7 + 0 ≤ _), (by decide : 20 + 0 ≤ _)⟩)
      dsimp only [Pt.U, Pt.locs, Pt.cells, Pt.slots] at X42 l42 y42 z42 st42 hQ42
      rw [l42, y42, z42] at X42
      obtain ⟨rfl, N42q, eq42⟩ := hQ42
      have N42 := Fr.app N41 N42q
      refine own_step (T' := T42) (g' := (mkF m 204 #[.val (.int p0), .val (.int p1), .val (.int p2), .val (.int p3), .val (.ref b2), .val .null, .val (.ref b32), .val (.ref ob_37), .val (.ref b2), .val (.int (0 : Int32))] [(.ref b32)])) (fun t k => st42.trans k) ?_
      refine own_step (T' := T42) (g' := (mkF m 206 #[.val (.int p0), .val (.int p1), .val (.int p2), .val (.int p3), .val (.ref b2), .val .null, .val (.ref b32), .val (.ref ob_37), .val (.ref b2), .val (.int (0 : Int32))] [(.ref b32), (.ref b32)])) (fun t k => XS.aload X42.here hx rfl (hb hby at_204) rfl rfl k) ?_
      obtain ⟨_, _, ⟨T43, L43, kk43, nn43⟩, -, X43, ⟨Lc43, hQ43, l43, y43, z43⟩, st43⟩ := Jvm.LawKit.callS X42 hx (y := (⟨"com/example/tapeloom/tapeloom/OptionFlagPinLaw", "eq", "(Ljava/lang/String;Ljava/lang/String;)Z"⟩ : MethodName)) hown (mvT hZ (hw _ (List.mem_of_getElem? (i := 53) rfl))) (mvT hZ (hw _ (List.mem_of_getElem? (i := 54) rfl))) (mvT hZ (hw _ (List.mem_of_getElem? (i := 55) rfl))) (mvT hZ (hw _ (List.mem_of_getElem? (i := 56) rfl))) (by decide) (backOf (W := 0) (rm10_0 l Z a0 hw [] b32 T37.heap n0 (Nat.le_trans Z0 K_37.1) E_b32_37) hZ (hw _ (List.mem_of_getElem? (i := 56) rfl)) (hw _ (List.mem_of_getElem? (i := 55) rfl)) (by decide) (by decide)) (g := (mkF m 206 #[.val (.int p0), .val (.int p1), .val (.int p2), .val (.int p3), .val (.ref b2), .val .null, .val (.ref b32), .val (.ref ob_37), .val (.ref b2), .val (.int (0 : Int32))] [(.ref b32), (.ref b32)])) rfl (by rw [hml]; rfl) (argsL := [(.ref b32), (.ref b32)]) (rest := []) (lenOf pd_9 rfl) rfl (by show 2 * 0 + _ ≤ _; exact Nat.le_of_eq rfl) (hb hby at_206) (fun _ _ => ⟨rfl, eq42, (by decide : 7 + 0 ≤ _), (by decide : 20 + 0 ≤ _)⟩)
      dsimp only [Pt.U, Pt.locs, Pt.cells, Pt.slots] at X43 l43 y43 z43 st43 hQ43
      rw [l43, y43, z43] at X43
      obtain ⟨rfl, N43q, eq43⟩ := hQ43
      have N43 := Fr.app N42 N43q
      refine own_step (T' := T43) (g' := (mkF m 209 #[.val (.int p0), .val (.int p1), .val (.int p2), .val (.int p3), .val (.ref b2), .val .null, .val (.ref b32), .val (.ref ob_37), .val (.ref b2), .val (.int (0 : Int32))] [(.int (1 : Int32))])) st43 ?_
      refine own_step (T' := T43) (g' := (mkF m 212 #[.val (.int p0), .val (.int p1), .val (.int p2), .val (.int p3), .val (.ref b2), .val .null, .val (.ref b32), .val (.ref ob_37), .val (.ref b2), .val (.int (0 : Int32))] [])) (fun t k => XS.ifNo X43.here hx rfl (hb hby at_209) rfl ((if0 _ _).trans (feq (by decide : ¬ ((1 : Int32) = (0 : Int32)))).1) k) ?_
      refine own_step (T' := T43) (g' := (mkF m 214 #[.val (.int p0), .val (.int p1), .val (.int p2), .val (.int p3), .val (.ref b2), .val .null, .val (.ref b32), .val (.ref ob_37), .val (.ref b2), .val (.int (0 : Int32))] [(.ref ob_37)])) (fun t k => XS.aload X43.here hx rfl (hb hby at_212) rfl rfl k) ?_
      obtain ⟨cq44, kq44, qq44a, qq44b, qq44c⟩ := isOf hZ eq43 pq37_0
      obtain ⟨_, _, ⟨T44, L44, kk44, nn44⟩, -, X44, ⟨Lc44, hQ44, l44, y44, z44⟩, st44⟩ := X43.virtualBack hx (y := (⟨"com/example/tapeloom/tapeloom/Option", "label", "()Ljava/lang/String;"⟩ : MethodName)) (z := (⟨"com/example/tapeloom/tapeloom/Option", "label", "()Ljava/lang/String;"⟩ : MethodName)) hown (mvT hZ (hw _ (List.mem_of_getElem? (i := 72) rfl))) (mvT hZ (hw _ (List.mem_of_getElem? (i := 73) rfl))) (notFace_of_selects (args := #[]) (mvT hZ (hw _ (List.mem_of_getElem? (i := 75) rfl)))) (mvT hZ (hw _ (List.mem_of_getElem? (i := 75) rfl))) (mvT hZ (hw _ (List.mem_of_getElem? (i := 74) rfl))) (by decide) (backOf (W := 0) (rm14_1 l Z a0 hw [] ob_37 T37.heap n0 (Nat.le_trans Z0 K_37.1) pq37_3) hZ (hw _ (List.mem_of_getElem? (i := 76) rfl)) (hw _ (List.mem_of_getElem? (i := 32) rfl)) (by decide) (by decide)) qq44a qq44c (g := (mkF m 214 #[.val (.int p0), .val (.int p1), .val (.int p2), .val (.int p3), .val (.ref b2), .val .null, .val (.ref b32), .val (.ref ob_37), .val (.ref b2), .val (.int (0 : Int32))] [(.ref ob_37)])) rfl (by rw [hml]; rfl) (Steps.refl _) (argsL := []) (rest := []) (lenOf pd_8 rfl) rfl (by show 2 * 0 + _ ≤ _; exact Nat.le_of_eq rfl) (hb hby at_214) (fun _ _ => ⟨rfl, eq43, (by decide : 7 + 0 ≤ _), (by decide : 20 + 0 ≤ _)⟩)
      dsimp only [Pt.U, Pt.locs, Pt.cells, Pt.slots] at X44 l44 y44 z44 st44 hQ44
      rw [l44, y44, z44] at X44
      obtain ⟨rfl, N44q, eq44⟩ := hQ44
      have N44 := Fr.app N43 N44q
      refine own_step (T' := T44) (g' := (mkF m 217 #[.val (.int p0), .val (.int p1), .val (.int p2), .val (.int p3), .val (.ref b2), .val .null, .val (.ref b32), .val (.ref ob_37), .val (.ref b2), .val (.int (0 : Int32))] [.null])) (fun t k => st44.trans k) ?_
      refine own_step (T' := T44) (g' := (mkF m 220 #[.val (.int p0), .val (.int p1), .val (.int p2), .val (.int p3), .val (.ref b2), .val .null, .val (.ref b32), .val (.ref ob_37), .val (.ref b2), .val (.int (0 : Int32))] [])) (fun t k => XS.ifnonnullNo X44.here hx rfl (hb hby at_217) rfl k) ?_
      refine own_step (T' := T44) (g' := (mkF m 222 #[.val (.int p0), .val (.int p1), .val (.int p2), .val (.int p3), .val (.ref b2), .val .null, .val (.ref b32), .val (.ref ob_37), .val (.ref b2), .val (.int (0 : Int32))] [(.ref ob_37)])) (fun t k => XS.aload X44.here hx rfl (hb hby at_220) rfl rfl k) ?_
      obtain ⟨cq45, kq45, qq45a, qq45b, qq45c⟩ := isOf hZ eq44 pq37_0
      obtain ⟨_, _, ⟨T45, L45, kk45, nn45⟩, -, X45, ⟨Lc45, hQ45, l45, y45, z45⟩, st45⟩ := X44.virtualBack hx (y := (⟨"com/example/tapeloom/tapeloom/Option", "takesValue", "()Z"⟩ : MethodName)) (z := (⟨"com/example/tapeloom/tapeloom/Option", "takesValue", "()Z"⟩ : MethodName)) hown (mvT hZ (hw _ (List.mem_of_getElem? (i := 77) rfl))) (mvT hZ (hw _ (List.mem_of_getElem? (i := 78) rfl))) (notFace_of_selects (args := #[]) (mvT hZ (hw _ (List.mem_of_getElem? (i := 80) rfl)))) (mvT hZ (hw _ (List.mem_of_getElem? (i := 80) rfl))) (mvT hZ (hw _ (List.mem_of_getElem? (i := 79) rfl))) (by decide) (backOf (W := 0) (rm15 l Z a0 hw [] ob_37 T37.heap n0 (Nat.le_trans Z0 K_37.1) pq37_3) hZ (hw _ (List.mem_of_getElem? (i := 81) rfl)) (hw _ (List.mem_of_getElem? (i := 32) rfl)) (by decide) (by decide)) qq45a qq45c (g := (mkF m 222 #[.val (.int p0), .val (.int p1), .val (.int p2), .val (.int p3), .val (.ref b2), .val .null, .val (.ref b32), .val (.ref ob_37), .val (.ref b2), .val (.int (0 : Int32))] [(.ref ob_37)])) rfl (by rw [hml]; rfl) (Steps.refl _) (argsL := []) (rest := []) (lenOf pd_11 rfl) rfl (by show 2 * 0 + _ ≤ _; exact Nat.le_of_eq rfl) (hb hby at_222) (fun _ _ => ⟨rfl, eq44, (by decide : 7 + 0 ≤ _), (by decide : 20 + 0 ≤ _)⟩)
      dsimp only [Pt.U, Pt.locs, Pt.cells, Pt.slots] at X45 l45 y45 z45 st45 hQ45
      rw [l45, y45, z45] at X45
      obtain ⟨rfl, N45q, eq45⟩ := hQ45
      have N45 := Fr.app N44 N45q
      refine own_step (T' := T45) (g' := (mkF m 225 #[.val (.int p0), .val (.int p1), .val (.int p2), .val (.int p3), .val (.ref b2), .val .null, .val (.ref b32), .val (.ref ob_37), .val (.ref b2), .val (.int (0 : Int32))] [(.int (0 : Int32))])) (fun t k => st45.trans k) ?_
      refine own_step (T' := T45) (g' := (mkF m 228 #[.val (.int p0), .val (.int p1), .val (.int p2), .val (.int p3), .val (.ref b2), .val .null, .val (.ref b32), .val (.ref ob_37), .val (.ref b2), .val (.int (0 : Int32))] [])) (fun t k => XS.ifNo X45.here hx rfl (hb hby at_225) rfl ((if0 _ _).trans (teq (by decide : (0 : Int32) = (0 : Int32))).2) k) ?_
      refine own_step (T' := T45) (g' := (mkF m 230 #[.val (.int p0), .val (.int p1), .val (.int p2), .val (.int p3), .val (.ref b2), .val .null, .val (.ref b32), .val (.ref ob_37), .val (.ref b2), .val (.int (0 : Int32))] [(.ref ob_37)])) (fun t k => XS.aload X45.here hx rfl (hb hby at_228) rfl rfl k) ?_
      obtain ⟨cq46, kq46, qq46a, qq46b, qq46c⟩ := isOf hZ eq45 pq37_0
      obtain ⟨_, _, ⟨T46, L46, kk46, nn46⟩, -, X46, ⟨Lc46, hQ46, l46, y46, z46⟩, st46⟩ := X45.virtualBack hx (y := (⟨"com/example/tapeloom/tapeloom/Option", "isParameter", "()Z"⟩ : MethodName)) (z := (⟨"com/example/tapeloom/tapeloom/Option", "isParameter", "()Z"⟩ : MethodName)) hown (mvT hZ (hw _ (List.mem_of_getElem? (i := 82) rfl))) (mvT hZ (hw _ (List.mem_of_getElem? (i := 83) rfl))) (notFace_of_selects (args := #[]) (mvT hZ (hw _ (List.mem_of_getElem? (i := 85) rfl)))) (mvT hZ (hw _ (List.mem_of_getElem? (i := 85) rfl))) (mvT hZ (hw _ (List.mem_of_getElem? (i := 84) rfl))) (by decide) (backOf (W := 0) (rm16_01 l Z a0 hw [] ob_37 b2 T37.heap n0 (Nat.le_trans Z0 K_37.1) pq37_1 pq37_2) hZ (hw _ (List.mem_of_getElem? (i := 86) rfl)) (hw _ (List.mem_of_getElem? (i := 32) rfl)) (by decide) (by decide)) qq46a qq46c (g := (mkF m 230 #[.val (.int p0), .val (.int p1), .val (.int p2), .val (.int p3), .val (.ref b2), .val .null, .val (.ref b32), .val (.ref ob_37), .val (.ref b2), .val (.int (0 : Int32))] [(.ref ob_37)])) rfl (by rw [hml]; rfl) (Steps.refl _) (argsL := []) (rest := []) (lenOf pd_11 rfl) rfl (by show 2 * 0 + _ ≤ _; exact Nat.le_of_eq rfl) (hb hby at_230) (fun _ _ => ⟨rfl, eq45, (by decide : 7 + 0 ≤ _), (by decide : 20 + 0 ≤ _)⟩)
      dsimp only [Pt.U, Pt.locs, Pt.cells, Pt.slots] at X46 l46 y46 z46 st46 hQ46
      rw [l46, y46, z46] at X46
      obtain ⟨rfl, N46q, eq46⟩ := hQ46
      have N46 := Fr.app N45 N46q
      refine own_step (T' := T46) (g' := (mkF m 233 #[.val (.int p0), .val (.int p1), .val (.int p2), .val (.int p3), .val (.ref b2), .val .null, .val (.ref b32), .val (.ref ob_37), .val (.ref b2), .val (.int (0 : Int32))] [(.int (0 : Int32))])) (fun t k => st46.trans k) ?_
      refine own_step (T' := T46) (g' := (mkF m 235 #[.val (.int p0), .val (.int p1), .val (.int p2), .val (.int p3), .val (.ref b2), .val .null, .val (.ref b32), .val (.ref ob_37), .val (.ref b2), .val (.int (0 : Int32))] [(.int (0 : Int32)), (.int (0 : Int32))])) (fun t k => XS.iload X46.here hx rfl (hb hby at_233) rfl k) ?_
      refine own_step (T' := T46) (g' := (mkF m 238 #[.val (.int p0), .val (.int p1), .val (.int p2), .val (.int p3), .val (.ref b2), .val .null, .val (.ref b32), .val (.ref ob_37), .val (.ref b2), .val (.int (0 : Int32))] [])) (fun t k => XS.icmpNo X46.here hx rfl (hb hby at_235) rfl (teq (by decide : (0 : Int32) = (0 : Int32))).2 k) ?_
      refine own_step (T' := T46) (g' := (mkF m 240 #[.val (.int p0), .val (.int p1), .val (.int p2), .val (.int p3), .val (.ref b2), .val .null, .val (.ref b32), .val (.ref ob_37), .val (.ref b2), .val (.int (0 : Int32))] [(.ref ob_37)])) (fun t k => XS.aload X46.here hx rfl (hb hby at_238) rfl rfl k) ?_
      obtain ⟨cq47, kq47, qq47a, qq47b, qq47c⟩ := isOf hZ eq46 pq37_0
      obtain ⟨_, _, ⟨T47, L47, kk47, nn47⟩, -, X47, ⟨Lc47, hQ47, l47, y47, z47⟩, st47⟩ := X46.virtualBack hx (y := (⟨"com/example/tapeloom/tapeloom/Option", "name", "()Ljava/lang/String;"⟩ : MethodName)) (z := (⟨"com/example/tapeloom/tapeloom/Option", "name", "()Ljava/lang/String;"⟩ : MethodName)) hown (mvT hZ (hw _ (List.mem_of_getElem? (i := 87) rfl))) (mvT hZ (hw _ (List.mem_of_getElem? (i := 88) rfl))) (notFace_of_selects (args := #[]) (mvT hZ (hw _ (List.mem_of_getElem? (i := 90) rfl)))) (mvT hZ (hw _ (List.mem_of_getElem? (i := 90) rfl))) (mvT hZ (hw _ (List.mem_of_getElem? (i := 89) rfl))) (by decide) (backOf (W := 0) (rm17_01 l Z a0 hw [] ob_37 b2 T37.heap n0 (Nat.le_trans Z0 K_37.1) pq37_1 pq37_2) hZ (hw _ (List.mem_of_getElem? (i := 91) rfl)) (hw _ (List.mem_of_getElem? (i := 32) rfl)) (by decide) (by decide)) qq47a qq47c (g := (mkF m 240 #[.val (.int p0), .val (.int p1), .val (.int p2), .val (.int p3), .val (.ref b2), .val .null, .val (.ref b32), .val (.ref ob_37), .val (.ref b2), .val (.int (0 : Int32))] [(.ref ob_37)])) rfl (by rw [hml]; rfl) (Steps.refl _) (argsL := []) (rest := []) (lenOf pd_8 rfl) rfl (by show 2 * 0 + _ ≤ _; exact Nat.le_of_eq rfl) (hb hby at_240) (fun _ _ => ⟨rfl, eq46, (by decide : 7 + 0 ≤ _), (by decide : 20 + 0 ≤ _)⟩)
      dsimp only [Pt.U, Pt.locs, Pt.cells, Pt.slots] at X47 l47 y47 z47 st47 hQ47
      rw [l47, y47, z47] at X47
      obtain ⟨rfl, N47q, eq47⟩ := hQ47
      have N47 := Fr.app N46 N47q
      refine own_step (T' := T47) (g' := (mkF m 243 #[.val (.int p0), .val (.int p1), .val (.int p2), .val (.int p3), .val (.ref b2), .val .null, .val (.ref b32), .val (.ref ob_37), .val (.ref b2), .val (.int (0 : Int32))] [(.ref b2)])) (fun t k => st47.trans k) ?_
      refine own_step (T' := T47) (g' := (mkF m 245 #[.val (.int p0), .val (.int p1), .val (.int p2), .val (.int p3), .val (.ref b2), .val .null, .val (.ref b32), .val (.ref ob_37), .val (.ref b2), .val (.int (0 : Int32))] [(.ref b2), (.ref b2)])) (fun t k => XS.aload X47.here hx rfl (hb hby at_243) rfl rfl k) ?_
      obtain ⟨_, _, ⟨T48, L48, kk48, nn48⟩, -, X48, ⟨Lc48, hQ48, l48, y48, z48⟩, st48⟩ := Jvm.LawKit.callS X47 hx (y := (⟨"com/example/tapeloom/tapeloom/OptionFlagPinLaw", "eq", "(Ljava/lang/String;Ljava/lang/String;)Z"⟩ : MethodName)) hown (mvT hZ (hw _ (List.mem_of_getElem? (i := 53) rfl))) (mvT hZ (hw _ (List.mem_of_getElem? (i := 54) rfl))) (mvT hZ (hw _ (List.mem_of_getElem? (i := 55) rfl))) (mvT hZ (hw _ (List.mem_of_getElem? (i := 56) rfl))) (by decide) (backOf (W := 0) (rm10_0 l Z a0 hw [] b2 T37.heap n0 (Nat.le_trans Z0 K_37.1) E_b2_37) hZ (hw _ (List.mem_of_getElem? (i := 56) rfl)) (hw _ (List.mem_of_getElem? (i := 55) rfl)) (by decide) (by decide)) (g := (mkF m 245 #[.val (.int p0), .val (.int p1), .val (.int p2), .val (.int p3), .val (.ref b2), .val .null, .val (.ref b32), .val (.ref ob_37), .val (.ref b2), .val (.int (0 : Int32))] [(.ref b2), (.ref b2)])) rfl (by rw [hml]; rfl) (argsL := [(.ref b2), (.ref b2)]) (rest := []) (lenOf pd_9 rfl) rfl (by show 2 * 0 + _ ≤ _; exact Nat.le_of_eq rfl) (hb hby at_245) (fun _ _ => ⟨rfl, eq47, (by decide : 7 + 0 ≤ _), (by decide : 20 + 0 ≤ _)⟩)
      dsimp only [Pt.U, Pt.locs, Pt.cells, Pt.slots] at X48 l48 y48 z48 st48 hQ48
      rw [l48, y48, z48] at X48
      obtain ⟨rfl, N48q, eq48⟩ := hQ48
      have N48 := Fr.app N47 N48q
      refine own_step (T' := T48) (g' := (mkF m 248 #[.val (.int p0), .val (.int p1), .val (.int p2), .val (.int p3), .val (.ref b2), .val .null, .val (.ref b32), .val (.ref ob_37), .val (.ref b2), .val (.int (0 : Int32))] [(.int (1 : Int32))])) st48 ?_
      refine own_step (T' := T48) (g' := (mkF m 251 #[.val (.int p0), .val (.int p1), .val (.int p2), .val (.int p3), .val (.ref b2), .val .null, .val (.ref b32), .val (.ref ob_37), .val (.ref b2), .val (.int (0 : Int32))] [])) (fun t k => XS.ifNo X48.here hx rfl (hb hby at_248) rfl ((if0 _ _).trans (feq (by decide : ¬ ((1 : Int32) = (0 : Int32)))).1) k) ?_
      refine own_step (T' := T48) (g' := (mkF m 252 #[.val (.int p0), .val (.int p1), .val (.int p2), .val (.int p3), .val (.ref b2), .val .null, .val (.ref b32), .val (.ref ob_37), .val (.ref b2), .val (.int (0 : Int32))] [(.int (1 : Int32))])) (fun t k => XS.iconst X48.here hx rfl (hb hby at_251) k) ?_
      refine own_step (T' := T48) (g' := (mkF m 256 #[.val (.int p0), .val (.int p1), .val (.int p2), .val (.int p3), .val (.ref b2), .val .null, .val (.ref b32), .val (.ref ob_37), .val (.ref b2), .val (.int (0 : Int32))] [(.int (1 : Int32))])) (fun t k => XS.goto X48.here hx rfl (pc0 := 252) (pc' := 256) rfl (hb hby at_252) (by decide) (by decide) k) ?_
      refine own_retN X48 hx hlk (t := .boolean) (w := (1 : Int32)) Bd.returns (by simp) (hb hby at_256) rfl (by decide) (by decide) ?_
      exact ⟨rfl, N48⟩
  · refine own_step (T' := s₁) (g' := (mkF m 6 #[.val (.int p0), .val (.int p1), .val (.int p2), .val (.int p3), .unset, .unset, .unset, .unset, .unset, .unset] [])) (fun t k => XS.ifNo X0.here hx rfl (hb hby at_3) rfl ((if0 _ _).trans (feq hc3_1).1) k) ?_
    refine own_step (T' := s₁) (g' := (mkF m 7 #[.val (.int p0), .val (.int p1), .val (.int p2), .val (.int p3), .unset, .unset, .unset, .unset, .unset, .unset] [.null])) (fun t k => XS.aconstNull X0.here hx rfl (hb hby at_6) k) ?_
    refine own_step (T' := s₁) (g' := (mkF m 41 #[.val (.int p0), .val (.int p1), .val (.int p2), .val (.int p3), .unset, .unset, .unset, .unset, .unset, .unset] [.null])) (fun t k => XS.goto X0.here hx rfl (pc0 := 7) (pc' := 41) rfl (hb hby at_7) (by decide) (by decide) k) ?_
    refine own_step (T' := s₁) (g' := (mkF m 43 #[.val (.int p0), .val (.int p1), .val (.int p2), .val (.int p3), .val .null, .unset, .unset, .unset, .unset, .unset] [])) (fun t k => XS.astore X0.here hx rfl (hb hby at_41) rfl rfl (l' := #[.val (.int p0), .val (.int p1), .val (.int p2), .val (.int p3), .val .null, .unset, .unset, .unset, .unset, .unset]) rfl k) ?_
    refine own_step (T' := s₁) (g' := (mkF m 44 #[.val (.int p0), .val (.int p1), .val (.int p2), .val (.int p3), .val .null, .unset, .unset, .unset, .unset, .unset] [(.int p0)])) (fun t k => XS.iloadN X0.here hx rfl (hb hby at_43) rfl k) ?_
    refine own_step (T' := s₁) (g' := (mkF m 45 #[.val (.int p0), .val (.int p1), .val (.int p2), .val (.int p3), .val .null, .unset, .unset, .unset, .unset, .unset] [(.int (2 : Int32)), (.int p0)])) (fun t k => XS.iconst X0.here hx rfl (hb hby at_44) k) ?_
    refine own_step (T' := s₁) (g' := (mkF m 46 #[.val (.int p0), .val (.int p1), .val (.int p2), .val (.int p3), .val .null, .unset, .unset, .unset, .unset, .unset] [(.int (p0 &&& (2 : Int32)))])) (fun t k => XS.iand X0.here hx rfl (hb hby at_45) rfl k) ?_
    by_cases hc46_50 : (p0 &&& (2 : Int32)) = (0 : Int32)
    · refine own_step (T' := s₁) (g' := (mkF m 53 #[.val (.int p0), .val (.int p1), .val (.int p2), .val (.int p3), .val .null, .unset, .unset, .unset, .unset, .unset] [])) (fun t k => XS.ifYes X0.here hx rfl (pc0 := 46) (pc' := 53) rfl (hb hby at_46) rfl ((if0 _ _).trans (teq hc46_50).1) (by decide) (by decide) k) ?_
      obtain ⟨T51, h51, X51, e51, E51, A51, D51, -, st51⟩ := newO X0 hx hZ hown (hw _ (List.mem_of_getElem? (i := 0) rfl)) (hw _ (List.mem_of_getElem? (i := 1) rfl)) (hw _ (List.mem_of_getElem? (i := 2) rfl)) e0 (g := (mkF m 53 #[.val (.int p0), .val (.int p1), .val (.int p2), .val (.int p3), .val .null, .unset, .unset, .unset, .unset, .unset] [])) rfl (hb hby at_53) (by decide) (by decide)
      obtain ⟨b51, g51⟩ : ∃ z, z = h0.size := ⟨_, rfl⟩
      rw [← g51] at A51 D51 st51
      have S_COMPACT_STRINGS_51 : Sta Z h51 "java/lang/String" "COMPACT_STRINGS" "Z" (.int G1) := S_COMPACT_STRINGS.ext E51
      have K_51 : Keep h0 h51 [] := K0.ext E51
      have sz_b51 : h0.size ≤ b51 := Nat.le_trans K0.1 (Nat.le_of_eq g51.symm)
      have g_b51 : n0 ≤ b51 := Nat.le_trans Z0 sz_b51
      have E_b51 : Exa Z h51 b51 "java/lang/String" := A51
      have F_coder_b51 : Fld Z h51 b51 "java/lang/String" "coder" "B" (.int (0 : Int32)) := D51 (Or.inr (hw _ (List.mem_of_getElem? (i := 27) rfl))) (ty := .byte) (by decide)
      have F_value_b51 : Fld Z h51 b51 "java/lang/String" "value" "[B" .null := D51 (Or.inr (hw _ (List.mem_of_getElem? (i := 29) rfl))) (ty := (.array .byte)) (by decide)
      refine own_step (T' := T51) (g' := (mkF m 56 #[.val (.int p0), .val (.int p1), .val (.int p2), .val (.int p3), .val .null, .unset, .unset, .unset, .unset, .unset] [(.ref b51)])) st51 ?_
      refine own_step (T' := T51) (g' := (mkF m 57 #[.val (.int p0), .val (.int p1), .val (.int p2), .val (.int p3), .val .null, .unset, .unset, .unset, .unset, .unset] [(.ref b51), (.ref b51)])) (fun t k => XS.dup X51.here hx rfl (hb hby at_56) rfl rfl k) ?_
      refine own_step (T' := T51) (g' := (mkF m 58 #[.val (.int p0), .val (.int p1), .val (.int p2), .val (.int p3), .val .null, .unset, .unset, .unset, .unset, .unset] [(.int (3 : Int32)), (.ref b51), (.ref b51)])) (fun t k => XS.iconst X51.here hx rfl (hb hby at_57) k) ?_
      obtain ⟨T52, h52, k52, X52, e52, E52, A52, st52⟩ := newP X51 hx hZ (hw _ (List.mem_of_getElem? (i := 3) rfl)) e51 (g := (mkF m 58 #[.val (.int p0), .val (.int p1), .val (.int p2), .val (.int p3), .val .null, .unset, .unset, .unset, .unset, .unset] [(.int (3 : Int32)), (.ref b51), (.ref b51)])) rfl (hb hby at_58) rfl (by decide) (cap := 3) (by decide) (by decide) (by decide) (by decide)
      obtain ⟨b52, g52⟩ : ∃ z, z = h51.size := ⟨_, rfl⟩
      rw [← g52] at A52 st52
      have S_COMPACT_STRINGS_52 : Sta Z h52 "java/lang/String" "COMPACT_STRINGS" "Z" (.int G1) := S_COMPACT_STRINGS_51.ext E52
      have E_b51_52 : Exa Z h52 b51 "java/lang/String" := E_b51.ext E52
      have F_coder_b51_52 : Fld Z h52 b51 "java/lang/String" "coder" "B" (.int (0 : Int32)) := F_coder_b51.ext E52
      have F_value_b51_52 : Fld Z h52 b51 "java/lang/String" "value" "[B" .null := F_value_b51.ext E52
      have K_52 : Keep h0 h52 [] := K_51.ext E52
      have sz_b52 : h0.size ≤ b52 := Nat.le_trans K_51.1 (Nat.le_of_eq g52.symm)
      have g_b52 : n0 ≤ b52 := Nat.le_trans Z0 sz_b52
      have ne_b51_b52 : b51 ≠ b52 := Nat.ne_of_lt (Nat.lt_of_lt_of_le E_b51.lt (Nat.le_of_eq g52.symm))
      have V_b52 : Arv Z h52 b52 k52 .char (3 : Int32) [(.int (0 : Int32)), (.int (0 : Int32)), (.int (0 : Int32))] (.int (0 : Int32)) := (Arv.new A52 (by decide)).pad (pad_rep [] (.int (0 : Int32)) 3)
      refine own_step (T' := T52) (g' := (mkF m 60 #[.val (.int p0), .val (.int p1), .val (.int p2), .val (.int p3), .val .null, .unset, .unset, .unset, .unset, .unset] [(.ref b52), (.ref b51), (.ref b51)])) st52 ?_
      refine own_step (T' := T52) (g' := (mkF m 61 #[.val (.int p0), .val (.int p1), .val (.int p2), .val (.int p3), .val .null, .unset, .unset, .unset, .unset, .unset] [(.ref b52), (.ref b52), (.ref b51), (.ref b51)])) (fun t k => XS.dup X52.here hx rfl (hb hby at_60) rfl rfl k) ?_
      refine own_step (T' := T52) (g' := (mkF m 62 #[.val (.int p0), .val (.int p1), .val (.int p2), .val (.int p3), .val .null, .unset, .unset, .unset, .unset, .unset] [(.int (0 : Int32)), (.ref b52), (.ref b52), (.ref b51), (.ref b51)])) (fun t k => XS.iconst X52.here hx rfl (hb hby at_61) k) ?_
      refine own_step (T' := T52) (g' := (mkF m 63 #[.val (.int p0), .val (.int p1), .val (.int p2), .val (.int p3), .val .null, .unset, .unset, .unset, .unset, .unset] [(.int p2), (.int (0 : Int32)), (.ref b52), (.ref b52), (.ref b51), (.ref b51)])) (fun t k => XS.iloadN X52.here hx rfl (hb hby at_62) rfl k) ?_
      refine own_step (T' := T52) (g' := (mkF m 66 #[.val (.int p0), .val (.int p1), .val (.int p2), .val (.int p3), .val .null, .unset, .unset, .unset, .unset, .unset] [(.int (255 : Int32)), (.int p2), (.int (0 : Int32)), (.ref b52), (.ref b52), (.ref b51), (.ref b51)])) (fun t k => XS.sipush X52.here hx rfl (hb hby at_63) k) ?_
      refine own_step (T' := T52) (g' := (mkF m 67 #[.val (.int p0), .val (.int p1), .val (.int p2), .val (.int p3), .val .null, .unset, .unset, .unset, .unset, .unset] [(.int (p2 &&& (255 : Int32))), (.int (0 : Int32)), (.ref b52), (.ref b52), (.ref b51), (.ref b51)])) (fun t k => XS.iand X52.here hx rfl (hb hby at_66) rfl k) ?_
      refine own_step (T' := T52) (g' := (mkF m 68 #[.val (.int p0), .val (.int p1), .val (.int p2), .val (.int p3), .val .null, .unset, .unset, .unset, .unset, .unset] [(.int (p2 &&& (255 : Int32)).toUInt32.toUInt16.toUInt32.toInt32), (.int (0 : Int32)), (.ref b52), (.ref b52), (.ref b51), (.ref b51)])) (fun t k => XS.i2c X52.here hx rfl (hb hby at_67) rfl k) ?_
      obtain ⟨cl53, Ar53, q53, Sz53, Nn53, Hh53, Gg53⟩ := id V_b52
      have hin53 : ¬ ((0 : Int32) < 0 ∨ cl53.slots.size ≤ ((0 : Int32)).toNatClampNeg) := inb_of Sz53 ⟨by decide, by decide⟩
      obtain ⟨T53, h53, X53, e53, W53, st53⟩ := stC X52 hx hZ e52 Ar53 (j := (0 : Int32)) hin53 (g := (mkF m 68 #[.val (.int p0), .val (.int p1), .val (.int p2), .val (.int p3), .val .null, .unset, .unset, .unset, .unset, .unset] [(.int (p2 &&& (255 : Int32)).toUInt32.toUInt16.toUInt32.toInt32), (.int (0 : Int32)), (.ref b52), (.ref b52), (.ref b51), (.ref b51)])) rfl rfl (hb hby at_68)
      have S_COMPACT_STRINGS_53 : Sta Z h53 "java/lang/String" "COMPACT_STRINGS" "Z" (.int G1) := S_COMPACT_STRINGS_52.wr W53
      have E_b51_53 : Exa Z h53 b51 "java/lang/String" := E_b51_52.wr W53
      have F_coder_b51_53 : Fld Z h53 b51 "java/lang/String" "coder" "B" (.int (0 : Int32)) := F_coder_b51_52.other W53 (Or.inl ne_b51_b52)
      have F_value_b51_53 : Fld Z h53 b51 "java/lang/String" "value" "[B" .null := F_value_b51_52.other W53 (Or.inl ne_b51_b52)
      have K_53 : Keep h0 h53 [] := K_52.wr W53 (Or.inr sz_b52)
      have N53 := Fr.snoc X53 N0 g_b52
      obtain ⟨ch53, hch53⟩ : ∃ z, z = (nar .char (p2 &&& (255 : Int32)).toUInt32.toUInt16.toUInt32.toInt32) := ⟨_, rfl⟩
      have bch53 : ¬ ch53 < 0 ∧ ¬ (255 : Int32) < ch53 := by rw [hch53]; exact own_c255 _
      have V_b52_53 : Arv Z h53 b52 k52 .char (3 : Int32) [(.int ch53), (.int (0 : Int32)), (.int (0 : Int32))] (.int (0 : Int32)) := by rw [hch53]; exact Arv.set Ar53 q53 Sz53 Nn53 Hh53 Gg53 (fits_nar_char _) W53 0 rfl (Nat.le_of_ble_eq_true rfl)
      refine own_step (T' := T53) (g' := (mkF m 69 #[.val (.int p0), .val (.int p1), .val (.int p2), .val (.int p3), .val .null, .unset, .unset, .unset, .unset, .unset] [(.ref b52), (.ref b51), (.ref b51)])) st53 ?_
      refine own_step (T' := T53) (g' := (mkF m 70 #[.val (.int p0), .val (.int p1), .val (.int p2), .val (.int p3), .val .null, .unset, .unset, .unset, .unset, .unset] [(.ref b52), (.ref b52), (.ref b51), (.ref b51)])) (fun t k => XS.dup X53.here hx rfl (hb hby at_69) rfl rfl k) ?_
      refine own_step (T' := T53) (g' := (mkF m 71 #[.val (.int p0), .val (.int p1), .val (.int p2), .val (.int p3), .val .null, .unset, .unset, .unset, .unset, .unset] [(.int (1 : Int32)), (.ref b52), (.ref b52), (.ref b51), (.ref b51)])) (fun t k => XS.iconst X53.here hx rfl (hb hby at_70) k) ?_
      refine own_step (T' := T53) (g' := (mkF m 72 #[.val (.int p0), .val (.int p1), .val (.int p2), .val (.int p3), .val .null, .unset, .unset, .unset, .unset, .unset] [(.int p2), (.int (1 : Int32)), (.ref b52), (.ref b52), (.ref b51), (.ref b51)])) (fun t k => XS.iloadN X53.here hx rfl (hb hby at_71) rfl k) ?_
      refine own_step (T' := T53) (g' := (mkF m 74 #[.val (.int p0), .val (.int p1), .val (.int p2), .val (.int p3), .val .null, .unset, .unset, .unset, .unset, .unset] [(.int (8 : Int32)), (.int p2), (.int (1 : Int32)), (.ref b52), (.ref b52), (.ref b51), (.ref b51)])) (fun t k => XS.bipush X53.here hx rfl (hb hby at_72) k) ?_
      refine own_step (T' := T53) (g' := (mkF m 75 #[.val (.int p0), .val (.int p1), .val (.int p2), .val (.int p3), .val .null, .unset, .unset, .unset, .unset, .unset] [(.int (p2.toUInt32 >>> ((8 : Int32) &&& 31).toUInt32).toInt32), (.int (1 : Int32)), (.ref b52), (.ref b52), (.ref b51), (.ref b51)])) (fun t k => XS.iushr X53.here hx rfl (hb hby at_74) rfl k) ?_
      refine own_step (T' := T53) (g' := (mkF m 78 #[.val (.int p0), .val (.int p1), .val (.int p2), .val (.int p3), .val .null, .unset, .unset, .unset, .unset, .unset] [(.int (255 : Int32)), (.int (p2.toUInt32 >>> ((8 : Int32) &&& 31).toUInt32).toInt32), (.int (1 : Int32)), (.ref b52), (.ref b52), (.ref b51), (.ref b51)])) (fun t k => XS.sipush X53.here hx rfl (hb hby at_75) k) ?_
      refine own_step (T' := T53) (g' := (mkF m 79 #[.val (.int p0), .val (.int p1), .val (.int p2), .val (.int p3), .val .null, .unset, .unset, .unset, .unset, .unset] [(.int ((p2.toUInt32 >>> ((8 : Int32) &&& 31).toUInt32).toInt32 &&& (255 : Int32))), (.int (1 : Int32)), (.ref b52), (.ref b52), (.ref b51), (.ref b51)])) (fun t k => XS.iand X53.here hx rfl (hb hby at_78) rfl k) ?_
      refine own_step (T' := T53) (g' := (mkF m 80 #[.val (.int p0), .val (.int p1), .val (.int p2), .val (.int p3), .val .null, .unset, .unset, .unset, .unset, .unset] [(.int ((p2.toUInt32 >>> ((8 : Int32) &&& 31).toUInt32).toInt32 &&& (255 : Int32)).toUInt32.toUInt16.toUInt32.toInt32), (.int (1 : Int32)), (.ref b52), (.ref b52), (.ref b51), (.ref b51)])) (fun t k => XS.i2c X53.here hx rfl (hb hby at_79) rfl k) ?_
      obtain ⟨cl54, Ar54, q54, Sz54, Nn54, Hh54, Gg54⟩ := id V_b52_53
      have hin54 : ¬ ((1 : Int32) < 0 ∨ cl54.slots.size ≤ ((1 : Int32)).toNatClampNeg) := inb_of Sz54 ⟨by decide, by decide⟩
      obtain ⟨T54, h54, X54, e54, W54, st54⟩ := stC X53 hx hZ e53 Ar54 (j := (1 : Int32)) hin54 (g := (mkF m 80 #[.val (.int p0), .val (.int p1), .val (.int p2), .val (.int p3), .val .null, .unset, .unset, .unset, .unset, .unset] [(.int ((p2.toUInt32 >>> ((8 : Int32) &&& 31).toUInt32).toInt32 &&& (255 : Int32)).toUInt32.toUInt16.toUInt32.toInt32), (.int (1 : Int32)), (.ref b52), (.ref b52), (.ref b51), (.ref b51)])) rfl rfl (hb hby at_80)
      have S_COMPACT_STRINGS_54 : Sta Z h54 "java/lang/String" "COMPACT_STRINGS" "Z" (.int G1) := S_COMPACT_STRINGS_53.wr W54
      have E_b51_54 : Exa Z h54 b51 "java/lang/String" := E_b51_53.wr W54
      have F_coder_b51_54 : Fld Z h54 b51 "java/lang/String" "coder" "B" (.int (0 : Int32)) := F_coder_b51_53.other W54 (Or.inl ne_b51_b52)
      have F_value_b51_54 : Fld Z h54 b51 "java/lang/String" "value" "[B" .null := F_value_b51_53.other W54 (Or.inl ne_b51_b52)
      have K_54 : Keep h0 h54 [] := K_53.wr W54 (Or.inr sz_b52)
      have N54 := Fr.snoc X54 N53 g_b52
      obtain ⟨ch54, hch54⟩ : ∃ z, z = (nar .char ((p2.toUInt32 >>> ((8 : Int32) &&& 31).toUInt32).toInt32 &&& (255 : Int32)).toUInt32.toUInt16.toUInt32.toInt32) := ⟨_, rfl⟩
      have bch54 : ¬ ch54 < 0 ∧ ¬ (255 : Int32) < ch54 := by rw [hch54]; exact own_c255 _
      have V_b52_54 : Arv Z h54 b52 k52 .char (3 : Int32) [(.int ch53), (.int ch54), (.int (0 : Int32))] (.int (0 : Int32)) := by rw [hch54]; exact Arv.set Ar54 q54 Sz54 Nn54 Hh54 Gg54 (fits_nar_char _) W54 1 rfl (Nat.le_of_ble_eq_true rfl)
      refine own_step (T' := T54) (g' := (mkF m 81 #[.val (.int p0), .val (.int p1), .val (.int p2), .val (.int p3), .val .null, .unset, .unset, .unset, .unset, .unset] [(.ref b52), (.ref b51), (.ref b51)])) st54 ?_
      refine own_step (T' := T54) (g' := (mkF m 82 #[.val (.int p0), .val (.int p1), .val (.int p2), .val (.int p3), .val .null, .unset, .unset, .unset, .unset, .unset] [(.ref b52), (.ref b52), (.ref b51), (.ref b51)])) (fun t k => XS.dup X54.here hx rfl (hb hby at_81) rfl rfl k) ?_
      refine own_step (T' := T54) (g' := (mkF m 83 #[.val (.int p0), .val (.int p1), .val (.int p2), .val (.int p3), .val .null, .unset, .unset, .unset, .unset, .unset] [(.int (2 : Int32)), (.ref b52), (.ref b52), (.ref b51), (.ref b51)])) (fun t k => XS.iconst X54.here hx rfl (hb hby at_82) k) ?_
      refine own_step (T' := T54) (g' := (mkF m 84 #[.val (.int p0), .val (.int p1), .val (.int p2), .val (.int p3), .val .null, .unset, .unset, .unset, .unset, .unset] [(.int p2), (.int (2 : Int32)), (.ref b52), (.ref b52), (.ref b51), (.ref b51)])) (fun t k => XS.iloadN X54.here hx rfl (hb hby at_83) rfl k) ?_
      refine own_step (T' := T54) (g' := (mkF m 86 #[.val (.int p0), .val (.int p1), .val (.int p2), .val (.int p3), .val .null, .unset, .unset, .unset, .unset, .unset] [(.int (16 : Int32)), (.int p2), (.int (2 : Int32)), (.ref b52), (.ref b52), (.ref b51), (.ref b51)])) (fun t k => XS.bipush X54.here hx rfl (hb hby at_84) k) ?_
      refine own_step (T' := T54) (g' := (mkF m 87 #[.val (.int p0), .val (.int p1), .val (.int p2), .val (.int p3), .val .null, .unset, .unset, .unset, .unset, .unset] [(.int (p2.toUInt32 >>> ((16 : Int32) &&& 31).toUInt32).toInt32), (.int (2 : Int32)), (.ref b52), (.ref b52), (.ref b51), (.ref b51)])) (fun t k => XS.iushr X54.here hx rfl (hb hby at_86) rfl k) ?_
      refine own_step (T' := T54) (g' := (mkF m 90 #[.val (.int p0), .val (.int p1), .val (.int p2), .val (.int p3), .val .null, .unset, .unset, .unset, .unset, .unset] [(.int (255 : Int32)), (.int (p2.toUInt32 >>> ((16 : Int32) &&& 31).toUInt32).toInt32), (.int (2 : Int32)), (.ref b52), (.ref b52), (.ref b51), (.ref b51)])) (fun t k => XS.sipush X54.here hx rfl (hb hby at_87) k) ?_
      refine own_step (T' := T54) (g' := (mkF m 91 #[.val (.int p0), .val (.int p1), .val (.int p2), .val (.int p3), .val .null, .unset, .unset, .unset, .unset, .unset] [(.int ((p2.toUInt32 >>> ((16 : Int32) &&& 31).toUInt32).toInt32 &&& (255 : Int32))), (.int (2 : Int32)), (.ref b52), (.ref b52), (.ref b51), (.ref b51)])) (fun t k => XS.iand X54.here hx rfl (hb hby at_90) rfl k) ?_
      refine own_step (T' := T54) (g' := (mkF m 92 #[.val (.int p0), .val (.int p1), .val (.int p2), .val (.int p3), .val .null, .unset, .unset, .unset, .unset, .unset] [(.int ((p2.toUInt32 >>> ((16 : Int32) &&& 31).toUInt32).toInt32 &&& (255 : Int32)).toUInt32.toUInt16.toUInt32.toInt32), (.int (2 : Int32)), (.ref b52), (.ref b52), (.ref b51), (.ref b51)])) (fun t k => XS.i2c X54.here hx rfl (hb hby at_91) rfl k) ?_
      obtain ⟨cl55, Ar55, q55, Sz55, Nn55, Hh55, Gg55⟩ := id V_b52_54
      have hin55 : ¬ ((2 : Int32) < 0 ∨ cl55.slots.size ≤ ((2 : Int32)).toNatClampNeg) := inb_of Sz55 ⟨by decide, by decide⟩
      obtain ⟨T55, h55, X55, e55, W55, st55⟩ := stC X54 hx hZ e54 Ar55 (j := (2 : Int32)) hin55 (g := (mkF m 92 #[.val (.int p0), .val (.int p1), .val (.int p2), .val (.int p3), .val .null, .unset, .unset, .unset, .unset, .unset] [(.int ((p2.toUInt32 >>> ((16 : Int32) &&& 31).toUInt32).toInt32 &&& (255 : Int32)).toUInt32.toUInt16.toUInt32.toInt32), (.int (2 : Int32)), (.ref b52), (.ref b52), (.ref b51), (.ref b51)])) rfl rfl (hb hby at_92)
      have S_COMPACT_STRINGS_55 : Sta Z h55 "java/lang/String" "COMPACT_STRINGS" "Z" (.int G1) := S_COMPACT_STRINGS_54.wr W55
      have E_b51_55 : Exa Z h55 b51 "java/lang/String" := E_b51_54.wr W55
      have F_coder_b51_55 : Fld Z h55 b51 "java/lang/String" "coder" "B" (.int (0 : Int32)) := F_coder_b51_54.other W55 (Or.inl ne_b51_b52)
      have F_value_b51_55 : Fld Z h55 b51 "java/lang/String" "value" "[B" .null := F_value_b51_54.other W55 (Or.inl ne_b51_b52)
      have K_55 : Keep h0 h55 [] := K_54.wr W55 (Or.inr sz_b52)
      have N55 := Fr.snoc X55 N54 g_b52
      obtain ⟨ch55, hch55⟩ : ∃ z, z = (nar .char ((p2.toUInt32 >>> ((16 : Int32) &&& 31).toUInt32).toInt32 &&& (255 : Int32)).toUInt32.toUInt16.toUInt32.toInt32) := ⟨_, rfl⟩
      have bch55 : ¬ ch55 < 0 ∧ ¬ (255 : Int32) < ch55 := by rw [hch55]; exact own_c255 _
      have V_b52_55 : Arv Z h55 b52 k52 .char (3 : Int32) [(.int ch53), (.int ch54), (.int ch55)] (.int (0 : Int32)) := by rw [hch55]; exact Arv.set Ar55 q55 Sz55 Nn55 Hh55 Gg55 (fits_nar_char _) W55 2 rfl (Nat.le_of_ble_eq_true rfl)
      refine own_step (T' := T55) (g' := (mkF m 93 #[.val (.int p0), .val (.int p1), .val (.int p2), .val (.int p3), .val .null, .unset, .unset, .unset, .unset, .unset] [(.ref b52), (.ref b51), (.ref b51)])) st55 ?_
      have hp56 : ∀ c ∈ ([ch53, ch54, ch55] : List Int32), ¬ c < 0 ∧ ¬ (255 : Int32) < c := by
        intro c hc
        simp only [List.mem_cons, List.not_mem_nil, or_false] at hc
        rcases hc with rfl | rfl | rfl
        · exact bch53
        · exact bch54
        · exact bch55
      obtain ⟨_, _, ⟨T56, L56, kk56, nn56⟩, -, X56, ⟨Lc56, hQ56, l56, y56, z56⟩, st56⟩ := X55.specialBack hx (y := (⟨"java/lang/String", "<init>", "([C)V"⟩ : MethodName)) rfl hown (mvT hZ (hw _ (List.mem_of_getElem? (i := 4) rfl))) (mvT hZ (hw _ (List.mem_of_getElem? (i := 5) rfl))) (mvT hZ (hw _ (List.mem_of_getElem? (i := 6) rfl))) (by decide) (StrChars.Road.backV (W := 1) hZ hws (kI := 4) (hw _ (List.mem_of_getElem? (i := 1) rfl)) (cs := ([ch53, ch54, ch55] : List Int32)) (bs := ([ch53, ch54, ch55] : List Int32).map (fun c => c.toInt8.toInt32)) (n := 3) g_b51 (Nat.le_trans Z0 K_55.1) E_b51_55 F_value_b51_55 F_coder_b51_55 V_b52_55 S_COMPACT_STRINGS_55 P5 rfl rfl (by decide) (by decide) hp56 rfl (by decide) (by decide)) (g := (mkF m 93 #[.val (.int p0), .val (.int p1), .val (.int p2), .val (.int p3), .val .null, .unset, .unset, .unset, .unset, .unset] [(.ref b52), (.ref b51), (.ref b51)])) rfl (by rw [hml]; rfl) (Steps.refl _) (a := b51) (argsL := [(.ref b52)]) (rest := [(.ref b51)]) (lenOf pd_0 rfl) rfl (by show 2 * 0 + _ ≤ _; exact Nat.le_of_eq rfl) (hb hby at_93) (fun _ _ => ⟨rfl, e55, (by decide : 2 + 1 ≤ _), (by decide : 7 + 3 ≤ _)⟩)
      dsimp only [Pt.U, Pt.locs, Pt.cells, Pt.slots] at X56 l56 y56 z56 st56 hQ56
      rw [l56, y56, z56] at X56
      obtain ⟨rfl, N56q, Kq56, pe56, pc56, t56, kb56, gt56, st56', nt56, pv56, pa56⟩ := hQ56
      have N56 := Fr.app N55 N56q
      have S_COMPACT_STRINGS_56 : Sta Z T56.heap "java/lang/String" "COMPACT_STRINGS" "Z" (.int G1) := own_sta_keep S_COMPACT_STRINGS_55 Kq56 (allS E_b51_55.nostat all0)
      have E_b51_56 : Exa Z T56.heap b51 "java/lang/String" := E_b51_55.keep Kq56
      have V_b52_56 : Arv Z T56.heap b52 k52 .char (3 : Int32) [(.int ch53), (.int ch54), (.int ch55)] (.int (0 : Int32)) := V_b52_55.keep Kq56 (ninS (Ne.symm ne_b51_b52) nin0)
      have K_56 : Keep h0 T56.heap [] := K_55.trans Kq56 (allS (Or.inr sz_b51) all0)
      have sz_t56 : h0.size ≤ t56 := Nat.le_trans K_55.1 st56'
      have ne_b51_t56 : b51 ≠ t56 := Nat.ne_of_lt (Nat.lt_of_lt_of_le E_b51_55.lt st56')
      have ne_b52_t56 : b52 ≠ t56 := Nat.ne_of_lt (Nat.lt_of_lt_of_le V_b52_55.lt st56')
      refine own_step (T' := T56) (g' := (mkF m 96 #[.val (.int p0), .val (.int p1), .val (.int p2), .val (.int p3), .val .null, .unset, .unset, .unset, .unset, .unset] [(.ref b51)])) (fun t k => st56.trans k) ?_
      refine own_step (T' := T56) (g' := (mkF m 98 #[.val (.int p0), .val (.int p1), .val (.int p2), .val (.int p3), .val .null, .val (.ref b51), .unset, .unset, .unset, .unset] [])) (fun t k => XS.astore X56.here hx rfl (hb hby at_96) rfl rfl (l' := #[.val (.int p0), .val (.int p1), .val (.int p2), .val (.int p3), .val .null, .val (.ref b51), .unset, .unset, .unset, .unset]) rfl k) ?_
      obtain ⟨T57, h57, X57, e57, E57, A57, D57, -, st57⟩ := newO X56 hx hZ hown (hw _ (List.mem_of_getElem? (i := 0) rfl)) (hw _ (List.mem_of_getElem? (i := 1) rfl)) (hw _ (List.mem_of_getElem? (i := 2) rfl)) rfl (g := (mkF m 98 #[.val (.int p0), .val (.int p1), .val (.int p2), .val (.int p3), .val .null, .val (.ref b51), .unset, .unset, .unset, .unset] [])) rfl (hb hby at_98) (by decide) (by decide)
      obtain ⟨b57, g57⟩ : ∃ z, z = T56.heap.size := ⟨_, rfl⟩
      rw [← g57] at A57 D57 st57
      have S_COMPACT_STRINGS_57 : Sta Z h57 "java/lang/String" "COMPACT_STRINGS" "Z" (.int G1) := S_COMPACT_STRINGS_56.ext E57
      have E_b51_57 : Exa Z h57 b51 "java/lang/String" := E_b51_56.ext E57
      have V_b52_57 : Arv Z h57 b52 k52 .char (3 : Int32) [(.int ch53), (.int ch54), (.int ch55)] (.int (0 : Int32)) := V_b52_56.ext E57
      have F_coder_b51_57 : Fld Z h57 b51 "java/lang/String" "coder" "B" (.int (0 : Int32)) := pc56.ext E57
      have F_value_b51_57 : Fld Z h57 b51 "java/lang/String" "value" "[B" (.ref t56) := pv56.ext E57
      have V_t56_57 : Arv Z h57 t56 kb56 .byte (3 : Int32) ((([ch53, ch54, ch55] : List Int32).map (fun c => c.toInt8.toInt32)).map Value.int) (.int 0) := pa56.ext E57
      have K_57 : Keep h0 h57 [] := K_56.ext E57
      have sz_b57 : h0.size ≤ b57 := Nat.le_trans K_56.1 (Nat.le_of_eq g57.symm)
      have g_b57 : n0 ≤ b57 := Nat.le_trans Z0 sz_b57
      have ne_b51_b57 : b51 ≠ b57 := Nat.ne_of_lt (Nat.lt_of_lt_of_le E_b51_56.lt (Nat.le_of_eq g57.symm))
      have ne_b52_b57 : b52 ≠ b57 := Nat.ne_of_lt (Nat.lt_of_lt_of_le V_b52_56.lt (Nat.le_of_eq g57.symm))
      have ne_t56_b57 : t56 ≠ b57 := Nat.ne_of_lt (Nat.lt_of_lt_of_le pa56.lt (Nat.le_of_eq g57.symm))
      have E_b57 : Exa Z h57 b57 "java/lang/String" := A57
      have F_coder_b57 : Fld Z h57 b57 "java/lang/String" "coder" "B" (.int (0 : Int32)) := D57 (Or.inr (hw _ (List.mem_of_getElem? (i := 27) rfl))) (ty := .byte) (by decide)
      have F_value_b57 : Fld Z h57 b57 "java/lang/String" "value" "[B" .null := D57 (Or.inr (hw _ (List.mem_of_getElem? (i := 29) rfl))) (ty := (.array .byte)) (by decide)
      refine own_step (T' := T57) (g' := (mkF m 101 #[.val (.int p0), .val (.int p1), .val (.int p2), .val (.int p3), .val .null, .val (.ref b51), .unset, .unset, .unset, .unset] [(.ref b57)])) st57 ?_
      refine own_step (T' := T57) (g' := (mkF m 102 #[.val (.int p0), .val (.int p1), .val (.int p2), .val (.int p3), .val .null, .val (.ref b51), .unset, .unset, .unset, .unset] [(.ref b57), (.ref b57)])) (fun t k => XS.dup X57.here hx rfl (hb hby at_101) rfl rfl k) ?_
      refine own_step (T' := T57) (g' := (mkF m 103 #[.val (.int p0), .val (.int p1), .val (.int p2), .val (.int p3), .val .null, .val (.ref b51), .unset, .unset, .unset, .unset] [(.int (2 : Int32)), (.ref b57), (.ref b57)])) (fun t k => XS.iconst X57.here hx rfl (hb hby at_102) k) ?_
      obtain ⟨T58, h58, k58, X58, e58, E58, A58, st58⟩ := newP X57 hx hZ (hw _ (List.mem_of_getElem? (i := 3) rfl)) e57 (g := (mkF m 103 #[.val (.int p0), .val (.int p1), .val (.int p2), .val (.int p3), .val .null, .val (.ref b51), .unset, .unset, .unset, .unset] [(.int (2 : Int32)), (.ref b57), (.ref b57)])) rfl (hb hby at_103) rfl (by decide) (cap := 2) (by decide) (by decide) (by decide) (by decide)
      obtain ⟨b58, g58⟩ : ∃ z, z = h57.size := ⟨_, rfl⟩
      rw [← g58] at A58 st58
      have S_COMPACT_STRINGS_58 : Sta Z h58 "java/lang/String" "COMPACT_STRINGS" "Z" (.int G1) := S_COMPACT_STRINGS_57.ext E58
      have E_b51_58 : Exa Z h58 b51 "java/lang/String" := E_b51_57.ext E58
      have V_b52_58 : Arv Z h58 b52 k52 .char (3 : Int32) [(.int ch53), (.int ch54), (.int ch55)] (.int (0 : Int32)) := V_b52_57.ext E58
      have F_coder_b51_58 : Fld Z h58 b51 "java/lang/String" "coder" "B" (.int (0 : Int32)) := F_coder_b51_57.ext E58
      have F_value_b51_58 : Fld Z h58 b51 "java/lang/String" "value" "[B" (.ref t56) := F_value_b51_57.ext E58
      have V_t56_58 : Arv Z h58 t56 kb56 .byte (3 : Int32) ((([ch53, ch54, ch55] : List Int32).map (fun c => c.toInt8.toInt32)).map Value.int) (.int 0) := V_t56_57.ext E58
      have E_b57_58 : Exa Z h58 b57 "java/lang/String" := E_b57.ext E58
      have F_coder_b57_58 : Fld Z h58 b57 "java/lang/String" "coder" "B" (.int (0 : Int32)) := F_coder_b57.ext E58
      have F_value_b57_58 : Fld Z h58 b57 "java/lang/String" "value" "[B" .null := F_value_b57.ext E58
      have K_58 : Keep h0 h58 [] := K_57.ext E58
      have sz_b58 : h0.size ≤ b58 := Nat.le_trans K_57.1 (Nat.le_of_eq g58.symm)
      have g_b58 : n0 ≤ b58 := Nat.le_trans Z0 sz_b58
      have ne_b51_b58 : b51 ≠ b58 := Nat.ne_of_lt (Nat.lt_of_lt_of_le E_b51_57.lt (Nat.le_of_eq g58.symm))
      have ne_b52_b58 : b52 ≠ b58 := Nat.ne_of_lt (Nat.lt_of_lt_of_le V_b52_57.lt (Nat.le_of_eq g58.symm))
      have ne_t56_b58 : t56 ≠ b58 := Nat.ne_of_lt (Nat.lt_of_lt_of_le V_t56_57.lt (Nat.le_of_eq g58.symm))
      have ne_b57_b58 : b57 ≠ b58 := Nat.ne_of_lt (Nat.lt_of_lt_of_le E_b57.lt (Nat.le_of_eq g58.symm))
      have V_b58 : Arv Z h58 b58 k58 .char (2 : Int32) [(.int (0 : Int32)), (.int (0 : Int32))] (.int (0 : Int32)) := (Arv.new A58 (by decide)).pad (pad_rep [] (.int (0 : Int32)) 2)
      refine own_step (T' := T58) (g' := (mkF m 105 #[.val (.int p0), .val (.int p1), .val (.int p2), .val (.int p3), .val .null, .val (.ref b51), .unset, .unset, .unset, .unset] [(.ref b58), (.ref b57), (.ref b57)])) st58 ?_
      refine own_step (T' := T58) (g' := (mkF m 106 #[.val (.int p0), .val (.int p1), .val (.int p2), .val (.int p3), .val .null, .val (.ref b51), .unset, .unset, .unset, .unset] [(.ref b58), (.ref b58), (.ref b57), (.ref b57)])) (fun t k => XS.dup X58.here hx rfl (hb hby at_105) rfl rfl k) ?_
      refine own_step (T' := T58) (g' := (mkF m 107 #[.val (.int p0), .val (.int p1), .val (.int p2), .val (.int p3), .val .null, .val (.ref b51), .unset, .unset, .unset, .unset] [(.int (0 : Int32)), (.ref b58), (.ref b58), (.ref b57), (.ref b57)])) (fun t k => XS.iconst X58.here hx rfl (hb hby at_106) k) ?_
      refine own_step (T' := T58) (g' := (mkF m 108 #[.val (.int p0), .val (.int p1), .val (.int p2), .val (.int p3), .val .null, .val (.ref b51), .unset, .unset, .unset, .unset] [(.int p3), (.int (0 : Int32)), (.ref b58), (.ref b58), (.ref b57), (.ref b57)])) (fun t k => XS.iloadN X58.here hx rfl (hb hby at_107) rfl k) ?_
      refine own_step (T' := T58) (g' := (mkF m 111 #[.val (.int p0), .val (.int p1), .val (.int p2), .val (.int p3), .val .null, .val (.ref b51), .unset, .unset, .unset, .unset] [(.int (255 : Int32)), (.int p3), (.int (0 : Int32)), (.ref b58), (.ref b58), (.ref b57), (.ref b57)])) (fun t k => XS.sipush X58.here hx rfl (hb hby at_108) k) ?_
      refine own_step (T' := T58) (g' := (mkF m 112 #[.val (.int p0), .val (.int p1), .val (.int p2), .val (.int p3), .val .null, .val (.ref b51), .unset, .unset, .unset, .unset] [(.int (p3 &&& (255 : Int32))), (.int (0 : Int32)), (.ref b58), (.ref b58), (.ref b57), (.ref b57)])) (fun t k => XS.iand X58.here hx rfl (hb hby at_111) rfl k) ?_
      refine own_step (T' := T58) (g' := (mkF m 113 #[.val (.int p0), .val (.int p1), .val (.int p2), .val (.int p3), .val .null, .val (.ref b51), .unset, .unset, .unset, .unset] [(.int (p3 &&& (255 : Int32)).toUInt32.toUInt16.toUInt32.toInt32), (.int (0 : Int32)), (.ref b58), (.ref b58), (.ref b57), (.ref b57)])) (fun t k => XS.i2c X58.here hx rfl (hb hby at_112) rfl k) ?_
      obtain ⟨cl59, Ar59, q59, Sz59, Nn59, Hh59, Gg59⟩ := id V_b58
      have hin59 : ¬ ((0 : Int32) < 0 ∨ cl59.slots.size ≤ ((0 : Int32)).toNatClampNeg) := inb_of Sz59 ⟨by decide, by decide⟩
      obtain ⟨T59, h59, X59, e59, W59, st59⟩ := stC X58 hx hZ e58 Ar59 (j := (0 : Int32)) hin59 (g := (mkF m 113 #[.val (.int p0), .val (.int p1), .val (.int p2), .val (.int p3), .val .null, .val (.ref b51), .unset, .unset, .unset, .unset] [(.int (p3 &&& (255 : Int32)).toUInt32.toUInt16.toUInt32.toInt32), (.int (0 : Int32)), (.ref b58), (.ref b58), (.ref b57), (.ref b57)])) rfl rfl (hb hby at_113)
      have S_COMPACT_STRINGS_59 : Sta Z h59 "java/lang/String" "COMPACT_STRINGS" "Z" (.int G1) := S_COMPACT_STRINGS_58.wr W59
      have E_b51_59 : Exa Z h59 b51 "java/lang/String" := E_b51_58.wr W59
      have V_b52_59 : Arv Z h59 b52 k52 .char (3 : Int32) [(.int ch53), (.int ch54), (.int ch55)] (.int (0 : Int32)) := V_b52_58.other W59 ne_b52_b58
      have F_coder_b51_59 : Fld Z h59 b51 "java/lang/String" "coder" "B" (.int (0 : Int32)) := F_coder_b51_58.other W59 (Or.inl ne_b51_b58)
      have F_value_b51_59 : Fld Z h59 b51 "java/lang/String" "value" "[B" (.ref t56) := F_value_b51_58.other W59 (Or.inl ne_b51_b58)
      have V_t56_59 : Arv Z h59 t56 kb56 .byte (3 : Int32) ((([ch53, ch54, ch55] : List Int32).map (fun c => c.toInt8.toInt32)).map Value.int) (.int 0) := V_t56_58.other W59 ne_t56_b58
      have E_b57_59 : Exa Z h59 b57 "java/lang/String" := E_b57_58.wr W59
      have F_coder_b57_59 : Fld Z h59 b57 "java/lang/String" "coder" "B" (.int (0 : Int32)) := F_coder_b57_58.other W59 (Or.inl ne_b57_b58)
      have F_value_b57_59 : Fld Z h59 b57 "java/lang/String" "value" "[B" .null := F_value_b57_58.other W59 (Or.inl ne_b57_b58)
      have K_59 : Keep h0 h59 [] := K_58.wr W59 (Or.inr sz_b58)
      have N59 := Fr.snoc X59 N56 g_b58
      obtain ⟨ch59, hch59⟩ : ∃ z, z = (nar .char (p3 &&& (255 : Int32)).toUInt32.toUInt16.toUInt32.toInt32) := ⟨_, rfl⟩
      have bch59 : ¬ ch59 < 0 ∧ ¬ (255 : Int32) < ch59 := by rw [hch59]; exact own_c255 _
      have V_b58_59 : Arv Z h59 b58 k58 .char (2 : Int32) [(.int ch59), (.int (0 : Int32))] (.int (0 : Int32)) := by rw [hch59]; exact Arv.set Ar59 q59 Sz59 Nn59 Hh59 Gg59 (fits_nar_char _) W59 0 rfl (Nat.le_of_ble_eq_true rfl)
      refine own_step (T' := T59) (g' := (mkF m 114 #[.val (.int p0), .val (.int p1), .val (.int p2), .val (.int p3), .val .null, .val (.ref b51), .unset, .unset, .unset, .unset] [(.ref b58), (.ref b57), (.ref b57)])) st59 ?_
      refine own_step (T' := T59) (g' := (mkF m 115 #[.val (.int p0), .val (.int p1), .val (.int p2), .val (.int p3), .val .null, .val (.ref b51), .unset, .unset, .unset, .unset] [(.ref b58), (.ref b58), (.ref b57), (.ref b57)])) (fun t k => XS.dup X59.here hx rfl (hb hby at_114) rfl rfl k) ?_
      refine own_step (T' := T59) (g' := (mkF m 116 #[.val (.int p0), .val (.int p1), .val (.int p2), .val (.int p3), .val .null, .val (.ref b51), .unset, .unset, .unset, .unset] [(.int (1 : Int32)), (.ref b58), (.ref b58), (.ref b57), (.ref b57)])) (fun t k => XS.iconst X59.here hx rfl (hb hby at_115) k) ?_
      refine own_step (T' := T59) (g' := (mkF m 117 #[.val (.int p0), .val (.int p1), .val (.int p2), .val (.int p3), .val .null, .val (.ref b51), .unset, .unset, .unset, .unset] [(.int p3), (.int (1 : Int32)), (.ref b58), (.ref b58), (.ref b57), (.ref b57)])) (fun t k => XS.iloadN X59.here hx rfl (hb hby at_116) rfl k) ?_
      refine own_step (T' := T59) (g' := (mkF m 119 #[.val (.int p0), .val (.int p1), .val (.int p2), .val (.int p3), .val .null, .val (.ref b51), .unset, .unset, .unset, .unset] [(.int (8 : Int32)), (.int p3), (.int (1 : Int32)), (.ref b58), (.ref b58), (.ref b57), (.ref b57)])) (fun t k => XS.bipush X59.here hx rfl (hb hby at_117) k) ?_
      refine own_step (T' := T59) (g' := (mkF m 120 #[.val (.int p0), .val (.int p1), .val (.int p2), .val (.int p3), .val .null, .val (.ref b51), .unset, .unset, .unset, .unset] [(.int (p3.toUInt32 >>> ((8 : Int32) &&& 31).toUInt32).toInt32), (.int (1 : Int32)), (.ref b58), (.ref b58), (.ref b57), (.ref b57)])) (fun t k => XS.iushr X59.here hx rfl (hb hby at_119) rfl k) ?_
      refine own_step (T' := T59) (g' := (mkF m 123 #[.val (.int p0), .val (.int p1), .val (.int p2), .val (.int p3), .val .null, .val (.ref b51), .unset, .unset, .unset, .unset] [(.int (255 : Int32)), (.int (p3.toUInt32 >>> ((8 : Int32) &&& 31).toUInt32).toInt32), (.int (1 : Int32)), (.ref b58), (.ref b58), (.ref b57), (.ref b57)])) (fun t k => XS.sipush X59.here hx rfl (hb hby at_120) k) ?_
      refine own_step (T' := T59) (g' := (mkF m 124 #[.val (.int p0), .val (.int p1), .val (.int p2), .val (.int p3), .val .null, .val (.ref b51), .unset, .unset, .unset, .unset] [(.int ((p3.toUInt32 >>> ((8 : Int32) &&& 31).toUInt32).toInt32 &&& (255 : Int32))), (.int (1 : Int32)), (.ref b58), (.ref b58), (.ref b57), (.ref b57)])) (fun t k => XS.iand X59.here hx rfl (hb hby at_123) rfl k) ?_
      refine own_step (T' := T59) (g' := (mkF m 125 #[.val (.int p0), .val (.int p1), .val (.int p2), .val (.int p3), .val .null, .val (.ref b51), .unset, .unset, .unset, .unset] [(.int ((p3.toUInt32 >>> ((8 : Int32) &&& 31).toUInt32).toInt32 &&& (255 : Int32)).toUInt32.toUInt16.toUInt32.toInt32), (.int (1 : Int32)), (.ref b58), (.ref b58), (.ref b57), (.ref b57)])) (fun t k => XS.i2c X59.here hx rfl (hb hby at_124) rfl k) ?_
      obtain ⟨cl60, Ar60, q60, Sz60, Nn60, Hh60, Gg60⟩ := id V_b58_59
      have hin60 : ¬ ((1 : Int32) < 0 ∨ cl60.slots.size ≤ ((1 : Int32)).toNatClampNeg) := inb_of Sz60 ⟨by decide, by decide⟩
      obtain ⟨T60, h60, X60, e60, W60, st60⟩ := stC X59 hx hZ e59 Ar60 (j := (1 : Int32)) hin60 (g := (mkF m 125 #[.val (.int p0), .val (.int p1), .val (.int p2), .val (.int p3), .val .null, .val (.ref b51), .unset, .unset, .unset, .unset] [(.int ((p3.toUInt32 >>> ((8 : Int32) &&& 31).toUInt32).toInt32 &&& (255 : Int32)).toUInt32.toUInt16.toUInt32.toInt32), (.int (1 : Int32)), (.ref b58), (.ref b58), (.ref b57), (.ref b57)])) rfl rfl (hb hby at_125)
      have S_COMPACT_STRINGS_60 : Sta Z h60 "java/lang/String" "COMPACT_STRINGS" "Z" (.int G1) := S_COMPACT_STRINGS_59.wr W60
      have E_b51_60 : Exa Z h60 b51 "java/lang/String" := E_b51_59.wr W60
      have V_b52_60 : Arv Z h60 b52 k52 .char (3 : Int32) [(.int ch53), (.int ch54), (.int ch55)] (.int (0 : Int32)) := V_b52_59.other W60 ne_b52_b58
      have F_coder_b51_60 : Fld Z h60 b51 "java/lang/String" "coder" "B" (.int (0 : Int32)) := F_coder_b51_59.other W60 (Or.inl ne_b51_b58)
      have F_value_b51_60 : Fld Z h60 b51 "java/lang/String" "value" "[B" (.ref t56) := F_value_b51_59.other W60 (Or.inl ne_b51_b58)
      have V_t56_60 : Arv Z h60 t56 kb56 .byte (3 : Int32) ((([ch53, ch54, ch55] : List Int32).map (fun c => c.toInt8.toInt32)).map Value.int) (.int 0) := V_t56_59.other W60 ne_t56_b58
      have E_b57_60 : Exa Z h60 b57 "java/lang/String" := E_b57_59.wr W60
      have F_coder_b57_60 : Fld Z h60 b57 "java/lang/String" "coder" "B" (.int (0 : Int32)) := F_coder_b57_59.other W60 (Or.inl ne_b57_b58)
      have F_value_b57_60 : Fld Z h60 b57 "java/lang/String" "value" "[B" .null := F_value_b57_59.other W60 (Or.inl ne_b57_b58)
      have K_60 : Keep h0 h60 [] := K_59.wr W60 (Or.inr sz_b58)
      have N60 := Fr.snoc X60 N59 g_b58
      obtain ⟨ch60, hch60⟩ : ∃ z, z = (nar .char ((p3.toUInt32 >>> ((8 : Int32) &&& 31).toUInt32).toInt32 &&& (255 : Int32)).toUInt32.toUInt16.toUInt32.toInt32) := ⟨_, rfl⟩
      have bch60 : ¬ ch60 < 0 ∧ ¬ (255 : Int32) < ch60 := by rw [hch60]; exact own_c255 _
      have V_b58_60 : Arv Z h60 b58 k58 .char (2 : Int32) [(.int ch59), (.int ch60)] (.int (0 : Int32)) := by rw [hch60]; exact Arv.set Ar60 q60 Sz60 Nn60 Hh60 Gg60 (fits_nar_char _) W60 1 rfl (Nat.le_of_ble_eq_true rfl)
      refine own_step (T' := T60) (g' := (mkF m 126 #[.val (.int p0), .val (.int p1), .val (.int p2), .val (.int p3), .val .null, .val (.ref b51), .unset, .unset, .unset, .unset] [(.ref b58), (.ref b57), (.ref b57)])) st60 ?_
      have hp61 : ∀ c ∈ ([ch59, ch60] : List Int32), ¬ c < 0 ∧ ¬ (255 : Int32) < c := by
        intro c hc
        simp only [List.mem_cons, List.not_mem_nil, or_false] at hc
        rcases hc with rfl | rfl
        · exact bch59
        · exact bch60
      obtain ⟨_, _, ⟨T61, L61, kk61, nn61⟩, -, X61, ⟨Lc61, hQ61, l61, y61, z61⟩, st61⟩ := X60.specialBack hx (y := (⟨"java/lang/String", "<init>", "([C)V"⟩ : MethodName)) rfl hown (mvT hZ (hw _ (List.mem_of_getElem? (i := 4) rfl))) (mvT hZ (hw _ (List.mem_of_getElem? (i := 5) rfl))) (mvT hZ (hw _ (List.mem_of_getElem? (i := 6) rfl))) (by decide) (StrChars.Road.backV (W := 1) hZ hws (kI := 4) (hw _ (List.mem_of_getElem? (i := 1) rfl)) (cs := ([ch59, ch60] : List Int32)) (bs := ([ch59, ch60] : List Int32).map (fun c => c.toInt8.toInt32)) (n := 2) g_b57 (Nat.le_trans Z0 K_60.1) E_b57_60 F_value_b57_60 F_coder_b57_60 V_b58_60 S_COMPACT_STRINGS_60 P5 rfl rfl (by decide) (by decide) hp61 rfl (by decide) (by decide)) (g := (mkF m 126 #[.val (.int p0), .val (.int p1), .val (.int p2), .val (.int p3), .val .null, .val (.ref b51), .unset, .unset, .unset, .unset] [(.ref b58), (.ref b57), (.ref b57)])) rfl (by rw [hml]; rfl) (Steps.refl _) (a := b57) (argsL := [(.ref b58)]) (rest := [(.ref b57)]) (lenOf pd_0 rfl) rfl (by show 2 * 0 + _ ≤ _; exact Nat.le_of_eq rfl) (hb hby at_126) (fun _ _ => ⟨rfl, e60, (by decide : 5 + 1 ≤ _), (by decide : 16 + 2 ≤ _)⟩)
      dsimp only [Pt.U, Pt.locs, Pt.cells, Pt.slots] at X61 l61 y61 z61 st61 hQ61
      rw [l61, y61, z61] at X61
      obtain ⟨rfl, N61q, Kq61, pe61, pc61, t61, kb61, gt61, st61', nt61, pv61, pa61⟩ := hQ61
      have N61 := Fr.app N60 N61q
      have S_COMPACT_STRINGS_61 : Sta Z T61.heap "java/lang/String" "COMPACT_STRINGS" "Z" (.int G1) := own_sta_keep S_COMPACT_STRINGS_60 Kq61 (allS E_b57_60.nostat all0)
      have E_b51_61 : Exa Z T61.heap b51 "java/lang/String" := E_b51_60.keep Kq61
      have V_b52_61 : Arv Z T61.heap b52 k52 .char (3 : Int32) [(.int ch53), (.int ch54), (.int ch55)] (.int (0 : Int32)) := V_b52_60.keep Kq61 (ninS ne_b52_b57 nin0)
      have F_coder_b51_61 : Fld Z T61.heap b51 "java/lang/String" "coder" "B" (.int (0 : Int32)) := F_coder_b51_60.keep Kq61 (ninS ne_b51_b57 nin0)
      have F_value_b51_61 : Fld Z T61.heap b51 "java/lang/String" "value" "[B" (.ref t56) := F_value_b51_60.keep Kq61 (ninS ne_b51_b57 nin0)
      have V_t56_61 : Arv Z T61.heap t56 kb56 .byte (3 : Int32) ((([ch53, ch54, ch55] : List Int32).map (fun c => c.toInt8.toInt32)).map Value.int) (.int 0) := V_t56_60.keep Kq61 (ninS ne_t56_b57 nin0)
      have E_b57_61 : Exa Z T61.heap b57 "java/lang/String" := E_b57_60.keep Kq61
      have V_b58_61 : Arv Z T61.heap b58 k58 .char (2 : Int32) [(.int ch59), (.int ch60)] (.int (0 : Int32)) := V_b58_60.keep Kq61 (ninS (Ne.symm ne_b57_b58) nin0)
      have K_61 : Keep h0 T61.heap [] := K_60.trans Kq61 (allS (Or.inr sz_b57) all0)
      have sz_t61 : h0.size ≤ t61 := Nat.le_trans K_60.1 st61'
      have ne_b51_t61 : b51 ≠ t61 := Nat.ne_of_lt (Nat.lt_of_lt_of_le E_b51_60.lt st61')
      have ne_b52_t61 : b52 ≠ t61 := Nat.ne_of_lt (Nat.lt_of_lt_of_le V_b52_60.lt st61')
      have ne_t56_t61 : t56 ≠ t61 := Nat.ne_of_lt (Nat.lt_of_lt_of_le V_t56_60.lt st61')
      have ne_b57_t61 : b57 ≠ t61 := Nat.ne_of_lt (Nat.lt_of_lt_of_le E_b57_60.lt st61')
      have ne_b58_t61 : b58 ≠ t61 := Nat.ne_of_lt (Nat.lt_of_lt_of_le V_b58_60.lt st61')
      refine own_step (T' := T61) (g' := (mkF m 129 #[.val (.int p0), .val (.int p1), .val (.int p2), .val (.int p3), .val .null, .val (.ref b51), .unset, .unset, .unset, .unset] [(.ref b57)])) (fun t k => st61.trans k) ?_
      refine own_step (T' := T61) (g' := (mkF m 131 #[.val (.int p0), .val (.int p1), .val (.int p2), .val (.int p3), .val .null, .val (.ref b51), .val (.ref b57), .unset, .unset, .unset] [])) (fun t k => XS.astore X61.here hx rfl (hb hby at_129) rfl rfl (l' := #[.val (.int p0), .val (.int p1), .val (.int p2), .val (.int p3), .val .null, .val (.ref b51), .val (.ref b57), .unset, .unset, .unset]) rfl k) ?_
      refine own_step (T' := T61) (g' := (mkF m 133 #[.val (.int p0), .val (.int p1), .val (.int p2), .val (.int p3), .val .null, .val (.ref b51), .val (.ref b57), .unset, .unset, .unset] [.null])) (fun t k => XS.aload X61.here hx rfl (hb hby at_131) rfl rfl k) ?_
      refine own_step (T' := T61) (g' := (mkF m 135 #[.val (.int p0), .val (.int p1), .val (.int p2), .val (.int p3), .val .null, .val (.ref b51), .val (.ref b57), .unset, .unset, .unset] [(.ref b51), .null])) (fun t k => XS.aload X61.here hx rfl (hb hby at_133) rfl rfl k) ?_
      refine own_step (T' := T61) (g' := (mkF m 137 #[.val (.int p0), .val (.int p1), .val (.int p2), .val (.int p3), .val .null, .val (.ref b51), .val (.ref b57), .unset, .unset, .unset] [(.ref b57), (.ref b51), .null])) (fun t k => XS.aload X61.here hx rfl (hb hby at_135) rfl rfl k) ?_
      obtain ⟨_, _, ⟨T62, L62, kk62, nn62⟩, -, X62, ⟨Lc62, hQ62, l62, y62, z62⟩, st62⟩ := Jvm.LawKit.callS X61 hx (y := (⟨"com/example/tapeloom/tapeloom/Option", "flag", "(Ljava/lang/String;Ljava/lang/String;Ljava/lang/String;)Lcom/example/tapeloom/tapeloom/Option;"⟩ : MethodName)) hown (mvT hZ (hw _ (List.mem_of_getElem? (i := 30) rfl))) (mvT hZ (hw _ (List.mem_of_getElem? (i := 31) rfl))) (mvT hZ (hw _ (List.mem_of_getElem? (i := 32) rfl))) (mvT hZ (hw _ (List.mem_of_getElem? (i := 33) rfl))) (by decide) (backOf (W := 0) (rm7_10 l Z a0 hw [] b51 b57 T61.heap n0 (Nat.le_trans Z0 K_61.1) ) hZ (hw _ (List.mem_of_getElem? (i := 33) rfl)) (hw _ (List.mem_of_getElem? (i := 32) rfl)) (by decide) (by decide)) (g := (mkF m 137 #[.val (.int p0), .val (.int p1), .val (.int p2), .val (.int p3), .val .null, .val (.ref b51), .val (.ref b57), .unset, .unset, .unset] [(.ref b57), (.ref b51), .null])) rfl (by rw [hml]; rfl) (argsL := [.null, (.ref b51), (.ref b57)]) (rest := []) (lenOf pd_6 rfl) rfl (by show 2 * 0 + _ ≤ _; exact Nat.le_of_eq rfl) (hb hby at_137) (fun _ _ => ⟨rfl, rfl, (by decide : 6 + 1 ≤ _), (by decide : 18 + 4 ≤ _)⟩)
      dsimp only [Pt.U, Pt.locs, Pt.cells, Pt.slots] at X62 l62 y62 z62 st62 hQ62
      rw [l62, y62, z62] at X62
      obtain ⟨ob_62, rfl, N62q, Kq62, pq62_0, pq62_1, pq62_2, pq62_3, pq62_4, pq62_5, pq62_6⟩ := hQ62
      have N62 := Fr.app N61 N62q
      have S_COMPACT_STRINGS_62 : Sta Z T62.heap "java/lang/String" "COMPACT_STRINGS" "Z" (.int G1) := own_sta_keep S_COMPACT_STRINGS_61 Kq62 all0
      have E_b51_62 : Exa Z T62.heap b51 "java/lang/String" := E_b51_61.keep Kq62
      have V_b52_62 : Arv Z T62.heap b52 k52 .char (3 : Int32) [(.int ch53), (.int ch54), (.int ch55)] (.int (0 : Int32)) := V_b52_61.keep Kq62 nin0
      have F_coder_b51_62 : Fld Z T62.heap b51 "java/lang/String" "coder" "B" (.int (0 : Int32)) := F_coder_b51_61.keep Kq62 nin0
      have F_value_b51_62 : Fld Z T62.heap b51 "java/lang/String" "value" "[B" (.ref t56) := F_value_b51_61.keep Kq62 nin0
      have V_t56_62 : Arv Z T62.heap t56 kb56 .byte (3 : Int32) ((([ch53, ch54, ch55] : List Int32).map (fun c => c.toInt8.toInt32)).map Value.int) (.int 0) := V_t56_61.keep Kq62 nin0
      have E_b57_62 : Exa Z T62.heap b57 "java/lang/String" := E_b57_61.keep Kq62
      have V_b58_62 : Arv Z T62.heap b58 k58 .char (2 : Int32) [(.int ch59), (.int ch60)] (.int (0 : Int32)) := V_b58_61.keep Kq62 nin0
      have F_coder_b57_62 : Fld Z T62.heap b57 "java/lang/String" "coder" "B" (.int (0 : Int32)) := pc61.keep Kq62 nin0
      have F_value_b57_62 : Fld Z T62.heap b57 "java/lang/String" "value" "[B" (.ref t61) := pv61.keep Kq62 nin0
      have V_t61_62 : Arv Z T62.heap t61 kb61 .byte (2 : Int32) ((([ch59, ch60] : List Int32).map (fun c => c.toInt8.toInt32)).map Value.int) (.int 0) := pa61.keep Kq62 nin0
      have K_62 : Keep h0 T62.heap [] := K_61.trans Kq62 all0
      have sz_ob_62 : h0.size ≤ ob_62 := Nat.le_trans K_61.1 pq62_6
      have ne_b51_ob_62 : b51 ≠ ob_62 := Nat.ne_of_lt (Nat.lt_of_lt_of_le E_b51_61.lt pq62_6)
      have ne_b52_ob_62 : b52 ≠ ob_62 := Nat.ne_of_lt (Nat.lt_of_lt_of_le V_b52_61.lt pq62_6)
      have ne_t56_ob_62 : t56 ≠ ob_62 := Nat.ne_of_lt (Nat.lt_of_lt_of_le V_t56_61.lt pq62_6)
      have ne_b57_ob_62 : b57 ≠ ob_62 := Nat.ne_of_lt (Nat.lt_of_lt_of_le E_b57_61.lt pq62_6)
      have ne_b58_ob_62 : b58 ≠ ob_62 := Nat.ne_of_lt (Nat.lt_of_lt_of_le V_b58_61.lt pq62_6)
      have ne_t61_ob_62 : t61 ≠ ob_62 := Nat.ne_of_lt (Nat.lt_of_lt_of_le pa61.lt pq62_6)
      refine own_step (T' := T62) (g' := (mkF m 140 #[.val (.int p0), .val (.int p1), .val (.int p2), .val (.int p3), .val .null, .val (.ref b51), .val (.ref b57), .unset, .unset, .unset] [(.ref ob_62)])) st62 ?_
      refine own_step (T' := T62) (g' := (mkF m 142 #[.val (.int p0), .val (.int p1), .val (.int p2), .val (.int p3), .val .null, .val (.ref b51), .val (.ref b57), .val (.ref ob_62), .unset, .unset] [])) (fun t k => XS.astore X62.here hx rfl (hb hby at_140) rfl rfl (l' := #[.val (.int p0), .val (.int p1), .val (.int p2), .val (.int p3), .val .null, .val (.ref b51), .val (.ref b57), .val (.ref ob_62), .unset, .unset]) rfl k) ?_
      refine own_step (T' := T62) (g' := (mkF m 144 #[.val (.int p0), .val (.int p1), .val (.int p2), .val (.int p3), .val .null, .val (.ref b51), .val (.ref b57), .val (.ref ob_62), .unset, .unset] [(.ref b51)])) (fun t k => XS.aload X62.here hx rfl (hb hby at_142) rfl rfl k) ?_
      refine own_step (T' := T62) (g' := (mkF m 152 #[.val (.int p0), .val (.int p1), .val (.int p2), .val (.int p3), .val .null, .val (.ref b51), .val (.ref b57), .val (.ref ob_62), .unset, .unset] [])) (fun t k => XS.ifnonnullYes X62.here hx rfl (pc0 := 144) (pc' := 152) rfl (hb hby at_144) rfl (by decide) (by decide) k) ?_
      refine own_step (T' := T62) (g' := (mkF m 154 #[.val (.int p0), .val (.int p1), .val (.int p2), .val (.int p3), .val .null, .val (.ref b51), .val (.ref b57), .val (.ref ob_62), .unset, .unset] [(.ref b51)])) (fun t k => XS.aload X62.here hx rfl (hb hby at_152) rfl rfl k) ?_
      refine own_step (T' := T62) (g' := (mkF m 156 #[.val (.int p0), .val (.int p1), .val (.int p2), .val (.int p3), .val .null, .val (.ref b51), .val (.ref b57), .val (.ref ob_62), .val (.ref b51), .unset] [])) (fun t k => XS.astore X62.here hx rfl (hb hby at_154) rfl rfl (l' := #[.val (.int p0), .val (.int p1), .val (.int p2), .val (.int p3), .val .null, .val (.ref b51), .val (.ref b57), .val (.ref ob_62), .val (.ref b51), .unset]) rfl k) ?_
      refine own_step (T' := T62) (g' := (mkF m 158 #[.val (.int p0), .val (.int p1), .val (.int p2), .val (.int p3), .val .null, .val (.ref b51), .val (.ref b57), .val (.ref ob_62), .val (.ref b51), .unset] [.null])) (fun t k => XS.aload X62.here hx rfl (hb hby at_156) rfl rfl k) ?_
      refine own_step (T' := T62) (g' := (mkF m 161 #[.val (.int p0), .val (.int p1), .val (.int p2), .val (.int p3), .val .null, .val (.ref b51), .val (.ref b57), .val (.ref ob_62), .val (.ref b51), .unset] [])) (fun t k => XS.ifnonnullNo X62.here hx rfl (hb hby at_158) rfl k) ?_
      refine own_step (T' := T62) (g' := (mkF m 163 #[.val (.int p0), .val (.int p1), .val (.int p2), .val (.int p3), .val .null, .val (.ref b51), .val (.ref b57), .val (.ref ob_62), .val (.ref b51), .unset] [(.ref b51)])) (fun t k => XS.aload X62.here hx rfl (hb hby at_161) rfl rfl k) ?_
      refine own_step (T' := T62) (g' := (mkF m 170 #[.val (.int p0), .val (.int p1), .val (.int p2), .val (.int p3), .val .null, .val (.ref b51), .val (.ref b57), .val (.ref ob_62), .val (.ref b51), .unset] [])) (fun t k => XS.ifnonnullYes X62.here hx rfl (pc0 := 163) (pc' := 170) rfl (hb hby at_163) rfl (by decide) (by decide) k) ?_
      refine own_step (T' := T62) (g' := (mkF m 171 #[.val (.int p0), .val (.int p1), .val (.int p2), .val (.int p3), .val .null, .val (.ref b51), .val (.ref b57), .val (.ref ob_62), .val (.ref b51), .unset] [(.int (0 : Int32))])) (fun t k => XS.iconst X62.here hx rfl (hb hby at_170) k) ?_
      refine own_step (T' := T62) (g' := (mkF m 173 #[.val (.int p0), .val (.int p1), .val (.int p2), .val (.int p3), .val .null, .val (.ref b51), .val (.ref b57), .val (.ref ob_62), .val (.ref b51), .val (.int (0 : Int32))] [])) (fun t k => XS.istore X62.here hx rfl (hb hby at_171) rfl (l' := #[.val (.int p0), .val (.int p1), .val (.int p2), .val (.int p3), .val .null, .val (.ref b51), .val (.ref b57), .val (.ref ob_62), .val (.ref b51), .val (.int (0 : Int32))]) rfl k) ?_
      refine own_step (T' := T62) (g' := (mkF m 175 #[.val (.int p0), .val (.int p1), .val (.int p2), .val (.int p3), .val .null, .val (.ref b51), .val (.ref b57), .val (.ref ob_62), .val (.ref b51), .val (.int (0 : Int32))] [(.ref ob_62)])) (fun t k => XS.aload X62.here hx rfl (hb hby at_173) rfl rfl k) ?_
      obtain ⟨cq63, kq63, qq63a, qq63b, qq63c⟩ := isOf hZ rfl pq62_0
      obtain ⟨_, _, ⟨T63, L63, kk63, nn63⟩, -, X63, ⟨Lc63, hQ63, l63, y63, z63⟩, st63⟩ := X62.virtualBack hx (y := (⟨"com/example/tapeloom/tapeloom/Option", "shortName", "()Ljava/lang/String;"⟩ : MethodName)) (z := (⟨"com/example/tapeloom/tapeloom/Option", "shortName", "()Ljava/lang/String;"⟩ : MethodName)) hown (mvT hZ (hw _ (List.mem_of_getElem? (i := 48) rfl))) (mvT hZ (hw _ (List.mem_of_getElem? (i := 49) rfl))) (notFace_of_selects (args := #[]) (mvT hZ (hw _ (List.mem_of_getElem? (i := 51) rfl)))) (mvT hZ (hw _ (List.mem_of_getElem? (i := 51) rfl))) (mvT hZ (hw _ (List.mem_of_getElem? (i := 50) rfl))) (by decide) (backOf (W := 0) (rm9_1 l Z a0 hw [] ob_62 T62.heap n0 (Nat.le_trans Z0 K_62.1) pq62_1) hZ (hw _ (List.mem_of_getElem? (i := 52) rfl)) (hw _ (List.mem_of_getElem? (i := 32) rfl)) (by decide) (by decide)) qq63a qq63c (g := (mkF m 175 #[.val (.int p0), .val (.int p1), .val (.int p2), .val (.int p3), .val .null, .val (.ref b51), .val (.ref b57), .val (.ref ob_62), .val (.ref b51), .val (.int (0 : Int32))] [(.ref ob_62)])) rfl (by rw [hml]; rfl) (Steps.refl _) (argsL := []) (rest := []) (lenOf pd_8 rfl) rfl (by show 2 * 0 + _ ≤ _; exact Nat.le_of_eq rfl) (hb hby at_175) (fun _ _ => ⟨rfl, rfl, (by decide : 7 + 0 ≤ _), (by decide : 22 + 0 ≤ _)⟩)
      dsimp only [Pt.U, Pt.locs, Pt.cells, Pt.slots] at X63 l63 y63 z63 st63 hQ63
      rw [l63, y63, z63] at X63
      obtain ⟨rfl, N63q, eq63⟩ := hQ63
      have N63 := Fr.app N62 N63q
      refine own_step (T' := T63) (g' := (mkF m 178 #[.val (.int p0), .val (.int p1), .val (.int p2), .val (.int p3), .val .null, .val (.ref b51), .val (.ref b57), .val (.ref ob_62), .val (.ref b51), .val (.int (0 : Int32))] [.null])) (fun t k => st63.trans k) ?_
      refine own_step (T' := T63) (g' := (mkF m 180 #[.val (.int p0), .val (.int p1), .val (.int p2), .val (.int p3), .val .null, .val (.ref b51), .val (.ref b57), .val (.ref ob_62), .val (.ref b51), .val (.int (0 : Int32))] [.null, .null])) (fun t k => XS.aload X63.here hx rfl (hb hby at_178) rfl rfl k) ?_
      obtain ⟨_, _, ⟨T64, L64, kk64, nn64⟩, -, X64, ⟨Lc64, hQ64, l64, y64, z64⟩, st64⟩ := Jvm.LawKit.callS X63 hx (y := (⟨"com/example/tapeloom/tapeloom/OptionFlagPinLaw", "eq", "(Ljava/lang/String;Ljava/lang/String;)Z"⟩ : MethodName)) hown (mvT hZ (hw _ (List.mem_of_getElem? (i := 53) rfl))) (mvT hZ (hw _ (List.mem_of_getElem? (i := 54) rfl))) (mvT hZ (hw _ (List.mem_of_getElem? (i := 55) rfl))) (mvT hZ (hw _ (List.mem_of_getElem? (i := 56) rfl))) (by decide) (backOf (W := 0) (rm10_1 l Z a0 hw []  T62.heap n0 (Nat.le_trans Z0 K_62.1) ) hZ (hw _ (List.mem_of_getElem? (i := 56) rfl)) (hw _ (List.mem_of_getElem? (i := 55) rfl)) (by decide) (by decide)) (g := (mkF m 180 #[.val (.int p0), .val (.int p1), .val (.int p2), .val (.int p3), .val .null, .val (.ref b51), .val (.ref b57), .val (.ref ob_62), .val (.ref b51), .val (.int (0 : Int32))] [.null, .null])) rfl (by rw [hml]; rfl) (argsL := [.null, .null]) (rest := []) (lenOf pd_9 rfl) rfl (by show 2 * 0 + _ ≤ _; exact Nat.le_of_eq rfl) (hb hby at_180) (fun _ _ => ⟨rfl, eq63, (by decide : 7 + 0 ≤ _), (by decide : 22 + 0 ≤ _)⟩)
      dsimp only [Pt.U, Pt.locs, Pt.cells, Pt.slots] at X64 l64 y64 z64 st64 hQ64
      rw [l64, y64, z64] at X64
      obtain ⟨rfl, N64q, eq64⟩ := hQ64
      have N64 := Fr.app N63 N64q
      refine own_step (T' := T64) (g' := (mkF m 183 #[.val (.int p0), .val (.int p1), .val (.int p2), .val (.int p3), .val .null, .val (.ref b51), .val (.ref b57), .val (.ref ob_62), .val (.ref b51), .val (.int (0 : Int32))] [(.int (1 : Int32))])) st64 ?_
      refine own_step (T' := T64) (g' := (mkF m 186 #[.val (.int p0), .val (.int p1), .val (.int p2), .val (.int p3), .val .null, .val (.ref b51), .val (.ref b57), .val (.ref ob_62), .val (.ref b51), .val (.int (0 : Int32))] [])) (fun t k => XS.ifNo X64.here hx rfl (hb hby at_183) rfl ((if0 _ _).trans (feq (by decide : ¬ ((1 : Int32) = (0 : Int32)))).1) k) ?_
      refine own_step (T' := T64) (g' := (mkF m 188 #[.val (.int p0), .val (.int p1), .val (.int p2), .val (.int p3), .val .null, .val (.ref b51), .val (.ref b57), .val (.ref ob_62), .val (.ref b51), .val (.int (0 : Int32))] [(.ref ob_62)])) (fun t k => XS.aload X64.here hx rfl (hb hby at_186) rfl rfl k) ?_
      obtain ⟨cq65, kq65, qq65a, qq65b, qq65c⟩ := isOf hZ eq64 pq62_0
      obtain ⟨_, _, ⟨T65, L65, kk65, nn65⟩, -, X65, ⟨Lc65, hQ65, l65, y65, z65⟩, st65⟩ := X64.virtualBack hx (y := (⟨"com/example/tapeloom/tapeloom/Option", "longName", "()Ljava/lang/String;"⟩ : MethodName)) (z := (⟨"com/example/tapeloom/tapeloom/Option", "longName", "()Ljava/lang/String;"⟩ : MethodName)) hown (mvT hZ (hw _ (List.mem_of_getElem? (i := 62) rfl))) (mvT hZ (hw _ (List.mem_of_getElem? (i := 63) rfl))) (notFace_of_selects (args := #[]) (mvT hZ (hw _ (List.mem_of_getElem? (i := 65) rfl)))) (mvT hZ (hw _ (List.mem_of_getElem? (i := 65) rfl))) (mvT hZ (hw _ (List.mem_of_getElem? (i := 64) rfl))) (by decide) (backOf (W := 0) (rm12_0 l Z a0 hw [] ob_62 b51 T62.heap n0 (Nat.le_trans Z0 K_62.1) pq62_2) hZ (hw _ (List.mem_of_getElem? (i := 66) rfl)) (hw _ (List.mem_of_getElem? (i := 32) rfl)) (by decide) (by decide)) qq65a qq65c (g := (mkF m 188 #[.val (.int p0), .val (.int p1), .val (.int p2), .val (.int p3), .val .null, .val (.ref b51), .val (.ref b57), .val (.ref ob_62), .val (.ref b51), .val (.int (0 : Int32))] [(.ref ob_62)])) rfl (by rw [hml]; rfl) (Steps.refl _) (argsL := []) (rest := []) (lenOf pd_8 rfl) rfl (by show 2 * 0 + _ ≤ _; exact Nat.le_of_eq rfl) (hb hby at_188) (fun _ _ => ⟨rfl, eq64, (by decide : 7 + 0 ≤ _), (by decide : 22 + 0 ≤ _)⟩)
      dsimp only [Pt.U, Pt.locs, Pt.cells, Pt.slots] at X65 l65 y65 z65 st65 hQ65
      rw [l65, y65, z65] at X65
      obtain ⟨rfl, N65q, eq65⟩ := hQ65
      have N65 := Fr.app N64 N65q
      refine own_step (T' := T65) (g' := (mkF m 191 #[.val (.int p0), .val (.int p1), .val (.int p2), .val (.int p3), .val .null, .val (.ref b51), .val (.ref b57), .val (.ref ob_62), .val (.ref b51), .val (.int (0 : Int32))] [(.ref b51)])) (fun t k => st65.trans k) ?_
      refine own_step (T' := T65) (g' := (mkF m 193 #[.val (.int p0), .val (.int p1), .val (.int p2), .val (.int p3), .val .null, .val (.ref b51), .val (.ref b57), .val (.ref ob_62), .val (.ref b51), .val (.int (0 : Int32))] [(.ref b51), (.ref b51)])) (fun t k => XS.aload X65.here hx rfl (hb hby at_191) rfl rfl k) ?_
      obtain ⟨_, _, ⟨T66, L66, kk66, nn66⟩, -, X66, ⟨Lc66, hQ66, l66, y66, z66⟩, st66⟩ := Jvm.LawKit.callS X65 hx (y := (⟨"com/example/tapeloom/tapeloom/OptionFlagPinLaw", "eq", "(Ljava/lang/String;Ljava/lang/String;)Z"⟩ : MethodName)) hown (mvT hZ (hw _ (List.mem_of_getElem? (i := 53) rfl))) (mvT hZ (hw _ (List.mem_of_getElem? (i := 54) rfl))) (mvT hZ (hw _ (List.mem_of_getElem? (i := 55) rfl))) (mvT hZ (hw _ (List.mem_of_getElem? (i := 56) rfl))) (by decide) (backOf (W := 0) (rm10_0 l Z a0 hw [] b51 T62.heap n0 (Nat.le_trans Z0 K_62.1) E_b51_62) hZ (hw _ (List.mem_of_getElem? (i := 56) rfl)) (hw _ (List.mem_of_getElem? (i := 55) rfl)) (by decide) (by decide)) (g := (mkF m 193 #[.val (.int p0), .val (.int p1), .val (.int p2), .val (.int p3), .val .null, .val (.ref b51), .val (.ref b57), .val (.ref ob_62), .val (.ref b51), .val (.int (0 : Int32))] [(.ref b51), (.ref b51)])) rfl (by rw [hml]; rfl) (argsL := [(.ref b51), (.ref b51)]) (rest := []) (lenOf pd_9 rfl) rfl (by show 2 * 0 + _ ≤ _; exact Nat.le_of_eq rfl) (hb hby at_193) (fun _ _ => ⟨rfl, eq65, (by decide : 7 + 0 ≤ _), (by decide : 22 + 0 ≤ _)⟩)
      dsimp only [Pt.U, Pt.locs, Pt.cells, Pt.slots] at X66 l66 y66 z66 st66 hQ66
      rw [l66, y66, z66] at X66
      obtain ⟨rfl, N66q, eq66⟩ := hQ66
      have N66 := Fr.app N65 N66q
      refine own_step (T' := T66) (g' := (mkF m 196 #[.val (.int p0), .val (.int p1), .val (.int p2), .val (.int p3), .val .null, .val (.ref b51), .val (.ref b57), .val (.ref ob_62), .val (.ref b51), .val (.int (0 : Int32))] [(.int (1 : Int32))])) st66 ?_
      refine own_step (T' := T66) (g' := (mkF m 199 #[.val (.int p0), .val (.int p1), .val (.int p2), .val (.int p3), .val .null, .val (.ref b51), .val (.ref b57), .val (.ref ob_62), .val (.ref b51), .val (.int (0 : Int32))] [])) (fun t k => XS.ifNo X66.here hx rfl (hb hby at_196) rfl ((if0 _ _).trans (feq (by decide : ¬ ((1 : Int32) = (0 : Int32)))).1) k) ?_
      refine own_step (T' := T66) (g' := (mkF m 201 #[.val (.int p0), .val (.int p1), .val (.int p2), .val (.int p3), .val .null, .val (.ref b51), .val (.ref b57), .val (.ref ob_62), .val (.ref b51), .val (.int (0 : Int32))] [(.ref ob_62)])) (fun t k => XS.aload X66.here hx rfl (hb hby at_199) rfl rfl k) ?_
      obtain ⟨cq67, kq67, qq67a, qq67b, qq67c⟩ := isOf hZ eq66 pq62_0
      obtain ⟨_, _, ⟨T67, L67, kk67, nn67⟩, -, X67, ⟨Lc67, hQ67, l67, y67, z67⟩, st67⟩ := X66.virtualBack hx (y := (⟨"com/example/tapeloom/tapeloom/Option", "description", "()Ljava/lang/String;"⟩ : MethodName)) (z := (⟨"com/example/tapeloom/tapeloom/Option", "description", "()Ljava/lang/String;"⟩ : MethodName)) hown (mvT hZ (hw _ (List.mem_of_getElem? (i := 67) rfl))) (mvT hZ (hw _ (List.mem_of_getElem? (i := 68) rfl))) (notFace_of_selects (args := #[]) (mvT hZ (hw _ (List.mem_of_getElem? (i := 70) rfl)))) (mvT hZ (hw _ (List.mem_of_getElem? (i := 70) rfl))) (mvT hZ (hw _ (List.mem_of_getElem? (i := 69) rfl))) (by decide) (backOf (W := 0) (rm13_0 l Z a0 hw [] ob_62 b57 T62.heap n0 (Nat.le_trans Z0 K_62.1) pq62_4) hZ (hw _ (List.mem_of_getElem? (i := 71) rfl)) (hw _ (List.mem_of_getElem? (i := 32) rfl)) (by decide) (by decide)) qq67a qq67c (g := (mkF m 201 #[.val (.int p0), .val (.int p1), .val (.int p2), .val (.int p3), .val .null, .val (.ref b51), .val (.ref b57), .val (.ref ob_62), .val (.ref b51), .val (.int (0 : Int32))] [(.ref ob_62)])) rfl (by rw [hml]; rfl) (Steps.refl _) (argsL := []) (rest := []) (lenOf pd_8 rfl) rfl (by show 2 * 0 + _ ≤ _; exact Nat.le_of_eq rfl) (hb hby at_201) (fun _ _ => ⟨rfl, eq66, (by decide : 7 + 0 ≤ _), (by decide : 22 + 0 ≤ _)⟩)
      dsimp only [Pt.U, Pt.locs, Pt.cells, Pt.slots] at X67 l67 y67 z67 st67 hQ67
      rw [l67, y67, z67] at X67
      obtain ⟨rfl, N67q, eq67⟩ := hQ67
      have N67 := Fr.app N66 N67q
      refine own_step (T' := T67) (g' := (mkF m 204 #[.val (.int p0), .val (.int p1), .val (.int p2), .val (.int p3), .val .null, .val (.ref b51), .val (.ref b57), .val (.ref ob_62), .val (.ref b51), .val (.int (0 : Int32))] [(.ref b57)])) (fun t k => st67.trans k) ?_
      refine own_step (T' := T67) (g' := (mkF m 206 #[.val (.int p0), .val (.int p1), .val (.int p2), .val (.int p3), .val .null, .val (.ref b51), .val (.ref b57), .val (.ref ob_62), .val (.ref b51), .val (.int (0 : Int32))] [(.ref b57), (.ref b57)])) (fun t k => XS.aload X67.here hx rfl (hb hby at_204) rfl rfl k) ?_
      obtain ⟨_, _, ⟨T68, L68, kk68, nn68⟩, -, X68, ⟨Lc68, hQ68, l68, y68, z68⟩, st68⟩ := Jvm.LawKit.callS X67 hx (y := (⟨"com/example/tapeloom/tapeloom/OptionFlagPinLaw", "eq", "(Ljava/lang/String;Ljava/lang/String;)Z"⟩ : MethodName)) hown (mvT hZ (hw _ (List.mem_of_getElem? (i := 53) rfl))) (mvT hZ (hw _ (List.mem_of_getElem? (i := 54) rfl))) (mvT hZ (hw _ (List.mem_of_getElem? (i := 55) rfl))) (mvT hZ (hw _ (List.mem_of_getElem? (i := 56) rfl))) (by decide) (backOf (W := 0) (rm10_0 l Z a0 hw [] b57 T62.heap n0 (Nat.le_trans Z0 K_62.1) E_b57_62) hZ (hw _ (List.mem_of_getElem? (i := 56) rfl)) (hw _ (List.mem_of_getElem? (i := 55) rfl)) (by decide) (by decide)) (g := (mkF m 206 #[.val (.int p0), .val (.int p1), .val (.int p2), .val (.int p3), .val .null, .val (.ref b51), .val (.ref b57), .val (.ref ob_62), .val (.ref b51), .val (.int (0 : Int32))] [(.ref b57), (.ref b57)])) rfl (by rw [hml]; rfl) (argsL := [(.ref b57), (.ref b57)]) (rest := []) (lenOf pd_9 rfl) rfl (by show 2 * 0 + _ ≤ _; exact Nat.le_of_eq rfl) (hb hby at_206) (fun _ _ => ⟨rfl, eq67, (by decide : 7 + 0 ≤ _), (by decide : 22 + 0 ≤ _)⟩)
      dsimp only [Pt.U, Pt.locs, Pt.cells, Pt.slots] at X68 l68 y68 z68 st68 hQ68
      rw [l68, y68, z68] at X68
      obtain ⟨rfl, N68q, eq68⟩ := hQ68
      have N68 := Fr.app N67 N68q
      refine own_step (T' := T68) (g' := (mkF m 209 #[.val (.int p0), .val (.int p1), .val (.int p2), .val (.int p3), .val .null, .val (.ref b51), .val (.ref b57), .val (.ref ob_62), .val (.ref b51), .val (.int (0 : Int32))] [(.int (1 : Int32))])) st68 ?_
      refine own_step (T' := T68) (g' := (mkF m 212 #[.val (.int p0), .val (.int p1), .val (.int p2), .val (.int p3), .val .null, .val (.ref b51), .val (.ref b57), .val (.ref ob_62), .val (.ref b51), .val (.int (0 : Int32))] [])) (fun t k => XS.ifNo X68.here hx rfl (hb hby at_209) rfl ((if0 _ _).trans (feq (by decide : ¬ ((1 : Int32) = (0 : Int32)))).1) k) ?_
      refine own_step (T' := T68) (g' := (mkF m 214 #[.val (.int p0), .val (.int p1), .val (.int p2), .val (.int p3), .val .null, .val (.ref b51), .val (.ref b57), .val (.ref ob_62), .val (.ref b51), .val (.int (0 : Int32))] [(.ref ob_62)])) (fun t k => XS.aload X68.here hx rfl (hb hby at_212) rfl rfl k) ?_
      obtain ⟨cq69, kq69, qq69a, qq69b, qq69c⟩ := isOf hZ eq68 pq62_0
      obtain ⟨_, _, ⟨T69, L69, kk69, nn69⟩, -, X69, ⟨Lc69, hQ69, l69, y69, z69⟩, st69⟩ := X68.virtualBack hx (y := (⟨"com/example/tapeloom/tapeloom/Option", "label", "()Ljava/lang/String;"⟩ : MethodName)) (z := (⟨"com/example/tapeloom/tapeloom/Option", "label", "()Ljava/lang/String;"⟩ : MethodName)) hown (mvT hZ (hw _ (List.mem_of_getElem? (i := 72) rfl))) (mvT hZ (hw _ (List.mem_of_getElem? (i := 73) rfl))) (notFace_of_selects (args := #[]) (mvT hZ (hw _ (List.mem_of_getElem? (i := 75) rfl)))) (mvT hZ (hw _ (List.mem_of_getElem? (i := 75) rfl))) (mvT hZ (hw _ (List.mem_of_getElem? (i := 74) rfl))) (by decide) (backOf (W := 0) (rm14_1 l Z a0 hw [] ob_62 T62.heap n0 (Nat.le_trans Z0 K_62.1) pq62_3) hZ (hw _ (List.mem_of_getElem? (i := 76) rfl)) (hw _ (List.mem_of_getElem? (i := 32) rfl)) (by decide) (by decide)) qq69a qq69c (g := (mkF m 214 #[.val (.int p0), .val (.int p1), .val (.int p2), .val (.int p3), .val .null, .val (.ref b51), .val (.ref b57), .val (.ref ob_62), .val (.ref b51), .val (.int (0 : Int32))] [(.ref ob_62)])) rfl (by rw [hml]; rfl) (Steps.refl _) (argsL := []) (rest := []) (lenOf pd_8 rfl) rfl (by show 2 * 0 + _ ≤ _; exact Nat.le_of_eq rfl) (hb hby at_214) (fun _ _ => ⟨rfl, eq68, (by decide : 7 + 0 ≤ _), (by decide : 22 + 0 ≤ _)⟩)
      dsimp only [Pt.U, Pt.locs, Pt.cells, Pt.slots] at X69 l69 y69 z69 st69 hQ69
      rw [l69, y69, z69] at X69
      obtain ⟨rfl, N69q, eq69⟩ := hQ69
      have N69 := Fr.app N68 N69q
      refine own_step (T' := T69) (g' := (mkF m 217 #[.val (.int p0), .val (.int p1), .val (.int p2), .val (.int p3), .val .null, .val (.ref b51), .val (.ref b57), .val (.ref ob_62), .val (.ref b51), .val (.int (0 : Int32))] [.null])) (fun t k => st69.trans k) ?_
      refine own_step (T' := T69) (g' := (mkF m 220 #[.val (.int p0), .val (.int p1), .val (.int p2), .val (.int p3), .val .null, .val (.ref b51), .val (.ref b57), .val (.ref ob_62), .val (.ref b51), .val (.int (0 : Int32))] [])) (fun t k => XS.ifnonnullNo X69.here hx rfl (hb hby at_217) rfl k) ?_
      refine own_step (T' := T69) (g' := (mkF m 222 #[.val (.int p0), .val (.int p1), .val (.int p2), .val (.int p3), .val .null, .val (.ref b51), .val (.ref b57), .val (.ref ob_62), .val (.ref b51), .val (.int (0 : Int32))] [(.ref ob_62)])) (fun t k => XS.aload X69.here hx rfl (hb hby at_220) rfl rfl k) ?_
      obtain ⟨cq70, kq70, qq70a, qq70b, qq70c⟩ := isOf hZ eq69 pq62_0
      obtain ⟨_, _, ⟨T70, L70, kk70, nn70⟩, -, X70, ⟨Lc70, hQ70, l70, y70, z70⟩, st70⟩ := X69.virtualBack hx (y := (⟨"com/example/tapeloom/tapeloom/Option", "takesValue", "()Z"⟩ : MethodName)) (z := (⟨"com/example/tapeloom/tapeloom/Option", "takesValue", "()Z"⟩ : MethodName)) hown (mvT hZ (hw _ (List.mem_of_getElem? (i := 77) rfl))) (mvT hZ (hw _ (List.mem_of_getElem? (i := 78) rfl))) (notFace_of_selects (args := #[]) (mvT hZ (hw _ (List.mem_of_getElem? (i := 80) rfl)))) (mvT hZ (hw _ (List.mem_of_getElem? (i := 80) rfl))) (mvT hZ (hw _ (List.mem_of_getElem? (i := 79) rfl))) (by decide) (backOf (W := 0) (rm15 l Z a0 hw [] ob_62 T62.heap n0 (Nat.le_trans Z0 K_62.1) pq62_3) hZ (hw _ (List.mem_of_getElem? (i := 81) rfl)) (hw _ (List.mem_of_getElem? (i := 32) rfl)) (by decide) (by decide)) qq70a qq70c (g := (mkF m 222 #[.val (.int p0), .val (.int p1), .val (.int p2), .val (.int p3), .val .null, .val (.ref b51), .val (.ref b57), .val (.ref ob_62), .val (.ref b51), .val (.int (0 : Int32))] [(.ref ob_62)])) rfl (by rw [hml]; rfl) (Steps.refl _) (argsL := []) (rest := []) (lenOf pd_11 rfl) rfl (by show 2 * 0 + _ ≤ _; exact Nat.le_of_eq rfl) (hb hby at_222) (fun _ _ => ⟨rfl, eq69, (by decide : 7 + 0 ≤ _), (by decide : 22 + 0 ≤ _)⟩)
      dsimp only [Pt.U, Pt.locs, Pt.cells, Pt.slots] at X70 l70 y70 z70 st70 hQ70
      rw [l70, y70, z70] at X70
      obtain ⟨rfl, N70q, eq70⟩ := hQ70
      have N70 := Fr.app N69 N70q
      refine own_step (T' := T70) (g' := (mkF m 225 #[.val (.int p0), .val (.int p1), .val (.int p2), .val (.int p3), .val .null, .val (.ref b51), .val (.ref b57), .val (.ref ob_62), .val (.ref b51), .val (.int (0 : Int32))] [(.int (0 : Int32))])) (fun t k => st70.trans k) ?_
      refine own_step (T' := T70) (g' := (mkF m 228 #[.val (.int p0), .val (.int p1), .val (.int p2), .val (.int p3), .val .null, .val (.ref b51), .val (.ref b57), .val (.ref ob_62), .val (.ref b51), .val (.int (0 : Int32))] [])) (fun t k => XS.ifNo X70.here hx rfl (hb hby at_225) rfl ((if0 _ _).trans (teq (by decide : (0 : Int32) = (0 : Int32))).2) k) ?_
      refine own_step (T' := T70) (g' := (mkF m 230 #[.val (.int p0), .val (.int p1), .val (.int p2), .val (.int p3), .val .null, .val (.ref b51), .val (.ref b57), .val (.ref ob_62), .val (.ref b51), .val (.int (0 : Int32))] [(.ref ob_62)])) (fun t k => XS.aload X70.here hx rfl (hb hby at_228) rfl rfl k) ?_
      obtain ⟨cq71, kq71, qq71a, qq71b, qq71c⟩ := isOf hZ eq70 pq62_0
      obtain ⟨_, _, ⟨T71, L71, kk71, nn71⟩, -, X71, ⟨Lc71, hQ71, l71, y71, z71⟩, st71⟩ := X70.virtualBack hx (y := (⟨"com/example/tapeloom/tapeloom/Option", "isParameter", "()Z"⟩ : MethodName)) (z := (⟨"com/example/tapeloom/tapeloom/Option", "isParameter", "()Z"⟩ : MethodName)) hown (mvT hZ (hw _ (List.mem_of_getElem? (i := 82) rfl))) (mvT hZ (hw _ (List.mem_of_getElem? (i := 83) rfl))) (notFace_of_selects (args := #[]) (mvT hZ (hw _ (List.mem_of_getElem? (i := 85) rfl)))) (mvT hZ (hw _ (List.mem_of_getElem? (i := 85) rfl))) (mvT hZ (hw _ (List.mem_of_getElem? (i := 84) rfl))) (by decide) (backOf (W := 0) (rm16_10 l Z a0 hw [] ob_62 b51 T62.heap n0 (Nat.le_trans Z0 K_62.1) pq62_1 pq62_2) hZ (hw _ (List.mem_of_getElem? (i := 86) rfl)) (hw _ (List.mem_of_getElem? (i := 32) rfl)) (by decide) (by decide)) qq71a qq71c (g := (mkF m 230 #[.val (.int p0), .val (.int p1), .val (.int p2), .val (.int p3), .val .null, .val (.ref b51), .val (.ref b57), .val (.ref ob_62), .val (.ref b51), .val (.int (0 : Int32))] [(.ref ob_62)])) rfl (by rw [hml]; rfl) (Steps.refl _) (argsL := []) (rest := []) (lenOf pd_11 rfl) rfl (by show 2 * 0 + _ ≤ _; exact Nat.le_of_eq rfl) (hb hby at_230) (fun _ _ => ⟨rfl, eq70, (by decide : 7 + 0 ≤ _), (by decide : 22 + 0 ≤ _)⟩)
      dsimp only [Pt.U, Pt.locs, Pt.cells, Pt.slots] at X71 l71 y71 z71 st71 hQ71
      rw [l71, y71, z71] at X71
      obtain ⟨rfl, N71q, eq71⟩ := hQ71
      have N71 := Fr.app N70 N71q
      refine own_step (T' := T71) (g' := (mkF m 233 #[.val (.int p0), .val (.int p1), .val (.int p2), .val (.int p3), .val .null, .val (.ref b51), .val (.ref b57), .val (.ref ob_62), .val (.ref b51), .val (.int (0 : Int32))] [(.int (0 : Int32))])) (fun t k => st71.trans k) ?_
      refine own_step (T' := T71) (g' := (mkF m 235 #[.val (.int p0), .val (.int p1), .val (.int p2), .val (.int p3), .val .null, .val (.ref b51), .val (.ref b57), .val (.ref ob_62), .val (.ref b51), .val (.int (0 : Int32))] [(.int (0 : Int32)), (.int (0 : Int32))])) (fun t k => XS.iload X71.here hx rfl (hb hby at_233) rfl k) ?_
      refine own_step (T' := T71) (g' := (mkF m 238 #[.val (.int p0), .val (.int p1), .val (.int p2), .val (.int p3), .val .null, .val (.ref b51), .val (.ref b57), .val (.ref ob_62), .val (.ref b51), .val (.int (0 : Int32))] [])) (fun t k => XS.icmpNo X71.here hx rfl (hb hby at_235) rfl (teq (by decide : (0 : Int32) = (0 : Int32))).2 k) ?_
      refine own_step (T' := T71) (g' := (mkF m 240 #[.val (.int p0), .val (.int p1), .val (.int p2), .val (.int p3), .val .null, .val (.ref b51), .val (.ref b57), .val (.ref ob_62), .val (.ref b51), .val (.int (0 : Int32))] [(.ref ob_62)])) (fun t k => XS.aload X71.here hx rfl (hb hby at_238) rfl rfl k) ?_
      obtain ⟨cq72, kq72, qq72a, qq72b, qq72c⟩ := isOf hZ eq71 pq62_0
      obtain ⟨_, _, ⟨T72, L72, kk72, nn72⟩, -, X72, ⟨Lc72, hQ72, l72, y72, z72⟩, st72⟩ := X71.virtualBack hx (y := (⟨"com/example/tapeloom/tapeloom/Option", "name", "()Ljava/lang/String;"⟩ : MethodName)) (z := (⟨"com/example/tapeloom/tapeloom/Option", "name", "()Ljava/lang/String;"⟩ : MethodName)) hown (mvT hZ (hw _ (List.mem_of_getElem? (i := 87) rfl))) (mvT hZ (hw _ (List.mem_of_getElem? (i := 88) rfl))) (notFace_of_selects (args := #[]) (mvT hZ (hw _ (List.mem_of_getElem? (i := 90) rfl)))) (mvT hZ (hw _ (List.mem_of_getElem? (i := 90) rfl))) (mvT hZ (hw _ (List.mem_of_getElem? (i := 89) rfl))) (by decide) (backOf (W := 0) (rm17_10 l Z a0 hw [] ob_62 b51 T62.heap n0 (Nat.le_trans Z0 K_62.1) pq62_1 pq62_2) hZ (hw _ (List.mem_of_getElem? (i := 91) rfl)) (hw _ (List.mem_of_getElem? (i := 32) rfl)) (by decide) (by decide)) qq72a qq72c (g := (mkF m 240 #[.val (.int p0), .val (.int p1), .val (.int p2), .val (.int p3), .val .null, .val (.ref b51), .val (.ref b57), .val (.ref ob_62), .val (.ref b51), .val (.int (0 : Int32))] [(.ref ob_62)])) rfl (by rw [hml]; rfl) (Steps.refl _) (argsL := []) (rest := []) (lenOf pd_8 rfl) rfl (by show 2 * 0 + _ ≤ _; exact Nat.le_of_eq rfl) (hb hby at_240) (fun _ _ => ⟨rfl, eq71, (by decide : 7 + 0 ≤ _), (by decide : 22 + 0 ≤ _)⟩)
      dsimp only [Pt.U, Pt.locs, Pt.cells, Pt.slots] at X72 l72 y72 z72 st72 hQ72
      rw [l72, y72, z72] at X72
      obtain ⟨rfl, N72q, eq72⟩ := hQ72
      have N72 := Fr.app N71 N72q
      refine own_step (T' := T72) (g' := (mkF m 243 #[.val (.int p0), .val (.int p1), .val (.int p2), .val (.int p3), .val .null, .val (.ref b51), .val (.ref b57), .val (.ref ob_62), .val (.ref b51), .val (.int (0 : Int32))] [(.ref b51)])) (fun t k => st72.trans k) ?_
      refine own_step (T' := T72) (g' := (mkF m 245 #[.val (.int p0), .val (.int p1), .val (.int p2), .val (.int p3), .val .null, .val (.ref b51), .val (.ref b57), .val (.ref ob_62), .val (.ref b51), .val (.int (0 : Int32))] [(.ref b51), (.ref b51)])) (fun t k => XS.aload X72.here hx rfl (hb hby at_243) rfl rfl k) ?_
      obtain ⟨_, _, ⟨T73, L73, kk73, nn73⟩, -, X73, ⟨Lc73, hQ73, l73, y73, z73⟩, st73⟩ := Jvm.LawKit.callS X72 hx (y := (⟨"com/example/tapeloom/tapeloom/OptionFlagPinLaw", "eq", "(Ljava/lang/String;Ljava/lang/String;)Z"⟩ : MethodName)) hown (mvT hZ (hw _ (List.mem_of_getElem? (i := 53) rfl))) (mvT hZ (hw _ (List.mem_of_getElem? (i := 54) rfl))) (mvT hZ (hw _ (List.mem_of_getElem? (i := 55) rfl))) (mvT hZ (hw _ (List.mem_of_getElem? (i := 56) rfl))) (by decide) (backOf (W := 0) (rm10_0 l Z a0 hw [] b51 T62.heap n0 (Nat.le_trans Z0 K_62.1) E_b51_62) hZ (hw _ (List.mem_of_getElem? (i := 56) rfl)) (hw _ (List.mem_of_getElem? (i := 55) rfl)) (by decide) (by decide)) (g := (mkF m 245 #[.val (.int p0), .val (.int p1), .val (.int p2), .val (.int p3), .val .null, .val (.ref b51), .val (.ref b57), .val (.ref ob_62), .val (.ref b51), .val (.int (0 : Int32))] [(.ref b51), (.ref b51)])) rfl (by rw [hml]; rfl) (argsL := [(.ref b51), (.ref b51)]) (rest := []) (lenOf pd_9 rfl) rfl (by show 2 * 0 + _ ≤ _; exact Nat.le_of_eq rfl) (hb hby at_245) (fun _ _ => ⟨rfl, eq72, (by decide : 7 + 0 ≤ _), (by decide : 22 + 0 ≤ _)⟩)
      dsimp only [Pt.U, Pt.locs, Pt.cells, Pt.slots] at X73 l73 y73 z73 st73 hQ73
      rw [l73, y73, z73] at X73
      obtain ⟨rfl, N73q, eq73⟩ := hQ73
      have N73 := Fr.app N72 N73q
      refine own_step (T' := T73) (g' := (mkF m 248 #[.val (.int p0), .val (.int p1), .val (.int p2), .val (.int p3), .val .null, .val (.ref b51), .val (.ref b57), .val (.ref ob_62), .val (.ref b51), .val (.int (0 : Int32))] [(.int (1 : Int32))])) st73 ?_
      refine own_step (T' := T73) (g' := (mkF m 251 #[.val (.int p0), .val (.int p1), .val (.int p2), .val (.int p3), .val .null, .val (.ref b51), .val (.ref b57), .val (.ref ob_62), .val (.ref b51), .val (.int (0 : Int32))] [])) (fun t k => XS.ifNo X73.here hx rfl (hb hby at_248) rfl ((if0 _ _).trans (feq (by decide : ¬ ((1 : Int32) = (0 : Int32)))).1) k) ?_
      refine own_step (T' := T73) (g' := (mkF m 252 #[.val (.int p0), .val (.int p1), .val (.int p2), .val (.int p3), .val .null, .val (.ref b51), .val (.ref b57), .val (.ref ob_62), .val (.ref b51), .val (.int (0 : Int32))] [(.int (1 : Int32))])) (fun t k => XS.iconst X73.here hx rfl (hb hby at_251) k) ?_
      refine own_step (T' := T73) (g' := (mkF m 256 #[.val (.int p0), .val (.int p1), .val (.int p2), .val (.int p3), .val .null, .val (.ref b51), .val (.ref b57), .val (.ref ob_62), .val (.ref b51), .val (.int (0 : Int32))] [(.int (1 : Int32))])) (fun t k => XS.goto X73.here hx rfl (pc0 := 252) (pc' := 256) rfl (hb hby at_252) (by decide) (by decide) k) ?_
      refine own_retN X73 hx hlk (t := .boolean) (w := (1 : Int32)) Bd.returns (by simp) (hb hby at_256) rfl (by decide) (by decide) ?_
      exact ⟨rfl, N73⟩
    · refine own_step (T' := s₁) (g' := (mkF m 49 #[.val (.int p0), .val (.int p1), .val (.int p2), .val (.int p3), .val .null, .unset, .unset, .unset, .unset, .unset] [])) (fun t k => XS.ifNo X0.here hx rfl (hb hby at_46) rfl ((if0 _ _).trans (feq hc46_50).1) k) ?_
      refine own_step (T' := s₁) (g' := (mkF m 50 #[.val (.int p0), .val (.int p1), .val (.int p2), .val (.int p3), .val .null, .unset, .unset, .unset, .unset, .unset] [.null])) (fun t k => XS.aconstNull X0.here hx rfl (hb hby at_49) k) ?_
      refine own_step (T' := s₁) (g' := (mkF m 96 #[.val (.int p0), .val (.int p1), .val (.int p2), .val (.int p3), .val .null, .unset, .unset, .unset, .unset, .unset] [.null])) (fun t k => XS.goto X0.here hx rfl (pc0 := 50) (pc' := 96) rfl (hb hby at_50) (by decide) (by decide) k) ?_
      refine own_step (T' := s₁) (g' := (mkF m 98 #[.val (.int p0), .val (.int p1), .val (.int p2), .val (.int p3), .val .null, .val .null, .unset, .unset, .unset, .unset] [])) (fun t k => XS.astore X0.here hx rfl (hb hby at_96) rfl rfl (l' := #[.val (.int p0), .val (.int p1), .val (.int p2), .val (.int p3), .val .null, .val .null, .unset, .unset, .unset, .unset]) rfl k) ?_
      obtain ⟨T75, h75, X75, e75, E75, A75, D75, -, st75⟩ := newO X0 hx hZ hown (hw _ (List.mem_of_getElem? (i := 0) rfl)) (hw _ (List.mem_of_getElem? (i := 1) rfl)) (hw _ (List.mem_of_getElem? (i := 2) rfl)) e0 (g := (mkF m 98 #[.val (.int p0), .val (.int p1), .val (.int p2), .val (.int p3), .val .null, .val .null, .unset, .unset, .unset, .unset] [])) rfl (hb hby at_98) (by decide) (by decide)
      obtain ⟨b75, g75⟩ : ∃ z, z = h0.size := ⟨_, rfl⟩
      rw [← g75] at A75 D75 st75
      have S_COMPACT_STRINGS_75 : Sta Z h75 "java/lang/String" "COMPACT_STRINGS" "Z" (.int G1) := S_COMPACT_STRINGS.ext E75
      have K_75 : Keep h0 h75 [] := K0.ext E75
      have sz_b75 : h0.size ≤ b75 := Nat.le_trans K0.1 (Nat.le_of_eq g75.symm)
      have g_b75 : n0 ≤ b75 := Nat.le_trans Z0 sz_b75
      have E_b75 : Exa Z h75 b75 "java/lang/String" := A75
      have F_coder_b75 : Fld Z h75 b75 "java/lang/String" "coder" "B" (.int (0 : Int32)) := D75 (Or.inr (hw _ (List.mem_of_getElem? (i := 27) rfl))) (ty := .byte) (by decide)
      have F_value_b75 : Fld Z h75 b75 "java/lang/String" "value" "[B" .null := D75 (Or.inr (hw _ (List.mem_of_getElem? (i := 29) rfl))) (ty := (.array .byte)) (by decide)
      refine own_step (T' := T75) (g' := (mkF m 101 #[.val (.int p0), .val (.int p1), .val (.int p2), .val (.int p3), .val .null, .val .null, .unset, .unset, .unset, .unset] [(.ref b75)])) st75 ?_
      refine own_step (T' := T75) (g' := (mkF m 102 #[.val (.int p0), .val (.int p1), .val (.int p2), .val (.int p3), .val .null, .val .null, .unset, .unset, .unset, .unset] [(.ref b75), (.ref b75)])) (fun t k => XS.dup X75.here hx rfl (hb hby at_101) rfl rfl k) ?_
      refine own_step (T' := T75) (g' := (mkF m 103 #[.val (.int p0), .val (.int p1), .val (.int p2), .val (.int p3), .val .null, .val .null, .unset, .unset, .unset, .unset] [(.int (2 : Int32)), (.ref b75), (.ref b75)])) (fun t k => XS.iconst X75.here hx rfl (hb hby at_102) k) ?_
      obtain ⟨T76, h76, k76, X76, e76, E76, A76, st76⟩ := newP X75 hx hZ (hw _ (List.mem_of_getElem? (i := 3) rfl)) e75 (g := (mkF m 103 #[.val (.int p0), .val (.int p1), .val (.int p2), .val (.int p3), .val .null, .val .null, .unset, .unset, .unset, .unset] [(.int (2 : Int32)), (.ref b75), (.ref b75)])) rfl (hb hby at_103) rfl (by decide) (cap := 2) (by decide) (by decide) (by decide) (by decide)
      obtain ⟨b76, g76⟩ : ∃ z, z = h75.size := ⟨_, rfl⟩
      rw [← g76] at A76 st76
      have S_COMPACT_STRINGS_76 : Sta Z h76 "java/lang/String" "COMPACT_STRINGS" "Z" (.int G1) := S_COMPACT_STRINGS_75.ext E76
      have E_b75_76 : Exa Z h76 b75 "java/lang/String" := E_b75.ext E76
      have F_coder_b75_76 : Fld Z h76 b75 "java/lang/String" "coder" "B" (.int (0 : Int32)) := F_coder_b75.ext E76
      have F_value_b75_76 : Fld Z h76 b75 "java/lang/String" "value" "[B" .null := F_value_b75.ext E76
      have K_76 : Keep h0 h76 [] := K_75.ext E76
      have sz_b76 : h0.size ≤ b76 := Nat.le_trans K_75.1 (Nat.le_of_eq g76.symm)
      have g_b76 : n0 ≤ b76 := Nat.le_trans Z0 sz_b76
      have ne_b75_b76 : b75 ≠ b76 := Nat.ne_of_lt (Nat.lt_of_lt_of_le E_b75.lt (Nat.le_of_eq g76.symm))
      have V_b76 : Arv Z h76 b76 k76 .char (2 : Int32) [(.int (0 : Int32)), (.int (0 : Int32))] (.int (0 : Int32)) := (Arv.new A76 (by decide)).pad (pad_rep [] (.int (0 : Int32)) 2)
      refine own_step (T' := T76) (g' := (mkF m 105 #[.val (.int p0), .val (.int p1), .val (.int p2), .val (.int p3), .val .null, .val .null, .unset, .unset, .unset, .unset] [(.ref b76), (.ref b75), (.ref b75)])) st76 ?_
      refine own_step (T' := T76) (g' := (mkF m 106 #[.val (.int p0), .val (.int p1), .val (.int p2), .val (.int p3), .val .null, .val .null, .unset, .unset, .unset, .unset] [(.ref b76), (.ref b76), (.ref b75), (.ref b75)])) (fun t k => XS.dup X76.here hx rfl (hb hby at_105) rfl rfl k) ?_
      refine own_step (T' := T76) (g' := (mkF m 107 #[.val (.int p0), .val (.int p1), .val (.int p2), .val (.int p3), .val .null, .val .null, .unset, .unset, .unset, .unset] [(.int (0 : Int32)), (.ref b76), (.ref b76), (.ref b75), (.ref b75)])) (fun t k => XS.iconst X76.here hx rfl (hb hby at_106) k) ?_
      refine own_step (T' := T76) (g' := (mkF m 108 #[.val (.int p0), .val (.int p1), .val (.int p2), .val (.int p3), .val .null, .val .null, .unset, .unset, .unset, .unset] [(.int p3), (.int (0 : Int32)), (.ref b76), (.ref b76), (.ref b75), (.ref b75)])) (fun t k => XS.iloadN X76.here hx rfl (hb hby at_107) rfl k) ?_
      refine own_step (T' := T76) (g' := (mkF m 111 #[.val (.int p0), .val (.int p1), .val (.int p2), .val (.int p3), .val .null, .val .null, .unset, .unset, .unset, .unset] [(.int (255 : Int32)), (.int p3), (.int (0 : Int32)), (.ref b76), (.ref b76), (.ref b75), (.ref b75)])) (fun t k => XS.sipush X76.here hx rfl (hb hby at_108) k) ?_
      refine own_step (T' := T76) (g' := (mkF m 112 #[.val (.int p0), .val (.int p1), .val (.int p2), .val (.int p3), .val .null, .val .null, .unset, .unset, .unset, .unset] [(.int (p3 &&& (255 : Int32))), (.int (0 : Int32)), (.ref b76), (.ref b76), (.ref b75), (.ref b75)])) (fun t k => XS.iand X76.here hx rfl (hb hby at_111) rfl k) ?_
      refine own_step (T' := T76) (g' := (mkF m 113 #[.val (.int p0), .val (.int p1), .val (.int p2), .val (.int p3), .val .null, .val .null, .unset, .unset, .unset, .unset] [(.int (p3 &&& (255 : Int32)).toUInt32.toUInt16.toUInt32.toInt32), (.int (0 : Int32)), (.ref b76), (.ref b76), (.ref b75), (.ref b75)])) (fun t k => XS.i2c X76.here hx rfl (hb hby at_112) rfl k) ?_
      obtain ⟨cl77, Ar77, q77, Sz77, Nn77, Hh77, Gg77⟩ := id V_b76
      have hin77 : ¬ ((0 : Int32) < 0 ∨ cl77.slots.size ≤ ((0 : Int32)).toNatClampNeg) := inb_of Sz77 ⟨by decide, by decide⟩
      obtain ⟨T77, h77, X77, e77, W77, st77⟩ := stC X76 hx hZ e76 Ar77 (j := (0 : Int32)) hin77 (g := (mkF m 113 #[.val (.int p0), .val (.int p1), .val (.int p2), .val (.int p3), .val .null, .val .null, .unset, .unset, .unset, .unset] [(.int (p3 &&& (255 : Int32)).toUInt32.toUInt16.toUInt32.toInt32), (.int (0 : Int32)), (.ref b76), (.ref b76), (.ref b75), (.ref b75)])) rfl rfl (hb hby at_113)
      have S_COMPACT_STRINGS_77 : Sta Z h77 "java/lang/String" "COMPACT_STRINGS" "Z" (.int G1) := S_COMPACT_STRINGS_76.wr W77
      have E_b75_77 : Exa Z h77 b75 "java/lang/String" := E_b75_76.wr W77
      have F_coder_b75_77 : Fld Z h77 b75 "java/lang/String" "coder" "B" (.int (0 : Int32)) := F_coder_b75_76.other W77 (Or.inl ne_b75_b76)
      have F_value_b75_77 : Fld Z h77 b75 "java/lang/String" "value" "[B" .null := F_value_b75_76.other W77 (Or.inl ne_b75_b76)
      have K_77 : Keep h0 h77 [] := K_76.wr W77 (Or.inr sz_b76)
      have N77 := Fr.snoc X77 N0 g_b76
      obtain ⟨ch77, hch77⟩ : ∃ z, z = (nar .char (p3 &&& (255 : Int32)).toUInt32.toUInt16.toUInt32.toInt32) := ⟨_, rfl⟩
      have bch77 : ¬ ch77 < 0 ∧ ¬ (255 : Int32) < ch77 := by rw [hch77]; exact own_c255 _
      have V_b76_77 : Arv Z h77 b76 k76 .char (2 : Int32) [(.int ch77), (.int (0 : Int32))] (.int (0 : Int32)) := by rw [hch77]; exact Arv.set Ar77 q77 Sz77 Nn77 Hh77 Gg77 (fits_nar_char _) W77 0 rfl (Nat.le_of_ble_eq_true rfl)
      refine own_step (T' := T77) (g' := (mkF m 114 #[.val (.int p0), .val (.int p1), .val (.int p2), .val (.int p3), .val .null, .val .null, .unset, .unset, .unset, .unset] [(.ref b76), (.ref b75), (.ref b75)])) st77 ?_
      refine own_step (T' := T77) (g' := (mkF m 115 #[.val (.int p0), .val (.int p1), .val (.int p2), .val (.int p3), .val .null, .val .null, .unset, .unset, .unset, .unset] [(.ref b76), (.ref b76), (.ref b75), (.ref b75)])) (fun t k => XS.dup X77.here hx rfl (hb hby at_114) rfl rfl k) ?_
      refine own_step (T' := T77) (g' := (mkF m 116 #[.val (.int p0), .val (.int p1), .val (.int p2), .val (.int p3), .val .null, .val .null, .unset, .unset, .unset, .unset] [(.int (1 : Int32)), (.ref b76), (.ref b76), (.ref b75), (.ref b75)])) (fun t k => XS.iconst X77.here hx rfl (hb hby at_115) k) ?_
      refine own_step (T' := T77) (g' := (mkF m 117 #[.val (.int p0), .val (.int p1), .val (.int p2), .val (.int p3), .val .null, .val .null, .unset, .unset, .unset, .unset] [(.int p3), (.int (1 : Int32)), (.ref b76), (.ref b76), (.ref b75), (.ref b75)])) (fun t k => XS.iloadN X77.here hx rfl (hb hby at_116) rfl k) ?_
      refine own_step (T' := T77) (g' := (mkF m 119 #[.val (.int p0), .val (.int p1), .val (.int p2), .val (.int p3), .val .null, .val .null, .unset, .unset, .unset, .unset] [(.int (8 : Int32)), (.int p3), (.int (1 : Int32)), (.ref b76), (.ref b76), (.ref b75), (.ref b75)])) (fun t k => XS.bipush X77.here hx rfl (hb hby at_117) k) ?_
      refine own_step (T' := T77) (g' := (mkF m 120 #[.val (.int p0), .val (.int p1), .val (.int p2), .val (.int p3), .val .null, .val .null, .unset, .unset, .unset, .unset] [(.int (p3.toUInt32 >>> ((8 : Int32) &&& 31).toUInt32).toInt32), (.int (1 : Int32)), (.ref b76), (.ref b76), (.ref b75), (.ref b75)])) (fun t k => XS.iushr X77.here hx rfl (hb hby at_119) rfl k) ?_
      refine own_step (T' := T77) (g' := (mkF m 123 #[.val (.int p0), .val (.int p1), .val (.int p2), .val (.int p3), .val .null, .val .null, .unset, .unset, .unset, .unset] [(.int (255 : Int32)), (.int (p3.toUInt32 >>> ((8 : Int32) &&& 31).toUInt32).toInt32), (.int (1 : Int32)), (.ref b76), (.ref b76), (.ref b75), (.ref b75)])) (fun t k => XS.sipush X77.here hx rfl (hb hby at_120) k) ?_
      refine own_step (T' := T77) (g' := (mkF m 124 #[.val (.int p0), .val (.int p1), .val (.int p2), .val (.int p3), .val .null, .val .null, .unset, .unset, .unset, .unset] [(.int ((p3.toUInt32 >>> ((8 : Int32) &&& 31).toUInt32).toInt32 &&& (255 : Int32))), (.int (1 : Int32)), (.ref b76), (.ref b76), (.ref b75), (.ref b75)])) (fun t k => XS.iand X77.here hx rfl (hb hby at_123) rfl k) ?_
      refine own_step (T' := T77) (g' := (mkF m 125 #[.val (.int p0), .val (.int p1), .val (.int p2), .val (.int p3), .val .null, .val .null, .unset, .unset, .unset, .unset] [(.int ((p3.toUInt32 >>> ((8 : Int32) &&& 31).toUInt32).toInt32 &&& (255 : Int32)).toUInt32.toUInt16.toUInt32.toInt32), (.int (1 : Int32)), (.ref b76), (.ref b76), (.ref b75), (.ref b75)])) (fun t k => XS.i2c X77.here hx rfl (hb hby at_124) rfl k) ?_
      obtain ⟨cl78, Ar78, q78, Sz78, Nn78, Hh78, Gg78⟩ := id V_b76_77
      have hin78 : ¬ ((1 : Int32) < 0 ∨ cl78.slots.size ≤ ((1 : Int32)).toNatClampNeg) := inb_of Sz78 ⟨by decide, by decide⟩
      obtain ⟨T78, h78, X78, e78, W78, st78⟩ := stC X77 hx hZ e77 Ar78 (j := (1 : Int32)) hin78 (g := (mkF m 125 #[.val (.int p0), .val (.int p1), .val (.int p2), .val (.int p3), .val .null, .val .null, .unset, .unset, .unset, .unset] [(.int ((p3.toUInt32 >>> ((8 : Int32) &&& 31).toUInt32).toInt32 &&& (255 : Int32)).toUInt32.toUInt16.toUInt32.toInt32), (.int (1 : Int32)), (.ref b76), (.ref b76), (.ref b75), (.ref b75)])) rfl rfl (hb hby at_125)
      have S_COMPACT_STRINGS_78 : Sta Z h78 "java/lang/String" "COMPACT_STRINGS" "Z" (.int G1) := S_COMPACT_STRINGS_77.wr W78
      have E_b75_78 : Exa Z h78 b75 "java/lang/String" := E_b75_77.wr W78
      have F_coder_b75_78 : Fld Z h78 b75 "java/lang/String" "coder" "B" (.int (0 : Int32)) := F_coder_b75_77.other W78 (Or.inl ne_b75_b76)
      have F_value_b75_78 : Fld Z h78 b75 "java/lang/String" "value" "[B" .null := F_value_b75_77.other W78 (Or.inl ne_b75_b76)
      have K_78 : Keep h0 h78 [] := K_77.wr W78 (Or.inr sz_b76)
      have N78 := Fr.snoc X78 N77 g_b76
      obtain ⟨ch78, hch78⟩ : ∃ z, z = (nar .char ((p3.toUInt32 >>> ((8 : Int32) &&& 31).toUInt32).toInt32 &&& (255 : Int32)).toUInt32.toUInt16.toUInt32.toInt32) := ⟨_, rfl⟩
      have bch78 : ¬ ch78 < 0 ∧ ¬ (255 : Int32) < ch78 := by rw [hch78]; exact own_c255 _
      have V_b76_78 : Arv Z h78 b76 k76 .char (2 : Int32) [(.int ch77), (.int ch78)] (.int (0 : Int32)) := by rw [hch78]; exact Arv.set Ar78 q78 Sz78 Nn78 Hh78 Gg78 (fits_nar_char _) W78 1 rfl (Nat.le_of_ble_eq_true rfl)
      refine own_step (T' := T78) (g' := (mkF m 126 #[.val (.int p0), .val (.int p1), .val (.int p2), .val (.int p3), .val .null, .val .null, .unset, .unset, .unset, .unset] [(.ref b76), (.ref b75), (.ref b75)])) st78 ?_
      have hp79 : ∀ c ∈ ([ch77, ch78] : List Int32), ¬ c < 0 ∧ ¬ (255 : Int32) < c := by
        intro c hc
        simp only [List.mem_cons, List.not_mem_nil, or_false] at hc
        rcases hc with rfl | rfl
        · exact bch77
        · exact bch78
      obtain ⟨_, _, ⟨T79, L79, kk79, nn79⟩, -, X79, ⟨Lc79, hQ79, l79, y79, z79⟩, st79⟩ := X78.specialBack hx (y := (⟨"java/lang/String", "<init>", "([C)V"⟩ : MethodName)) rfl hown (mvT hZ (hw _ (List.mem_of_getElem? (i := 4) rfl))) (mvT hZ (hw _ (List.mem_of_getElem? (i := 5) rfl))) (mvT hZ (hw _ (List.mem_of_getElem? (i := 6) rfl))) (by decide) (StrChars.Road.backV (W := 1) hZ hws (kI := 4) (hw _ (List.mem_of_getElem? (i := 1) rfl)) (cs := ([ch77, ch78] : List Int32)) (bs := ([ch77, ch78] : List Int32).map (fun c => c.toInt8.toInt32)) (n := 2) g_b75 (Nat.le_trans Z0 K_78.1) E_b75_78 F_value_b75_78 F_coder_b75_78 V_b76_78 S_COMPACT_STRINGS_78 P5 rfl rfl (by decide) (by decide) hp79 rfl (by decide) (by decide)) (g := (mkF m 126 #[.val (.int p0), .val (.int p1), .val (.int p2), .val (.int p3), .val .null, .val .null, .unset, .unset, .unset, .unset] [(.ref b76), (.ref b75), (.ref b75)])) rfl (by rw [hml]; rfl) (Steps.refl _) (a := b75) (argsL := [(.ref b76)]) (rest := [(.ref b75)]) (lenOf pd_0 rfl) rfl (by show 2 * 0 + _ ≤ _; exact Nat.le_of_eq rfl) (hb hby at_126) (fun _ _ => ⟨rfl, e78, (by decide : 2 + 1 ≤ _), (by decide : 6 + 2 ≤ _)⟩)
      dsimp only [Pt.U, Pt.locs, Pt.cells, Pt.slots] at X79 l79 y79 z79 st79 hQ79
      rw [l79, y79, z79] at X79
      obtain ⟨rfl, N79q, Kq79, pe79, pc79, t79, kb79, gt79, st79', nt79, pv79, pa79⟩ := hQ79
      have N79 := Fr.app N78 N79q
      have S_COMPACT_STRINGS_79 : Sta Z T79.heap "java/lang/String" "COMPACT_STRINGS" "Z" (.int G1) := own_sta_keep S_COMPACT_STRINGS_78 Kq79 (allS E_b75_78.nostat all0)
      have E_b75_79 : Exa Z T79.heap b75 "java/lang/String" := E_b75_78.keep Kq79
      have V_b76_79 : Arv Z T79.heap b76 k76 .char (2 : Int32) [(.int ch77), (.int ch78)] (.int (0 : Int32)) := V_b76_78.keep Kq79 (ninS (Ne.symm ne_b75_b76) nin0)
      have K_79 : Keep h0 T79.heap [] := K_78.trans Kq79 (allS (Or.inr sz_b75) all0)
      have sz_t79 : h0.size ≤ t79 := Nat.le_trans K_78.1 st79'
      have ne_b75_t79 : b75 ≠ t79 := Nat.ne_of_lt (Nat.lt_of_lt_of_le E_b75_78.lt st79')
      have ne_b76_t79 : b76 ≠ t79 := Nat.ne_of_lt (Nat.lt_of_lt_of_le V_b76_78.lt st79')
      refine own_step (T' := T79) (g' := (mkF m 129 #[.val (.int p0), .val (.int p1), .val (.int p2), .val (.int p3), .val .null, .val .null, .unset, .unset, .unset, .unset] [(.ref b75)])) (fun t k => st79.trans k) ?_
      refine own_step (T' := T79) (g' := (mkF m 131 #[.val (.int p0), .val (.int p1), .val (.int p2), .val (.int p3), .val .null, .val .null, .val (.ref b75), .unset, .unset, .unset] [])) (fun t k => XS.astore X79.here hx rfl (hb hby at_129) rfl rfl (l' := #[.val (.int p0), .val (.int p1), .val (.int p2), .val (.int p3), .val .null, .val .null, .val (.ref b75), .unset, .unset, .unset]) rfl k) ?_
      refine own_step (T' := T79) (g' := (mkF m 133 #[.val (.int p0), .val (.int p1), .val (.int p2), .val (.int p3), .val .null, .val .null, .val (.ref b75), .unset, .unset, .unset] [.null])) (fun t k => XS.aload X79.here hx rfl (hb hby at_131) rfl rfl k) ?_
      refine own_step (T' := T79) (g' := (mkF m 135 #[.val (.int p0), .val (.int p1), .val (.int p2), .val (.int p3), .val .null, .val .null, .val (.ref b75), .unset, .unset, .unset] [.null, .null])) (fun t k => XS.aload X79.here hx rfl (hb hby at_133) rfl rfl k) ?_
      refine own_step (T' := T79) (g' := (mkF m 137 #[.val (.int p0), .val (.int p1), .val (.int p2), .val (.int p3), .val .null, .val .null, .val (.ref b75), .unset, .unset, .unset] [(.ref b75), .null, .null])) (fun t k => XS.aload X79.here hx rfl (hb hby at_135) rfl rfl k) ?_
      obtain ⟨_, _, ⟨T80, L80, kk80, nn80⟩, -, X80, ⟨Lc80, hQ80, l80, y80, z80⟩, st80⟩ := Jvm.LawKit.callS X79 hx (y := (⟨"com/example/tapeloom/tapeloom/Option", "flag", "(Ljava/lang/String;Ljava/lang/String;Ljava/lang/String;)Lcom/example/tapeloom/tapeloom/Option;"⟩ : MethodName)) hown (mvT hZ (hw _ (List.mem_of_getElem? (i := 30) rfl))) (mvT hZ (hw _ (List.mem_of_getElem? (i := 31) rfl))) (mvT hZ (hw _ (List.mem_of_getElem? (i := 32) rfl))) (mvT hZ (hw _ (List.mem_of_getElem? (i := 33) rfl))) (by decide) (backOf (W := 0) (rm7_11 l Z a0 hw [] b75 T79.heap n0 (Nat.le_trans Z0 K_79.1) ) hZ (hw _ (List.mem_of_getElem? (i := 33) rfl)) (hw _ (List.mem_of_getElem? (i := 32) rfl)) (by decide) (by decide)) (g := (mkF m 137 #[.val (.int p0), .val (.int p1), .val (.int p2), .val (.int p3), .val .null, .val .null, .val (.ref b75), .unset, .unset, .unset] [(.ref b75), .null, .null])) rfl (by rw [hml]; rfl) (argsL := [.null, .null, (.ref b75)]) (rest := []) (lenOf pd_6 rfl) rfl (by show 2 * 0 + _ ≤ _; exact Nat.le_of_eq rfl) (hb hby at_137) (fun _ _ => ⟨rfl, rfl, (by decide : 3 + 1 ≤ _), (by decide : 8 + 4 ≤ _)⟩)
      dsimp only [Pt.U, Pt.locs, Pt.cells, Pt.slots] at X80 l80 y80 z80 st80 hQ80
      rw [l80, y80, z80] at X80
      obtain ⟨ob_80, rfl, N80q, Kq80, pq80_0, pq80_1, pq80_2, pq80_3, pq80_4, pq80_5, pq80_6⟩ := hQ80
      have N80 := Fr.app N79 N80q
      have S_COMPACT_STRINGS_80 : Sta Z T80.heap "java/lang/String" "COMPACT_STRINGS" "Z" (.int G1) := own_sta_keep S_COMPACT_STRINGS_79 Kq80 all0
      have E_b75_80 : Exa Z T80.heap b75 "java/lang/String" := E_b75_79.keep Kq80
      have V_b76_80 : Arv Z T80.heap b76 k76 .char (2 : Int32) [(.int ch77), (.int ch78)] (.int (0 : Int32)) := V_b76_79.keep Kq80 nin0
      have F_coder_b75_80 : Fld Z T80.heap b75 "java/lang/String" "coder" "B" (.int (0 : Int32)) := pc79.keep Kq80 nin0
      have F_value_b75_80 : Fld Z T80.heap b75 "java/lang/String" "value" "[B" (.ref t79) := pv79.keep Kq80 nin0
      have V_t79_80 : Arv Z T80.heap t79 kb79 .byte (2 : Int32) ((([ch77, ch78] : List Int32).map (fun c => c.toInt8.toInt32)).map Value.int) (.int 0) := pa79.keep Kq80 nin0
      have K_80 : Keep h0 T80.heap [] := K_79.trans Kq80 all0
      have sz_ob_80 : h0.size ≤ ob_80 := Nat.le_trans K_79.1 pq80_6
      have ne_b75_ob_80 : b75 ≠ ob_80 := Nat.ne_of_lt (Nat.lt_of_lt_of_le E_b75_79.lt pq80_6)
      have ne_b76_ob_80 : b76 ≠ ob_80 := Nat.ne_of_lt (Nat.lt_of_lt_of_le V_b76_79.lt pq80_6)
      have ne_t79_ob_80 : t79 ≠ ob_80 := Nat.ne_of_lt (Nat.lt_of_lt_of_le pa79.lt pq80_6)
      refine own_step (T' := T80) (g' := (mkF m 140 #[.val (.int p0), .val (.int p1), .val (.int p2), .val (.int p3), .val .null, .val .null, .val (.ref b75), .unset, .unset, .unset] [(.ref ob_80)])) st80 ?_
      refine own_step (T' := T80) (g' := (mkF m 142 #[.val (.int p0), .val (.int p1), .val (.int p2), .val (.int p3), .val .null, .val .null, .val (.ref b75), .val (.ref ob_80), .unset, .unset] [])) (fun t k => XS.astore X80.here hx rfl (hb hby at_140) rfl rfl (l' := #[.val (.int p0), .val (.int p1), .val (.int p2), .val (.int p3), .val .null, .val .null, .val (.ref b75), .val (.ref ob_80), .unset, .unset]) rfl k) ?_
      refine own_step (T' := T80) (g' := (mkF m 144 #[.val (.int p0), .val (.int p1), .val (.int p2), .val (.int p3), .val .null, .val .null, .val (.ref b75), .val (.ref ob_80), .unset, .unset] [.null])) (fun t k => XS.aload X80.here hx rfl (hb hby at_142) rfl rfl k) ?_
      refine own_step (T' := T80) (g' := (mkF m 147 #[.val (.int p0), .val (.int p1), .val (.int p2), .val (.int p3), .val .null, .val .null, .val (.ref b75), .val (.ref ob_80), .unset, .unset] [])) (fun t k => XS.ifnonnullNo X80.here hx rfl (hb hby at_144) rfl k) ?_
      refine own_step (T' := T80) (g' := (mkF m 149 #[.val (.int p0), .val (.int p1), .val (.int p2), .val (.int p3), .val .null, .val .null, .val (.ref b75), .val (.ref ob_80), .unset, .unset] [.null])) (fun t k => XS.aload X80.here hx rfl (hb hby at_147) rfl rfl k) ?_
      refine own_step (T' := T80) (g' := (mkF m 154 #[.val (.int p0), .val (.int p1), .val (.int p2), .val (.int p3), .val .null, .val .null, .val (.ref b75), .val (.ref ob_80), .unset, .unset] [.null])) (fun t k => XS.goto X80.here hx rfl (pc0 := 149) (pc' := 154) rfl (hb hby at_149) (by decide) (by decide) k) ?_
      refine own_step (T' := T80) (g' := (mkF m 156 #[.val (.int p0), .val (.int p1), .val (.int p2), .val (.int p3), .val .null, .val .null, .val (.ref b75), .val (.ref ob_80), .val .null, .unset] [])) (fun t k => XS.astore X80.here hx rfl (hb hby at_154) rfl rfl (l' := #[.val (.int p0), .val (.int p1), .val (.int p2), .val (.int p3), .val .null, .val .null, .val (.ref b75), .val (.ref ob_80), .val .null, .unset]) rfl k) ?_
      refine own_step (T' := T80) (g' := (mkF m 158 #[.val (.int p0), .val (.int p1), .val (.int p2), .val (.int p3), .val .null, .val .null, .val (.ref b75), .val (.ref ob_80), .val .null, .unset] [.null])) (fun t k => XS.aload X80.here hx rfl (hb hby at_156) rfl rfl k) ?_
      refine own_step (T' := T80) (g' := (mkF m 161 #[.val (.int p0), .val (.int p1), .val (.int p2), .val (.int p3), .val .null, .val .null, .val (.ref b75), .val (.ref ob_80), .val .null, .unset] [])) (fun t k => XS.ifnonnullNo X80.here hx rfl (hb hby at_158) rfl k) ?_
      refine own_step (T' := T80) (g' := (mkF m 163 #[.val (.int p0), .val (.int p1), .val (.int p2), .val (.int p3), .val .null, .val .null, .val (.ref b75), .val (.ref ob_80), .val .null, .unset] [.null])) (fun t k => XS.aload X80.here hx rfl (hb hby at_161) rfl rfl k) ?_
      refine own_step (T' := T80) (g' := (mkF m 166 #[.val (.int p0), .val (.int p1), .val (.int p2), .val (.int p3), .val .null, .val .null, .val (.ref b75), .val (.ref ob_80), .val .null, .unset] [])) (fun t k => XS.ifnonnullNo X80.here hx rfl (hb hby at_163) rfl k) ?_
      refine own_step (T' := T80) (g' := (mkF m 167 #[.val (.int p0), .val (.int p1), .val (.int p2), .val (.int p3), .val .null, .val .null, .val (.ref b75), .val (.ref ob_80), .val .null, .unset] [(.int (1 : Int32))])) (fun t k => XS.iconst X80.here hx rfl (hb hby at_166) k) ?_
      refine own_step (T' := T80) (g' := (mkF m 171 #[.val (.int p0), .val (.int p1), .val (.int p2), .val (.int p3), .val .null, .val .null, .val (.ref b75), .val (.ref ob_80), .val .null, .unset] [(.int (1 : Int32))])) (fun t k => XS.goto X80.here hx rfl (pc0 := 167) (pc' := 171) rfl (hb hby at_167) (by decide) (by decide) k) ?_
      refine own_step (T' := T80) (g' := (mkF m 173 #[.val (.int p0), .val (.int p1), .val (.int p2), .val (.int p3), .val .null, .val .null, .val (.ref b75), .val (.ref ob_80), .val .null, .val (.int (1 : Int32))] [])) (fun t k => XS.istore X80.here hx rfl (hb hby at_171) rfl (l' := #[.val (.int p0), .val (.int p1), .val (.int p2), .val (.int p3), .val .null, .val .null, .val (.ref b75), .val (.ref ob_80), .val .null, .val (.int (1 : Int32))]) rfl k) ?_
      refine own_step (T' := T80) (g' := (mkF m 175 #[.val (.int p0), .val (.int p1), .val (.int p2), .val (.int p3), .val .null, .val .null, .val (.ref b75), .val (.ref ob_80), .val .null, .val (.int (1 : Int32))] [(.ref ob_80)])) (fun t k => XS.aload X80.here hx rfl (hb hby at_173) rfl rfl k) ?_
      obtain ⟨cq81, kq81, qq81a, qq81b, qq81c⟩ := isOf hZ rfl pq80_0
      obtain ⟨_, _, ⟨T81, L81, kk81, nn81⟩, -, X81, ⟨Lc81, hQ81, l81, y81, z81⟩, st81⟩ := X80.virtualBack hx (y := (⟨"com/example/tapeloom/tapeloom/Option", "shortName", "()Ljava/lang/String;"⟩ : MethodName)) (z := (⟨"com/example/tapeloom/tapeloom/Option", "shortName", "()Ljava/lang/String;"⟩ : MethodName)) hown (mvT hZ (hw _ (List.mem_of_getElem? (i := 48) rfl))) (mvT hZ (hw _ (List.mem_of_getElem? (i := 49) rfl))) (notFace_of_selects (args := #[]) (mvT hZ (hw _ (List.mem_of_getElem? (i := 51) rfl)))) (mvT hZ (hw _ (List.mem_of_getElem? (i := 51) rfl))) (mvT hZ (hw _ (List.mem_of_getElem? (i := 50) rfl))) (by decide) (backOf (W := 0) (rm9_1 l Z a0 hw [] ob_80 T80.heap n0 (Nat.le_trans Z0 K_80.1) pq80_1) hZ (hw _ (List.mem_of_getElem? (i := 52) rfl)) (hw _ (List.mem_of_getElem? (i := 32) rfl)) (by decide) (by decide)) qq81a qq81c (g := (mkF m 175 #[.val (.int p0), .val (.int p1), .val (.int p2), .val (.int p3), .val .null, .val .null, .val (.ref b75), .val (.ref ob_80), .val .null, .val (.int (1 : Int32))] [(.ref ob_80)])) rfl (by rw [hml]; rfl) (Steps.refl _) (argsL := []) (rest := []) (lenOf pd_8 rfl) rfl (by show 2 * 0 + _ ≤ _; exact Nat.le_of_eq rfl) (hb hby at_175) (fun _ _ => ⟨rfl, rfl, (by decide : 4 + 0 ≤ _), (by decide : 12 + 0 ≤ _)⟩)
      dsimp only [Pt.U, Pt.locs, Pt.cells, Pt.slots] at X81 l81 y81 z81 st81 hQ81
      rw [l81, y81, z81] at X81
      obtain ⟨rfl, N81q, eq81⟩ := hQ81
      have N81 := Fr.app N80 N81q
      refine own_step (T' := T81) (g' := (mkF m 178 #[.val (.int p0), .val (.int p1), .val (.int p2), .val (.int p3), .val .null, .val .null, .val (.ref b75), .val (.ref ob_80), .val .null, .val (.int (1 : Int32))] [.null])) (fun t k => st81.trans k) ?_
      refine own_step (T' := T81) (g' := (mkF m 180 #[.val (.int p0), .val (.int p1), .val (.int p2), .val (.int p3), .val .null, .val .null, .val (.ref b75), .val (.ref ob_80), .val .null, .val (.int (1 : Int32))] [.null, .null])) (fun t k => XS.aload X81.here hx rfl (hb hby at_178) rfl rfl k) ?_
      obtain ⟨_, _, ⟨T82, L82, kk82, nn82⟩, -, X82, ⟨Lc82, hQ82, l82, y82, z82⟩, st82⟩ := Jvm.LawKit.callS X81 hx (y := (⟨"com/example/tapeloom/tapeloom/OptionFlagPinLaw", "eq", "(Ljava/lang/String;Ljava/lang/String;)Z"⟩ : MethodName)) hown (mvT hZ (hw _ (List.mem_of_getElem? (i := 53) rfl))) (mvT hZ (hw _ (List.mem_of_getElem? (i := 54) rfl))) (mvT hZ (hw _ (List.mem_of_getElem? (i := 55) rfl))) (mvT hZ (hw _ (List.mem_of_getElem? (i := 56) rfl))) (by decide) (backOf (W := 0) (rm10_1 l Z a0 hw []  T80.heap n0 (Nat.le_trans Z0 K_80.1) ) hZ (hw _ (List.mem_of_getElem? (i := 56) rfl)) (hw _ (List.mem_of_getElem? (i := 55) rfl)) (by decide) (by decide)) (g := (mkF m 180 #[.val (.int p0), .val (.int p1), .val (.int p2), .val (.int p3), .val .null, .val .null, .val (.ref b75), .val (.ref ob_80), .val .null, .val (.int (1 : Int32))] [.null, .null])) rfl (by rw [hml]; rfl) (argsL := [.null, .null]) (rest := []) (lenOf pd_9 rfl) rfl (by show 2 * 0 + _ ≤ _; exact Nat.le_of_eq rfl) (hb hby at_180) (fun _ _ => ⟨rfl, eq81, (by decide : 4 + 0 ≤ _), (by decide : 12 + 0 ≤ _)⟩)
      dsimp only [Pt.U, Pt.locs, Pt.cells, Pt.slots] at X82 l82 y82 z82 st82 hQ82
      rw [l82, y82, z82] at X82
      obtain ⟨rfl, N82q, eq82⟩ := hQ82
      have N82 := Fr.app N81 N82q
      refine own_step (T' := T82) (g' := (mkF m 183 #[.val (.int p0), .val (.int p1), .val (.int p2), .val (.int p3), .val .null, .val .null, .val (.ref b75), .val (.ref ob_80), .val .null, .val (.int (1 : Int32))] [(.int (1 : Int32))])) st82 ?_
      refine own_step (T' := T82) (g' := (mkF m 186 #[.val (.int p0), .val (.int p1), .val (.int p2), .val (.int p3), .val .null, .val .null, .val (.ref b75), .val (.ref ob_80), .val .null, .val (.int (1 : Int32))] [])) (fun t k => XS.ifNo X82.here hx rfl (hb hby at_183) rfl ((if0 _ _).trans (feq (by decide : ¬ ((1 : Int32) = (0 : Int32)))).1) k) ?_
      refine own_step (T' := T82) (g' := (mkF m 188 #[.val (.int p0), .val (.int p1), .val (.int p2), .val (.int p3), .val .null, .val .null, .val (.ref b75), .val (.ref ob_80), .val .null, .val (.int (1 : Int32))] [(.ref ob_80)])) (fun t k => XS.aload X82.here hx rfl (hb hby at_186) rfl rfl k) ?_
      obtain ⟨cq83, kq83, qq83a, qq83b, qq83c⟩ := isOf hZ eq82 pq80_0
      obtain ⟨_, _, ⟨T83, L83, kk83, nn83⟩, -, X83, ⟨Lc83, hQ83, l83, y83, z83⟩, st83⟩ := X82.virtualBack hx (y := (⟨"com/example/tapeloom/tapeloom/Option", "longName", "()Ljava/lang/String;"⟩ : MethodName)) (z := (⟨"com/example/tapeloom/tapeloom/Option", "longName", "()Ljava/lang/String;"⟩ : MethodName)) hown (mvT hZ (hw _ (List.mem_of_getElem? (i := 62) rfl))) (mvT hZ (hw _ (List.mem_of_getElem? (i := 63) rfl))) (notFace_of_selects (args := #[]) (mvT hZ (hw _ (List.mem_of_getElem? (i := 65) rfl)))) (mvT hZ (hw _ (List.mem_of_getElem? (i := 65) rfl))) (mvT hZ (hw _ (List.mem_of_getElem? (i := 64) rfl))) (by decide) (backOf (W := 0) (rm12_1 l Z a0 hw [] ob_80 T80.heap n0 (Nat.le_trans Z0 K_80.1) pq80_2) hZ (hw _ (List.mem_of_getElem? (i := 66) rfl)) (hw _ (List.mem_of_getElem? (i := 32) rfl)) (by decide) (by decide)) qq83a qq83c (g := (mkF m 188 #[.val (.int p0), .val (.int p1), .val (.int p2), .val (.int p3), .val .null, .val .null, .val (.ref b75), .val (.ref ob_80), .val .null, .val (.int (1 : Int32))] [(.ref ob_80)])) rfl (by rw [hml]; rfl) (Steps.refl _) (argsL := []) (rest := []) (lenOf pd_8 rfl) rfl (by show 2 * 0 + _ ≤ _; exact Nat.le_of_eq rfl) (hb hby at_188) (fun _ _ => ⟨rfl, eq82, (by decide : 4 + 0 ≤ _), (by decide : 12 + 0 ≤ _)⟩)
      dsimp only [Pt.U, Pt.locs, Pt.cells, Pt.slots] at X83 l83 y83 z83 st83 hQ83
      rw [l83, y83, z83] at X83
      obtain ⟨rfl, N83q, eq83⟩ := hQ83
      have N83 := Fr.app N82 N83q
      refine own_step (T' := T83) (g' := (mkF m 191 #[.val (.int p0), .val (.int p1), .val (.int p2), .val (.int p3), .val .null, .val .null, .val (.ref b75), .val (.ref ob_80), .val .null, .val (.int (1 : Int32))] [.null])) (fun t k => st83.trans k) ?_
      refine own_step (T' := T83) (g' := (mkF m 193 #[.val (.int p0), .val (.int p1), .val (.int p2), .val (.int p3), .val .null, .val .null, .val (.ref b75), .val (.ref ob_80), .val .null, .val (.int (1 : Int32))] [.null, .null])) (fun t k => XS.aload X83.here hx rfl (hb hby at_191) rfl rfl k) ?_
      obtain ⟨_, _, ⟨T84, L84, kk84, nn84⟩, -, X84, ⟨Lc84, hQ84, l84, y84, z84⟩, st84⟩ := Jvm.LawKit.callS X83 hx (y := (⟨"com/example/tapeloom/tapeloom/OptionFlagPinLaw", "eq", "(Ljava/lang/String;Ljava/lang/String;)Z"⟩ : MethodName)) hown (mvT hZ (hw _ (List.mem_of_getElem? (i := 53) rfl))) (mvT hZ (hw _ (List.mem_of_getElem? (i := 54) rfl))) (mvT hZ (hw _ (List.mem_of_getElem? (i := 55) rfl))) (mvT hZ (hw _ (List.mem_of_getElem? (i := 56) rfl))) (by decide) (backOf (W := 0) (rm10_1 l Z a0 hw []  T80.heap n0 (Nat.le_trans Z0 K_80.1) ) hZ (hw _ (List.mem_of_getElem? (i := 56) rfl)) (hw _ (List.mem_of_getElem? (i := 55) rfl)) (by decide) (by decide)) (g := (mkF m 193 #[.val (.int p0), .val (.int p1), .val (.int p2), .val (.int p3), .val .null, .val .null, .val (.ref b75), .val (.ref ob_80), .val .null, .val (.int (1 : Int32))] [.null, .null])) rfl (by rw [hml]; rfl) (argsL := [.null, .null]) (rest := []) (lenOf pd_9 rfl) rfl (by show 2 * 0 + _ ≤ _; exact Nat.le_of_eq rfl) (hb hby at_193) (fun _ _ => ⟨rfl, eq83, (by decide : 4 + 0 ≤ _), (by decide : 12 + 0 ≤ _)⟩)
      dsimp only [Pt.U, Pt.locs, Pt.cells, Pt.slots] at X84 l84 y84 z84 st84 hQ84
      rw [l84, y84, z84] at X84
      obtain ⟨rfl, N84q, eq84⟩ := hQ84
      have N84 := Fr.app N83 N84q
      refine own_step (T' := T84) (g' := (mkF m 196 #[.val (.int p0), .val (.int p1), .val (.int p2), .val (.int p3), .val .null, .val .null, .val (.ref b75), .val (.ref ob_80), .val .null, .val (.int (1 : Int32))] [(.int (1 : Int32))])) st84 ?_
      refine own_step (T' := T84) (g' := (mkF m 199 #[.val (.int p0), .val (.int p1), .val (.int p2), .val (.int p3), .val .null, .val .null, .val (.ref b75), .val (.ref ob_80), .val .null, .val (.int (1 : Int32))] [])) (fun t k => XS.ifNo X84.here hx rfl (hb hby at_196) rfl ((if0 _ _).trans (feq (by decide : ¬ ((1 : Int32) = (0 : Int32)))).1) k) ?_
      refine own_step (T' := T84) (g' := (mkF m 201 #[.val (.int p0), .val (.int p1), .val (.int p2), .val (.int p3), .val .null, .val .null, .val (.ref b75), .val (.ref ob_80), .val .null, .val (.int (1 : Int32))] [(.ref ob_80)])) (fun t k => XS.aload X84.here hx rfl (hb hby at_199) rfl rfl k) ?_
      obtain ⟨cq85, kq85, qq85a, qq85b, qq85c⟩ := isOf hZ eq84 pq80_0
      obtain ⟨_, _, ⟨T85, L85, kk85, nn85⟩, -, X85, ⟨Lc85, hQ85, l85, y85, z85⟩, st85⟩ := X84.virtualBack hx (y := (⟨"com/example/tapeloom/tapeloom/Option", "description", "()Ljava/lang/String;"⟩ : MethodName)) (z := (⟨"com/example/tapeloom/tapeloom/Option", "description", "()Ljava/lang/String;"⟩ : MethodName)) hown (mvT hZ (hw _ (List.mem_of_getElem? (i := 67) rfl))) (mvT hZ (hw _ (List.mem_of_getElem? (i := 68) rfl))) (notFace_of_selects (args := #[]) (mvT hZ (hw _ (List.mem_of_getElem? (i := 70) rfl)))) (mvT hZ (hw _ (List.mem_of_getElem? (i := 70) rfl))) (mvT hZ (hw _ (List.mem_of_getElem? (i := 69) rfl))) (by decide) (backOf (W := 0) (rm13_0 l Z a0 hw [] ob_80 b75 T80.heap n0 (Nat.le_trans Z0 K_80.1) pq80_4) hZ (hw _ (List.mem_of_getElem? (i := 71) rfl)) (hw _ (List.mem_of_getElem? (i := 32) rfl)) (by decide) (by decide)) qq85a qq85c (g := (mkF m 201 #[.val (.int p0), .val (.int p1), .val (.int p2), .val (.int p3), .val .null, .val .null, .val (.ref b75), .val (.ref ob_80), .val .null, .val (.int (1 : Int32))] [(.ref ob_80)])) rfl (by rw [hml]; rfl) (Steps.refl _) (argsL := []) (rest := []) (lenOf pd_8 rfl) rfl (by show 2 * 0 + _ ≤ _; exact Nat.le_of_eq rfl) (hb hby at_201) (fun _ _ => ⟨rfl, eq84, (by decide : 4 + 0 ≤ _), (by decide : 12 + 0 ≤ _)⟩)
      dsimp only [Pt.U, Pt.locs, Pt.cells, Pt.slots] at X85 l85 y85 z85 st85 hQ85
      rw [l85, y85, z85] at X85
      obtain ⟨rfl, N85q, eq85⟩ := hQ85
      have N85 := Fr.app N84 N85q
      refine own_step (T' := T85) (g' := (mkF m 204 #[.val (.int p0), .val (.int p1), .val (.int p2), .val (.int p3), .val .null, .val .null, .val (.ref b75), .val (.ref ob_80), .val .null, .val (.int (1 : Int32))] [(.ref b75)])) (fun t k => st85.trans k) ?_
      refine own_step (T' := T85) (g' := (mkF m 206 #[.val (.int p0), .val (.int p1), .val (.int p2), .val (.int p3), .val .null, .val .null, .val (.ref b75), .val (.ref ob_80), .val .null, .val (.int (1 : Int32))] [(.ref b75), (.ref b75)])) (fun t k => XS.aload X85.here hx rfl (hb hby at_204) rfl rfl k) ?_
      obtain ⟨_, _, ⟨T86, L86, kk86, nn86⟩, -, X86, ⟨Lc86, hQ86, l86, y86, z86⟩, st86⟩ := Jvm.LawKit.callS X85 hx (y := (⟨"com/example/tapeloom/tapeloom/OptionFlagPinLaw", "eq", "(Ljava/lang/String;Ljava/lang/String;)Z"⟩ : MethodName)) hown (mvT hZ (hw _ (List.mem_of_getElem? (i := 53) rfl))) (mvT hZ (hw _ (List.mem_of_getElem? (i := 54) rfl))) (mvT hZ (hw _ (List.mem_of_getElem? (i := 55) rfl))) (mvT hZ (hw _ (List.mem_of_getElem? (i := 56) rfl))) (by decide) (backOf (W := 0) (rm10_0 l Z a0 hw [] b75 T80.heap n0 (Nat.le_trans Z0 K_80.1) E_b75_80) hZ (hw _ (List.mem_of_getElem? (i := 56) rfl)) (hw _ (List.mem_of_getElem? (i := 55) rfl)) (by decide) (by decide)) (g := (mkF m 206 #[.val (.int p0), .val (.int p1), .val (.int p2), .val (.int p3), .val .null, .val .null, .val (.ref b75), .val (.ref ob_80), .val .null, .val (.int (1 : Int32))] [(.ref b75), (.ref b75)])) rfl (by rw [hml]; rfl) (argsL := [(.ref b75), (.ref b75)]) (rest := []) (lenOf pd_9 rfl) rfl (by show 2 * 0 + _ ≤ _; exact Nat.le_of_eq rfl) (hb hby at_206) (fun _ _ => ⟨rfl, eq85, (by decide : 4 + 0 ≤ _), (by decide : 12 + 0 ≤ _)⟩)
      dsimp only [Pt.U, Pt.locs, Pt.cells, Pt.slots] at X86 l86 y86 z86 st86 hQ86
      rw [l86, y86, z86] at X86
      obtain ⟨rfl, N86q, eq86⟩ := hQ86
      have N86 := Fr.app N85 N86q
      refine own_step (T' := T86) (g' := (mkF m 209 #[.val (.int p0), .val (.int p1), .val (.int p2), .val (.int p3), .val .null, .val .null, .val (.ref b75), .val (.ref ob_80), .val .null, .val (.int (1 : Int32))] [(.int (1 : Int32))])) st86 ?_
      refine own_step (T' := T86) (g' := (mkF m 212 #[.val (.int p0), .val (.int p1), .val (.int p2), .val (.int p3), .val .null, .val .null, .val (.ref b75), .val (.ref ob_80), .val .null, .val (.int (1 : Int32))] [])) (fun t k => XS.ifNo X86.here hx rfl (hb hby at_209) rfl ((if0 _ _).trans (feq (by decide : ¬ ((1 : Int32) = (0 : Int32)))).1) k) ?_
      refine own_step (T' := T86) (g' := (mkF m 214 #[.val (.int p0), .val (.int p1), .val (.int p2), .val (.int p3), .val .null, .val .null, .val (.ref b75), .val (.ref ob_80), .val .null, .val (.int (1 : Int32))] [(.ref ob_80)])) (fun t k => XS.aload X86.here hx rfl (hb hby at_212) rfl rfl k) ?_
      obtain ⟨cq87, kq87, qq87a, qq87b, qq87c⟩ := isOf hZ eq86 pq80_0
      obtain ⟨_, _, ⟨T87, L87, kk87, nn87⟩, -, X87, ⟨Lc87, hQ87, l87, y87, z87⟩, st87⟩ := X86.virtualBack hx (y := (⟨"com/example/tapeloom/tapeloom/Option", "label", "()Ljava/lang/String;"⟩ : MethodName)) (z := (⟨"com/example/tapeloom/tapeloom/Option", "label", "()Ljava/lang/String;"⟩ : MethodName)) hown (mvT hZ (hw _ (List.mem_of_getElem? (i := 72) rfl))) (mvT hZ (hw _ (List.mem_of_getElem? (i := 73) rfl))) (notFace_of_selects (args := #[]) (mvT hZ (hw _ (List.mem_of_getElem? (i := 75) rfl)))) (mvT hZ (hw _ (List.mem_of_getElem? (i := 75) rfl))) (mvT hZ (hw _ (List.mem_of_getElem? (i := 74) rfl))) (by decide) (backOf (W := 0) (rm14_1 l Z a0 hw [] ob_80 T80.heap n0 (Nat.le_trans Z0 K_80.1) pq80_3) hZ (hw _ (List.mem_of_getElem? (i := 76) rfl)) (hw _ (List.mem_of_getElem? (i := 32) rfl)) (by decide) (by decide)) qq87a qq87c (g := (mkF m 214 #[.val (.int p0), .val (.int p1), .val (.int p2), .val (.int p3), .val .null, .val .null, .val (.ref b75), .val (.ref ob_80), .val .null, .val (.int (1 : Int32))] [(.ref ob_80)])) rfl (by rw [hml]; rfl) (Steps.refl _) (argsL := []) (rest := []) (lenOf pd_8 rfl) rfl (by show 2 * 0 + _ ≤ _; exact Nat.le_of_eq rfl) (hb hby at_214) (fun _ _ => ⟨rfl, eq86, (by decide : 4 + 0 ≤ _), (by decide : 12 + 0 ≤ _)⟩)
      dsimp only [Pt.U, Pt.locs, Pt.cells, Pt.slots] at X87 l87 y87 z87 st87 hQ87
      rw [l87, y87, z87] at X87
      obtain ⟨rfl, N87q, eq87⟩ := hQ87
      have N87 := Fr.app N86 N87q
      refine own_step (T' := T87) (g' := (mkF m 217 #[.val (.int p0), .val (.int p1), .val (.int p2), .val (.int p3), .val .null, .val .null, .val (.ref b75), .val (.ref ob_80), .val .null, .val (.int (1 : Int32))] [.null])) (fun t k => st87.trans k) ?_
      refine own_step (T' := T87) (g' := (mkF m 220 #[.val (.int p0), .val (.int p1), .val (.int p2), .val (.int p3), .val .null, .val .null, .val (.ref b75), .val (.ref ob_80), .val .null, .val (.int (1 : Int32))] [])) (fun t k => XS.ifnonnullNo X87.here hx rfl (hb hby at_217) rfl k) ?_
      refine own_step (T' := T87) (g' := (mkF m 222 #[.val (.int p0), .val (.int p1), .val (.int p2), .val (.int p3), .val .null, .val .null, .val (.ref b75), .val (.ref ob_80), .val .null, .val (.int (1 : Int32))] [(.ref ob_80)])) (fun t k => XS.aload X87.here hx rfl (hb hby at_220) rfl rfl k) ?_
      obtain ⟨cq88, kq88, qq88a, qq88b, qq88c⟩ := isOf hZ eq87 pq80_0
      obtain ⟨_, _, ⟨T88, L88, kk88, nn88⟩, -, X88, ⟨Lc88, hQ88, l88, y88, z88⟩, st88⟩ := X87.virtualBack hx (y := (⟨"com/example/tapeloom/tapeloom/Option", "takesValue", "()Z"⟩ : MethodName)) (z := (⟨"com/example/tapeloom/tapeloom/Option", "takesValue", "()Z"⟩ : MethodName)) hown (mvT hZ (hw _ (List.mem_of_getElem? (i := 77) rfl))) (mvT hZ (hw _ (List.mem_of_getElem? (i := 78) rfl))) (notFace_of_selects (args := #[]) (mvT hZ (hw _ (List.mem_of_getElem? (i := 80) rfl)))) (mvT hZ (hw _ (List.mem_of_getElem? (i := 80) rfl))) (mvT hZ (hw _ (List.mem_of_getElem? (i := 79) rfl))) (by decide) (backOf (W := 0) (rm15 l Z a0 hw [] ob_80 T80.heap n0 (Nat.le_trans Z0 K_80.1) pq80_3) hZ (hw _ (List.mem_of_getElem? (i := 81) rfl)) (hw _ (List.mem_of_getElem? (i := 32) rfl)) (by decide) (by decide)) qq88a qq88c (g := (mkF m 222 #[.val (.int p0), .val (.int p1), .val (.int p2), .val (.int p3), .val .null, .val .null, .val (.ref b75), .val (.ref ob_80), .val .null, .val (.int (1 : Int32))] [(.ref ob_80)])) rfl (by rw [hml]; rfl) (Steps.refl _) (argsL := []) (rest := []) (lenOf pd_11 rfl) rfl (by show 2 * 0 + _ ≤ _; exact Nat.le_of_eq rfl) (hb hby at_222) (fun _ _ => ⟨rfl, eq87, (by decide : 4 + 0 ≤ _), (by decide : 12 + 0 ≤ _)⟩)
      dsimp only [Pt.U, Pt.locs, Pt.cells, Pt.slots] at X88 l88 y88 z88 st88 hQ88
      rw [l88, y88, z88] at X88
      obtain ⟨rfl, N88q, eq88⟩ := hQ88
      have N88 := Fr.app N87 N88q
      refine own_step (T' := T88) (g' := (mkF m 225 #[.val (.int p0), .val (.int p1), .val (.int p2), .val (.int p3), .val .null, .val .null, .val (.ref b75), .val (.ref ob_80), .val .null, .val (.int (1 : Int32))] [(.int (0 : Int32))])) (fun t k => st88.trans k) ?_
      refine own_step (T' := T88) (g' := (mkF m 228 #[.val (.int p0), .val (.int p1), .val (.int p2), .val (.int p3), .val .null, .val .null, .val (.ref b75), .val (.ref ob_80), .val .null, .val (.int (1 : Int32))] [])) (fun t k => XS.ifNo X88.here hx rfl (hb hby at_225) rfl ((if0 _ _).trans (teq (by decide : (0 : Int32) = (0 : Int32))).2) k) ?_
      refine own_step (T' := T88) (g' := (mkF m 230 #[.val (.int p0), .val (.int p1), .val (.int p2), .val (.int p3), .val .null, .val .null, .val (.ref b75), .val (.ref ob_80), .val .null, .val (.int (1 : Int32))] [(.ref ob_80)])) (fun t k => XS.aload X88.here hx rfl (hb hby at_228) rfl rfl k) ?_
      obtain ⟨cq89, kq89, qq89a, qq89b, qq89c⟩ := isOf hZ eq88 pq80_0
      obtain ⟨_, _, ⟨T89, L89, kk89, nn89⟩, -, X89, ⟨Lc89, hQ89, l89, y89, z89⟩, st89⟩ := X88.virtualBack hx (y := (⟨"com/example/tapeloom/tapeloom/Option", "isParameter", "()Z"⟩ : MethodName)) (z := (⟨"com/example/tapeloom/tapeloom/Option", "isParameter", "()Z"⟩ : MethodName)) hown (mvT hZ (hw _ (List.mem_of_getElem? (i := 82) rfl))) (mvT hZ (hw _ (List.mem_of_getElem? (i := 83) rfl))) (notFace_of_selects (args := #[]) (mvT hZ (hw _ (List.mem_of_getElem? (i := 85) rfl)))) (mvT hZ (hw _ (List.mem_of_getElem? (i := 85) rfl))) (mvT hZ (hw _ (List.mem_of_getElem? (i := 84) rfl))) (by decide) (backOf (W := 0) (rm16_11 l Z a0 hw [] ob_80 T80.heap n0 (Nat.le_trans Z0 K_80.1) pq80_1 pq80_2) hZ (hw _ (List.mem_of_getElem? (i := 86) rfl)) (hw _ (List.mem_of_getElem? (i := 32) rfl)) (by decide) (by decide)) qq89a qq89c (g := (mkF m 230 #[.val (.int p0), .val (.int p1), .val (.int p2), .val (.int p3), .val .null, .val .null, .val (.ref b75), .val (.ref ob_80), .val .null, .val (.int (1 : Int32))] [(.ref ob_80)])) rfl (by rw [hml]; rfl) (Steps.refl _) (argsL := []) (rest := []) (lenOf pd_11 rfl) rfl (by show 2 * 0 + _ ≤ _; exact Nat.le_of_eq rfl) (hb hby at_230) (fun _ _ => ⟨rfl, eq88, (by decide : 4 + 0 ≤ _), (by decide : 12 + 0 ≤ _)⟩)
      dsimp only [Pt.U, Pt.locs, Pt.cells, Pt.slots] at X89 l89 y89 z89 st89 hQ89
      rw [l89, y89, z89] at X89
      obtain ⟨rfl, N89q, eq89⟩ := hQ89
      have N89 := Fr.app N88 N89q
      refine own_step (T' := T89) (g' := (mkF m 233 #[.val (.int p0), .val (.int p1), .val (.int p2), .val (.int p3), .val .null, .val .null, .val (.ref b75), .val (.ref ob_80), .val .null, .val (.int (1 : Int32))] [(.int (1 : Int32))])) (fun t k => st89.trans k) ?_
      refine own_step (T' := T89) (g' := (mkF m 235 #[.val (.int p0), .val (.int p1), .val (.int p2), .val (.int p3), .val .null, .val .null, .val (.ref b75), .val (.ref ob_80), .val .null, .val (.int (1 : Int32))] [(.int (1 : Int32)), (.int (1 : Int32))])) (fun t k => XS.iload X89.here hx rfl (hb hby at_233) rfl k) ?_
      refine own_step (T' := T89) (g' := (mkF m 238 #[.val (.int p0), .val (.int p1), .val (.int p2), .val (.int p3), .val .null, .val .null, .val (.ref b75), .val (.ref ob_80), .val .null, .val (.int (1 : Int32))] [])) (fun t k => XS.icmpNo X89.here hx rfl (hb hby at_235) rfl (teq (by decide : (1 : Int32) = (1 : Int32))).2 k) ?_
      refine own_step (T' := T89) (g' := (mkF m 240 #[.val (.int p0), .val (.int p1), .val (.int p2), .val (.int p3), .val .null, .val .null, .val (.ref b75), .val (.ref ob_80), .val .null, .val (.int (1 : Int32))] [(.ref ob_80)])) (fun t k => XS.aload X89.here hx rfl (hb hby at_238) rfl rfl k) ?_
      obtain ⟨cq90, kq90, qq90a, qq90b, qq90c⟩ := isOf hZ eq89 pq80_0
      obtain ⟨_, _, ⟨T90, L90, kk90, nn90⟩, -, X90, ⟨Lc90, hQ90, l90, y90, z90⟩, st90⟩ := X89.virtualBack hx (y := (⟨"com/example/tapeloom/tapeloom/Option", "name", "()Ljava/lang/String;"⟩ : MethodName)) (z := (⟨"com/example/tapeloom/tapeloom/Option", "name", "()Ljava/lang/String;"⟩ : MethodName)) hown (mvT hZ (hw _ (List.mem_of_getElem? (i := 87) rfl))) (mvT hZ (hw _ (List.mem_of_getElem? (i := 88) rfl))) (notFace_of_selects (args := #[]) (mvT hZ (hw _ (List.mem_of_getElem? (i := 90) rfl)))) (mvT hZ (hw _ (List.mem_of_getElem? (i := 90) rfl))) (mvT hZ (hw _ (List.mem_of_getElem? (i := 89) rfl))) (by decide) (backOf (W := 0) (rm17_11 l Z a0 hw [] ob_80 T80.heap n0 (Nat.le_trans Z0 K_80.1) pq80_1 pq80_2) hZ (hw _ (List.mem_of_getElem? (i := 91) rfl)) (hw _ (List.mem_of_getElem? (i := 32) rfl)) (by decide) (by decide)) qq90a qq90c (g := (mkF m 240 #[.val (.int p0), .val (.int p1), .val (.int p2), .val (.int p3), .val .null, .val .null, .val (.ref b75), .val (.ref ob_80), .val .null, .val (.int (1 : Int32))] [(.ref ob_80)])) rfl (by rw [hml]; rfl) (Steps.refl _) (argsL := []) (rest := []) (lenOf pd_8 rfl) rfl (by show 2 * 0 + _ ≤ _; exact Nat.le_of_eq rfl) (hb hby at_240) (fun _ _ => ⟨rfl, eq89, (by decide : 4 + 0 ≤ _), (by decide : 12 + 0 ≤ _)⟩)
      dsimp only [Pt.U, Pt.locs, Pt.cells, Pt.slots] at X90 l90 y90 z90 st90 hQ90
      rw [l90, y90, z90] at X90
      obtain ⟨rfl, N90q, eq90⟩ := hQ90
      have N90 := Fr.app N89 N90q
      refine own_step (T' := T90) (g' := (mkF m 243 #[.val (.int p0), .val (.int p1), .val (.int p2), .val (.int p3), .val .null, .val .null, .val (.ref b75), .val (.ref ob_80), .val .null, .val (.int (1 : Int32))] [.null])) (fun t k => st90.trans k) ?_
      refine own_step (T' := T90) (g' := (mkF m 245 #[.val (.int p0), .val (.int p1), .val (.int p2), .val (.int p3), .val .null, .val .null, .val (.ref b75), .val (.ref ob_80), .val .null, .val (.int (1 : Int32))] [.null, .null])) (fun t k => XS.aload X90.here hx rfl (hb hby at_243) rfl rfl k) ?_
      obtain ⟨_, _, ⟨T91, L91, kk91, nn91⟩, -, X91, ⟨Lc91, hQ91, l91, y91, z91⟩, st91⟩ := Jvm.LawKit.callS X90 hx (y := (⟨"com/example/tapeloom/tapeloom/OptionFlagPinLaw", "eq", "(Ljava/lang/String;Ljava/lang/String;)Z"⟩ : MethodName)) hown (mvT hZ (hw _ (List.mem_of_getElem? (i := 53) rfl))) (mvT hZ (hw _ (List.mem_of_getElem? (i := 54) rfl))) (mvT hZ (hw _ (List.mem_of_getElem? (i := 55) rfl))) (mvT hZ (hw _ (List.mem_of_getElem? (i := 56) rfl))) (by decide) (backOf (W := 0) (rm10_1 l Z a0 hw []  T80.heap n0 (Nat.le_trans Z0 K_80.1) ) hZ (hw _ (List.mem_of_getElem? (i := 56) rfl)) (hw _ (List.mem_of_getElem? (i := 55) rfl)) (by decide) (by decide)) (g := (mkF m 245 #[.val (.int p0), .val (.int p1), .val (.int p2), .val (.int p3), .val .null, .val .null, .val (.ref b75), .val (.ref ob_80), .val .null, .val (.int (1 : Int32))] [.null, .null])) rfl (by rw [hml]; rfl) (argsL := [.null, .null]) (rest := []) (lenOf pd_9 rfl) rfl (by show 2 * 0 + _ ≤ _; exact Nat.le_of_eq rfl) (hb hby at_245) (fun _ _ => ⟨rfl, eq90, (by decide : 4 + 0 ≤ _), (by decide : 12 + 0 ≤ _)⟩)
      dsimp only [Pt.U, Pt.locs, Pt.cells, Pt.slots] at X91 l91 y91 z91 st91 hQ91
      rw [l91, y91, z91] at X91
      obtain ⟨rfl, N91q, eq91⟩ := hQ91
      have N91 := Fr.app N90 N91q
      refine own_step (T' := T91) (g' := (mkF m 248 #[.val (.int p0), .val (.int p1), .val (.int p2), .val (.int p3), .val .null, .val .null, .val (.ref b75), .val (.ref ob_80), .val .null, .val (.int (1 : Int32))] [(.int (1 : Int32))])) st91 ?_
      refine own_step (T' := T91) (g' := (mkF m 251 #[.val (.int p0), .val (.int p1), .val (.int p2), .val (.int p3), .val .null, .val .null, .val (.ref b75), .val (.ref ob_80), .val .null, .val (.int (1 : Int32))] [])) (fun t k => XS.ifNo X91.here hx rfl (hb hby at_248) rfl ((if0 _ _).trans (feq (by decide : ¬ ((1 : Int32) = (0 : Int32)))).1) k) ?_
      refine own_step (T' := T91) (g' := (mkF m 252 #[.val (.int p0), .val (.int p1), .val (.int p2), .val (.int p3), .val .null, .val .null, .val (.ref b75), .val (.ref ob_80), .val .null, .val (.int (1 : Int32))] [(.int (1 : Int32))])) (fun t k => XS.iconst X91.here hx rfl (hb hby at_251) k) ?_
      refine own_step (T' := T91) (g' := (mkF m 256 #[.val (.int p0), .val (.int p1), .val (.int p2), .val (.int p3), .val .null, .val .null, .val (.ref b75), .val (.ref ob_80), .val .null, .val (.int (1 : Int32))] [(.int (1 : Int32))])) (fun t k => XS.goto X91.here hx rfl (pc0 := 252) (pc' := 256) rfl (hb hby at_252) (by decide) (by decide) k) ?_
      refine own_retN X91 hx hlk (t := .boolean) (w := (1 : Int32)) Bd.returns (by simp) (hb hby at_256) rfl (by decide) (by decide) ?_
      exact ⟨rfl, N91⟩
set_option maxRecDepth 65536 in
set_option maxHeartbeats 40000000 in
theorem comes_1 {Post : Tables → Env → Array Value → State → Outcome → State → Prop} (hpost : ∀ tb e args s v u, (limb_1_1.after args s (.returned v) u = true ∧ limb_1_2.after args s (.returned v) u = true ∧ True) → FrameEnd s (.returned v) u (Jvm.fieldLocs frame_1_writes args s ++ Jvm.arrayLocs frame_1_arrays args s ++ Jvm.staticLocs frame_1_statics s) 32 128 → Post tb e args s (.returned v) u) :
    ArmFor flags0 classFile x code maxLocals ret World_1 tables_1 room_1 Calls_1 rest_1 Pre_1 Post := by
  intro l hfl _ _ p e ha hc hk s m args below hf hA hF happ hP
  obtain ⟨hcalls, hrest, hpre⟩ := hP
  obtain ⟨-, -, -, hnamed, -, -, -, hat⟩ := (Spec.applies_iff hf).mp happ
  obtain ⟨hg, hn⟩ := and_e (Cond.before_iff.mp (show (Jvm.Cond.and given_1 narrow_1).before args s = true from hpre))
  obtain ⟨g0, r0⟩ := and_e hg
  obtain ⟨g1, r1⟩ := and_e r0
  obtain ⟨g2, r2⟩ := and_e r1
  obtain ⟨g3, r3⟩ := and_e r2
  obtain ⟨w0, w1, w2, w3, rfl⟩ : ∃ w0 w1 w2 w3 : Value, args = #[w0, w1, w2, w3] := by
    have hs : args.size = 4 := by simpa [Cond.value, given_1] using g0
    obtain ⟨L⟩ := args
    match L, hs with
    | [w0, w1, w2, w3], _ => exact ⟨w0, w1, w2, w3, rfl⟩
  have hw := fun d (hd : d ∈ tables_1) => atoms_spec (ws := Jvm.Cond.code x code maxLocals ret :: tables_1) hat d (List.mem_cons_of_mem _ hd)
  have hfit : Fit s := fun {y c} hc i hi => by
    obtain ⟨ha, rfl⟩ := Array.getElem?_eq_some_iff.mp hc
    have q := List.all_eq_true.mp ((Array.all_eq_true_iff_forall_mem.mp hF) _ (Array.getElem_mem ha)) i (List.mem_range.mpr hi)
    simpa [Array.getElem?_eq_getElem hi] using q
  obtain ⟨hsets, hown0⟩ := atoms_of _ (rest_1_c_eq ▸ (show rest_1_c.before _ s = true from hrest))
  have hr0 := Cond.before_iff.mp hown0
  obtain ⟨i0, ei0⟩ := is_v g1
  obtain rfl : w0 = (.int i0) := Option.some.inj ei0
  obtain ⟨i1, ei1⟩ := is_v g2
  obtain rfl : w1 = (.int i1) := Option.some.inj ei1
  obtain ⟨i2, ei2⟩ := is_v g3
  obtain rfl : w2 = (.int i2) := Option.some.inj ei2
  obtain ⟨i3, ei3⟩ := is_v r3
  obtain rfl : w3 = (.int i3) := Option.some.inj ei3
  have n3 := not_v (Cond.before_iff.mp (hsets _ (List.mem_of_getElem? (i := 2) rfl)))
  obtain ⟨G1, eG1⟩ := is_v (Cond.before_iff.mp (hsets _ (List.mem_of_getElem? (i := 1) rfl)))
  have SG1 : Sta s s.heap "java/lang/String" "COMPACT_STRINGS" "Z" (.int G1) := Sta.start eG1 (Or.inl (hsets _ (List.mem_of_getElem? (i := 0) rfl)))
  have PG1 : ¬ (G1 = (0 : Int32)) := gotF (Cond.eq_ints eG1 (Term.int_eval (0))) n3
  obtain ⟨n, o, h1, h2, h3, _, L, rfl, ⟨rfl, N⟩, hq⟩ := rm0 l s _ hw tables_1 i0 i1 i2 i3 G1 s.heap s.heap.size (Nat.le_refl _) SG1 PG1 p e ha hc hk s m _ below hf ((Spec.applies_iff_loose hf).mp happ).1 ⟨rfl, State.Warmed39.refl s, rfl⟩ trivial
  refine ⟨n, _, h1, h2, h3, hpost _ _ _ _ _ _ ⟨Cond.after_iff.mpr rfl, Cond.after_iff.mpr (eq_i res_at (Term.int_eval (1)) rfl), trivial⟩ ⟨hq.1, hq.2.1, (hq.2.2.sift fun y hy => Or.inr (N y hy)).mono (by decide) (by decide)⟩⟩
theorem main_1_1 : Claimed_1_1 := comes_1 fun _ _ _ _ _ _ h hF => ⟨h.1, hF⟩
theorem main_1_2 : Claimed_1_2 := comes_1 fun _ _ _ _ _ _ h hF => ⟨h.2.1, hF⟩
end Jvm.Pilot.@@N@@
namespace Jvm.Pilot.@@N@@
open Jvm Jvm.ClassFile Sem Op Lib Jvm.Free Jvm.Stand Jvm.Pilot.@@N@@.Jvm.D
/-! MADE BY PROGRAM (witnessworld.py) out of the Statement's table words and the real class files: 20 classes; the members and pool entries that the words name. The judged class is class 1, her method 2. -/
namespace start1
open Jvm.ClassFile
def u (s : String) : CpInfo := .utf8 (stringToUtf16 s)
/-- a pool by its gaps: so many unusable entries, then the entry; so many at the end -/
def gap : Nat → List CpInfo → List CpInfo
  | 0, r => r
  | n + 1, r => .unusable :: gap n r
def poolList (es : List (Nat × CpInfo)) (last : Nat) : List CpInfo := es.foldr (fun e r => gap e.1 (e.2 :: r)) (gap last [])
def pool (es : List (Nat × CpInfo)) (last : Nat) : Array CpInfo := ⟨poolList es last⟩
def fileOf (pool : Array CpInfo) (this : Nat) (attrs : Array Attribute := #[]) (ms : Array MethodInfo := #[]) (fl : Nat := 33) (sup : Nat := 0) (ifs : Array Nat := #[]) (fds : Array FieldInfo := #[]) : ClassFile where
  minorVersion := 0
  majorVersion := 65
  constantPool := pool
  accessFlags := fl
  thisClass := this
  superClass := sup
  interfaces := ifs
  fields := fds
  methods := ms
  attributes := attrs
def plain (name : String) (sup : Option ClassId) : Class where
  name := name
  kind := .ordinary
  loader := none
  accessFlags := 33
  super := sup
  interfaces := #[]
  cf := none
  fields := #[]
  methods := #[]
  instanceTypes := #[]
  staticTypes := #[]
  resolved := #[]
  callSites := []
  init := .initialized
  statics := none
  mirror := none

def pool0 : Array CpInfo := pool [(5, u "<init>"), (0, u "()V"), (1, .class_ 10), (1, u "java/lang/Object")] 113

def k0c0 : Code := { maxStack := 0, maxLocals := 1, code := object_method_1_code, exceptionTable := #[], attributes := #[] }
def k0m0 : Method := { name := "<init>", desc := "()V", sig := { parameters := [], returnType := none }, accessFlags := 1, code := some k0c0 }
/-- java/lang/Object -/
def k0 : Class := { plain "java/lang/Object" none with
  accessFlags := 33
  interfaces := #[]
  cf := some (fileOf pool0 8 #[] #[{ accessFlags := 1, nameIndex := 5, descriptorIndex := 6, attributes := #[] }] 33 0 #[] #[])
  fields := #[]
  methods := #[k0m0]
  instanceTypes := #[]
  staticTypes := #[]
  resolved := Array.replicate 124 none
  statics := none }

def pool1 : Array CpInfo := pool [(2, .class_ 4), (1, u "java/lang/Object"), (0, u "<init>"), (0, u "()V"), (0, .methodref 8 9), (0, .class_ 10), (0, .nameAndType 11 12), (0, u "java/lang/String"), (0, u "equals"), (0, u "(Ljava/lang/Object;)Z"), (0, .methodref 8 14), (0, .nameAndType 5 15), (0, u "([C)V"), (0, .methodref 17 18), (0, .class_ 19), (0, .nameAndType 20 21), (0, u "com/example/tapeloom/tapeloom/Option"), (0, u "flag"), (0, u "(Ljava/lang/String;Ljava/lang/String;Ljava/lang/String;)Lcom/example/tapeloom/tapeloom/Option;"), (0, .methodref 17 23), (0, .nameAndType 24 25), (0, u "shortName"), (0, u "()Ljava/lang/String;"), (0, .methodref 27 28), (0, .class_ 29), (0, .nameAndType 30 31), (0, u "com/example/tapeloom/tapeloom/OptionFlagPinLaw"), (0, u "eq"), (0, u "(Ljava/lang/String;Ljava/lang/String;)Z"), (0, .methodref 17 33), (0, .nameAndType 34 25), (0, u "longName"), (0, .methodref 17 36), (0, .nameAndType 37 25), (0, u "description"), (0, .methodref 17 39), (0, .nameAndType 40 25), (0, u "label"), (0, .methodref 17 42), (0, .nameAndType 43 44), (0, u "takesValue"), (0, u "()Z"), (0, .methodref 17 46), (0, .nameAndType 47 44), (0, u "isParameter"), (0, .methodref 17 49), (0, .nameAndType 50 25), (0, u "name"), (3, u "law"), (0, u "(IIII)Z")] 2

def k1m0 : Method := { name := "<init>", desc := "()V", sig := { parameters := [], returnType := none }, accessFlags := 1, code := none }
def k1c1 : Code := { maxStack := 2, maxLocals := 2, code := method_2_code, exceptionTable := #[], attributes := #[] }
def k1m1 : Method := { name := "eq", desc := "(Ljava/lang/String;Ljava/lang/String;)Z", sig := { parameters := [(.object "java/lang/String"), (.object "java/lang/String")], returnType := some .boolean }, accessFlags := 10, code := some k1c1 }
def k1c2 : Code := { maxStack := 7, maxLocals := 10, code := code, exceptionTable := #[], attributes := #[] }
def k1m2 : Method := { name := "law", desc := "(IIII)Z", sig := { parameters := [.int, .int, .int, .int], returnType := some .boolean }, accessFlags := 9, code := some k1c2 }
/-- com/example/tapeloom/tapeloom/OptionFlagPinLaw -/
def k1 : Class := { plain "com/example/tapeloom/tapeloom/OptionFlagPinLaw" (some 0) with
  accessFlags := 49
  interfaces := #[]
  cf := some (fileOf pool1 27 #[] #[{ accessFlags := 1, nameIndex := 5, descriptorIndex := 6, attributes := #[] }, { accessFlags := 10, nameIndex := 30, descriptorIndex := 31, attributes := #[] }, { accessFlags := 9, nameIndex := 54, descriptorIndex := 55, attributes := #[] }] 49 2 #[] #[])
  fields := #[]
  methods := #[k1m0, k1m1, k1m2]
  instanceTypes := #[]
  staticTypes := #[]
  resolved := Array.replicate 58 none
  statics := none }

def pool2 : Array CpInfo := pool [(1, .class_ 2), (0, u "java/io/Serializable"), (0, .class_ 4), (0, u "java/lang/Object")] 2

/-- java/io/Serializable -/
def k2 : Class := { plain "java/io/Serializable" (some 0) with
  accessFlags := 1537
  interfaces := #[]
  cf := some (fileOf pool2 1 #[] #[] 1537 3 #[] #[])
  fields := #[]
  methods := #[]
  instanceTypes := #[]
  staticTypes := #[]
  resolved := Array.replicate 7 none
  statics := none }

def pool3 : Array CpInfo := pool [(1, .class_ 2), (0, u "java/lang/Comparable"), (0, .class_ 4), (0, u "java/lang/Object")] 7

/-- java/lang/Comparable -/
def k3 : Class := { plain "java/lang/Comparable" (some 0) with
  accessFlags := 1537
  interfaces := #[]
  cf := some (fileOf pool3 1 #[] #[] 1537 3 #[] #[])
  fields := #[]
  methods := #[]
  instanceTypes := #[]
  staticTypes := #[]
  resolved := Array.replicate 12 none
  statics := none }

def pool4 : Array CpInfo := pool [(2, .class_ 4), (1, u "java/lang/CharSequence"), (42, .class_ 48), (0, u "java/lang/CharSequence$1CodePointIterator"), (10, .class_ 60), (0, u "java/lang/CharSequence$1CharIterator"), (5, .class_ 67), (0, u "java/lang/Object")] 63

/-- java/lang/CharSequence -/
def k4 : Class := { plain "java/lang/CharSequence" (some 0) with
  accessFlags := 1537
  interfaces := #[]
  cf := some (fileOf pool4 2 #[.nestMembers #[47, 59]] #[] 1537 66 #[] #[])
  fields := #[]
  methods := #[]
  instanceTypes := #[]
  staticTypes := #[]
  resolved := Array.replicate 131 none
  statics := none }

def pool5 : Array CpInfo := pool [(1, .class_ 2), (0, u "java/lang/constant/Constable"), (0, .class_ 4), (0, u "java/lang/Object")] 6

/-- java/lang/constant/Constable -/
def k5 : Class := { plain "java/lang/constant/Constable" (some 0) with
  accessFlags := 1537
  interfaces := #[]
  cf := some (fileOf pool5 1 #[] #[] 1537 3 #[] #[])
  fields := #[]
  methods := #[]
  instanceTypes := #[]
  staticTypes := #[]
  resolved := Array.replicate 11 none
  statics := none }

def pool6 : Array CpInfo := pool [(1, .class_ 2), (0, u "java/lang/constant/ConstantDesc"), (0, .class_ 4), (0, u "java/lang/Object")] 32

/-- java/lang/constant/ConstantDesc -/
def k6 : Class := { plain "java/lang/constant/ConstantDesc" (some 0) with
  accessFlags := 1537
  interfaces := #[]
  cf := some (fileOf pool6 1 #[] #[] 1537 3 #[] #[])
  fields := #[]
  methods := #[]
  instanceTypes := #[]
  staticTypes := #[]
  resolved := Array.replicate 37 none
  statics := none }

def pool7 : Array CpInfo := pool [(1, .methodref 2 3), (0, .class_ 4), (0, .nameAndType 5 6), (0, u "java/lang/Object"), (0, u "<init>"), (0, u "()V"), (2, .fieldref 10 11), (0, .class_ 12), (0, .nameAndType 13 14), (0, u "java/lang/String"), (0, u "value"), (0, u "[B"), (0, .fieldref 10 16), (0, .nameAndType 17 18), (0, u "coder"), (0, u "B"), (2, u "hash"), (0, u "I"), (2, u "hashIsZero"), (0, u "Z"), (0, .methodref 10 28), (0, .nameAndType 5 29), (0, u "([CIILjava/lang/Void;)V"), (8, .fieldref 10 39), (0, .nameAndType 40 26), (0, u "COMPACT_STRINGS"), (1, .class_ 44), (1, u "java/lang/StringUTF16"), (0, u "compress"), (1, .methodref 42 48), (0, .nameAndType 49 50), (0, u "coderFromArrayLen"), (0, u "([BI)B"), (126, .methodref 42 178), (0, .nameAndType 45 179), (0, u "([CII)[B"), (363, u "equals"), (29, u "(Ljava/lang/Object;)Z"), (1, .class_ 576), (0, u "java/lang/CharSequence"), (22, u "CASE_INSENSITIVE_ORDER"), (0, u "Ljava/util/Comparator;"), (409, u "([C)V"), (90, u "serialPersistentFields"), (0, u "[Ljava/io/ObjectStreamField;"), (0, .class_ 1104), (0, u "java/lang/String$CaseInsensitiveComparator"), (1, .class_ 1107), (0, u "java/io/Serializable"), (0, .class_ 1109), (0, u "java/lang/Comparable"), (0, .class_ 1111), (0, u "java/lang/constant/Constable"), (0, .class_ 1113), (0, u "java/lang/constant/ConstantDesc"), (2, u "serialVersionUID"), (0, u "J"), (3, u "REPL"), (0, u "C"), (2, u "LATIN1"), (1, u "UTF16")] 323

def k7m0 : Method := { name := "<init>", desc := "()V", sig := { parameters := [], returnType := none }, accessFlags := 1, code := none }
def k7c1 : Code := { maxStack := 5, maxLocals := 2, code := jdk_42_method_3_code, exceptionTable := #[], attributes := #[] }
def k7m1 : Method := { name := "<init>", desc := "([C)V", sig := { parameters := [(.array .char)], returnType := none }, accessFlags := 1, code := some k7c1 }
def k7c2 : Code := { maxStack := 2, maxLocals := 3, code := jdk_42_method_66_code, exceptionTable := #[], attributes := #[] }
def k7m2 : Method := { name := "equals", desc := "(Ljava/lang/Object;)Z", sig := { parameters := [(.object "java/lang/Object")], returnType := some .boolean }, accessFlags := 1, code := some k7c2 }
def k7c3 : Code := { maxStack := 4, maxLocals := 6, code := jdk_42_method_149_code, exceptionTable := #[], attributes := #[] }
def k7m3 : Method := { name := "<init>", desc := "([CIILjava/lang/Void;)V", sig := { parameters := [(.array .char), .int, .int, (.object "java/lang/Void")], returnType := none }, accessFlags := 2, code := some k7c3 }
/-- java/lang/String -/
def k7 : Class := { plain "java/lang/String" (some 0) with
  accessFlags := 49
  interfaces := #[2, 3, 4, 5, 6]
  cf := some (fileOf pool7 10 #[.nestMembers #[1103]] #[{ accessFlags := 1, nameIndex := 5, descriptorIndex := 6, attributes := #[] }, { accessFlags := 1, nameIndex := 5, descriptorIndex := 1010, attributes := #[] }, { accessFlags := 1, nameIndex := 543, descriptorIndex := 573, attributes := #[] }, { accessFlags := 2, nameIndex := 5, descriptorIndex := 29, attributes := #[] }] 49 2 #[1106, 1108, 575, 1110, 1112] #[{ accessFlags := 18, nameIndex := 13, descriptorIndex := 14, attributes := #[] }, { accessFlags := 18, nameIndex := 17, descriptorIndex := 18, attributes := #[] }, { accessFlags := 2, nameIndex := 21, descriptorIndex := 22, attributes := #[] }, { accessFlags := 2, nameIndex := 25, descriptorIndex := 26, attributes := #[] }, { accessFlags := 26, nameIndex := 1116, descriptorIndex := 1117, attributes := #[] }, { accessFlags := 24, nameIndex := 40, descriptorIndex := 26, attributes := #[] }, { accessFlags := 26, nameIndex := 1101, descriptorIndex := 1102, attributes := #[] }, { accessFlags := 26, nameIndex := 1121, descriptorIndex := 1122, attributes := #[] }, { accessFlags := 25, nameIndex := 599, descriptorIndex := 600, attributes := #[] }, { accessFlags := 24, nameIndex := 1125, descriptorIndex := 18, attributes := #[] }, { accessFlags := 24, nameIndex := 1127, descriptorIndex := 18, attributes := #[] }])
  fields := #[{ name := "value", type := (.array .byte), accessFlags := 18, slot := 0, constantValue := 0 }, { name := "coder", type := .byte, accessFlags := 18, slot := 1, constantValue := 0 }, { name := "hash", type := .int, accessFlags := 2, slot := 2, constantValue := 0 }, { name := "hashIsZero", type := .boolean, accessFlags := 2, slot := 3, constantValue := 0 }, { name := "serialVersionUID", type := .long, accessFlags := 26, slot := 0, constantValue := 0 }, { name := "COMPACT_STRINGS", type := .boolean, accessFlags := 24, slot := 1, constantValue := 0 }, { name := "serialPersistentFields", type := (.array (.object "java/io/ObjectStreamField")), accessFlags := 26, slot := 2, constantValue := 0 }, { name := "REPL", type := .char, accessFlags := 26, slot := 3, constantValue := 0 }, { name := "CASE_INSENSITIVE_ORDER", type := (.object "java/util/Comparator"), accessFlags := 25, slot := 4, constantValue := 0 }, { name := "LATIN1", type := .byte, accessFlags := 24, slot := 5, constantValue := 0 }, { name := "UTF16", type := .byte, accessFlags := 24, slot := 6, constantValue := 0 }]
  methods := #[k7m0, k7m1, k7m2, k7m3]
  instanceTypes := #[(.array .byte), .byte, .int, .boolean]
  staticTypes := #[.long, .boolean, (.array (.object "java/io/ObjectStreamField")), .char, (.object "java/util/Comparator"), .byte, .byte]
  resolved := Array.replicate 1451 none
  statics := some 0 }

def pool8 : Array CpInfo := pool [(6, .class_ 8), (1, u "java/lang/Object"), (0, u "<init>"), (0, u "()V"), (1, .class_ 14), (1, u "java/lang/StringUTF16"), (31, u "$assertionsDisabled"), (0, u "Z"), (13, u "HI_BYTE_SHIFT"), (0, u "I"), (2, u "LO_BYTE_SHIFT"), (49, .methodref 12 116), (0, .nameAndType 117 118), (0, u "compress"), (0, u "([CI[BII)I"), (3, u "([CII)[B"), (138, u "coderFromArrayLen"), (0, u "([BI)B"), (106, .class_ 371), (1, u "java/lang/StringUTF16$LinesSpliterator"), (58, u "MAX_LENGTH"), (196, .class_ 628), (0, u "java/lang/StringUTF16$CodePointsSpliterator"), (0, .class_ 630), (0, u "java/lang/StringUTF16$CharsSpliterator")] 4

def k8m0 : Method := { name := "<init>", desc := "()V", sig := { parameters := [], returnType := none }, accessFlags := 0, code := none }
def k8c1 : Code := { maxStack := 2, maxLocals := 2, code := jdk_52_method_15_code, exceptionTable := #[], attributes := #[] }
def k8m1 : Method := { name := "coderFromArrayLen", desc := "([BI)B", sig := { parameters := [(.array .byte), .int], returnType := some .byte }, accessFlags := 8, code := some k8c1 }
def k8c2 : Code := { maxStack := 5, maxLocals := 6, code := jdk_52_method_16_code, exceptionTable := #[], attributes := #[] }
def k8m2 : Method := { name := "compress", desc := "([CII)[B", sig := { parameters := [(.array .char), .int, .int], returnType := some (.array .byte) }, accessFlags := 9, code := some k8c2 }
def k8c3 : Code := { maxStack := 3, maxLocals := 7, code := jdk_52_method_21_code, exceptionTable := #[], attributes := #[] }
def k8m3 : Method := { name := "compress", desc := "([CI[BII)I", sig := { parameters := [(.array .char), .int, (.array .byte), .int, .int], returnType := some .int }, accessFlags := 9, code := some k8c3 }
/-- java/lang/StringUTF16 -/
def k8 : Class := { plain "java/lang/StringUTF16" (some 0) with
  accessFlags := 48
  interfaces := #[]
  cf := some (fileOf pool8 12 #[.nestMembers #[627, 629, 369]] #[{ accessFlags := 0, nameIndex := 9, descriptorIndex := 10, attributes := #[] }, { accessFlags := 8, nameIndex := 261, descriptorIndex := 262, attributes := #[] }, { accessFlags := 9, nameIndex := 117, descriptorIndex := 122, attributes := #[] }, { accessFlags := 9, nameIndex := 117, descriptorIndex := 118, attributes := #[] }] 48 6 #[] #[{ accessFlags := 26, nameIndex := 61, descriptorIndex := 62, attributes := #[] }, { accessFlags := 26, nameIndex := 65, descriptorIndex := 62, attributes := #[] }, { accessFlags := 24, nameIndex := 430, descriptorIndex := 62, attributes := #[] }, { accessFlags := 4120, nameIndex := 46, descriptorIndex := 47, attributes := #[] }])
  fields := #[{ name := "HI_BYTE_SHIFT", type := .int, accessFlags := 26, slot := 0, constantValue := 0 }, { name := "LO_BYTE_SHIFT", type := .int, accessFlags := 26, slot := 1, constantValue := 0 }, { name := "MAX_LENGTH", type := .int, accessFlags := 24, slot := 2, constantValue := 0 }, { name := "$assertionsDisabled", type := .boolean, accessFlags := 4120, slot := 3, constantValue := 0 }]
  methods := #[k8m0, k8m1, k8m2, k8m3]
  instanceTypes := #[]
  staticTypes := #[.int, .int, .int, .boolean]
  resolved := Array.replicate 635 none
  statics := none }

def pool9 : Array CpInfo := pool [(1, .methodref 2 3), (0, .class_ 4), (0, .nameAndType 5 6), (0, u "java/lang/Object"), (0, u "<init>"), (0, u "()V"), (0, .fieldref 8 9), (0, .class_ 10), (0, .nameAndType 11 12), (0, u "com/example/tapeloom/tapeloom/Option"), (0, u "shortName"), (0, u "Ljava/lang/String;"), (0, .fieldref 8 14), (0, .nameAndType 15 12), (0, u "longName"), (0, .fieldref 8 17), (0, .nameAndType 18 12), (0, u "label"), (0, .fieldref 8 20), (0, .nameAndType 21 12), (0, u "description"), (0, .methodref 8 23), (0, .nameAndType 5 24), (0, u "(Ljava/lang/String;Ljava/lang/String;Ljava/lang/String;Ljava/lang/String;)V"), (8, u "name"), (0, u "()Ljava/lang/String;"), (2, u "takesValue"), (0, u "()Z"), (11, u "flag"), (0, u "(Ljava/lang/String;Ljava/lang/String;Ljava/lang/String;)Lcom/example/tapeloom/tapeloom/Option;"), (5, u "isParameter")] 22

def k9c0 : Code := { maxStack := 2, maxLocals := 5, code := prog_15_method_1_code, exceptionTable := #[], attributes := #[] }
def k9m0 : Method := { name := "<init>", desc := "(Ljava/lang/String;Ljava/lang/String;Ljava/lang/String;Ljava/lang/String;)V", sig := { parameters := [(.object "java/lang/String"), (.object "java/lang/String"), (.object "java/lang/String"), (.object "java/lang/String")], returnType := none }, accessFlags := 2, code := some k9c0 }
def k9c1 : Code := { maxStack := 6, maxLocals := 3, code := prog_15_method_2_code, exceptionTable := #[], attributes := #[] }
def k9m1 : Method := { name := "flag", desc := "(Ljava/lang/String;Ljava/lang/String;Ljava/lang/String;)Lcom/example/tapeloom/tapeloom/Option;", sig := { parameters := [(.object "java/lang/String"), (.object "java/lang/String"), (.object "java/lang/String")], returnType := some (.object "com/example/tapeloom/tapeloom/Option") }, accessFlags := 8, code := some k9c1 }
def k9c2 : Code := { maxStack := 1, maxLocals := 1, code := prog_15_method_5_code, exceptionTable := #[], attributes := #[] }
def k9m2 : Method := { name := "shortName", desc := "()Ljava/lang/String;", sig := { parameters := [], returnType := some (.object "java/lang/String") }, accessFlags := 0, code := some k9c2 }
def k9c3 : Code := { maxStack := 1, maxLocals := 1, code := prog_15_method_6_code, exceptionTable := #[], attributes := #[] }
def k9m3 : Method := { name := "longName", desc := "()Ljava/lang/String;", sig := { parameters := [], returnType := some (.object "java/lang/String") }, accessFlags := 0, code := some k9c3 }
def k9c4 : Code := { maxStack := 1, maxLocals := 1, code := prog_15_method_7_code, exceptionTable := #[], attributes := #[] }
def k9m4 : Method := { name := "label", desc := "()Ljava/lang/String;", sig := { parameters := [], returnType := some (.object "java/lang/String") }, accessFlags := 0, code := some k9c4 }
def k9c5 : Code := { maxStack := 1, maxLocals := 1, code := prog_15_method_8_code, exceptionTable := #[], attributes := #[] }
def k9m5 : Method := { name := "description", desc := "()Ljava/lang/String;", sig := { parameters := [], returnType := some (.object "java/lang/String") }, accessFlags := 0, code := some k9c5 }
def k9c6 : Code := { maxStack := 1, maxLocals := 1, code := prog_15_method_9_code, exceptionTable := #[], attributes := #[] }
def k9m6 : Method := { name := "takesValue", desc := "()Z", sig := { parameters := [], returnType := some .boolean }, accessFlags := 0, code := some k9c6 }
def k9c7 : Code := { maxStack := 1, maxLocals := 1, code := prog_15_method_10_code, exceptionTable := #[], attributes := #[] }
def k9m7 : Method := { name := "isParameter", desc := "()Z", sig := { parameters := [], returnType := some .boolean }, accessFlags := 0, code := some k9c7 }
def k9c8 : Code := { maxStack := 1, maxLocals := 1, code := prog_15_method_11_code, exceptionTable := #[], attributes := #[] }
def k9m8 : Method := { name := "name", desc := "()Ljava/lang/String;", sig := { parameters := [], returnType := some (.object "java/lang/String") }, accessFlags := 0, code := some k9c8 }
/-- com/example/tapeloom/tapeloom/Option -/
def k9 : Class := { plain "com/example/tapeloom/tapeloom/Option" (some 0) with
  accessFlags := 48
  interfaces := #[]
  cf := some (fileOf pool9 8 #[] #[{ accessFlags := 2, nameIndex := 5, descriptorIndex := 24, attributes := #[] }, { accessFlags := 8, nameIndex := 50, descriptorIndex := 51, attributes := #[] }, { accessFlags := 0, nameIndex := 11, descriptorIndex := 34, attributes := #[] }, { accessFlags := 0, nameIndex := 15, descriptorIndex := 34, attributes := #[] }, { accessFlags := 0, nameIndex := 18, descriptorIndex := 34, attributes := #[] }, { accessFlags := 0, nameIndex := 21, descriptorIndex := 34, attributes := #[] }, { accessFlags := 0, nameIndex := 37, descriptorIndex := 38, attributes := #[] }, { accessFlags := 0, nameIndex := 57, descriptorIndex := 38, attributes := #[] }, { accessFlags := 0, nameIndex := 33, descriptorIndex := 34, attributes := #[] }] 48 2 #[] #[{ accessFlags := 18, nameIndex := 11, descriptorIndex := 12, attributes := #[] }, { accessFlags := 18, nameIndex := 15, descriptorIndex := 12, attributes := #[] }, { accessFlags := 18, nameIndex := 18, descriptorIndex := 12, attributes := #[] }, { accessFlags := 18, nameIndex := 21, descriptorIndex := 12, attributes := #[] }])
  fields := #[{ name := "shortName", type := (.object "java/lang/String"), accessFlags := 18, slot := 0, constantValue := 0 }, { name := "longName", type := (.object "java/lang/String"), accessFlags := 18, slot := 1, constantValue := 0 }, { name := "label", type := (.object "java/lang/String"), accessFlags := 18, slot := 2, constantValue := 0 }, { name := "description", type := (.object "java/lang/String"), accessFlags := 18, slot := 3, constantValue := 0 }]
  methods := #[k9m0, k9m1, k9m2, k9m3, k9m4, k9m5, k9m6, k9m7, k9m8]
  instanceTypes := #[(.object "java/lang/String"), (.object "java/lang/String"), (.object "java/lang/String"), (.object "java/lang/String")]
  staticTypes := #[]
  resolved := Array.replicate 80 none
  statics := none }

def pool10 : Array CpInfo := pool [(4, .class_ 6), (1, u "java/lang/Object"), (0, u "<init>"), (0, u "()V"), (5, .class_ 16), (1, u "java/lang/StringLatin1"), (104, u "$assertionsDisabled"), (0, u "Z"), (98, .class_ 223), (1, u "java/lang/StringLatin1$LinesSpliterator"), (166, .class_ 391), (0, u "java/lang/StringLatin1$CharsSpliterator")] 3

def k10m0 : Method := { name := "<init>", desc := "()V", sig := { parameters := [], returnType := none }, accessFlags := 0, code := none }
/-- java/lang/StringLatin1 -/
def k10 : Class := { plain "java/lang/StringLatin1" (some 0) with
  accessFlags := 48
  interfaces := #[]
  cf := some (fileOf pool10 14 #[.nestMembers #[390, 221]] #[{ accessFlags := 0, nameIndex := 7, descriptorIndex := 8, attributes := #[] }] 48 4 #[] #[{ accessFlags := 4120, nameIndex := 121, descriptorIndex := 122, attributes := #[] }])
  fields := #[{ name := "$assertionsDisabled", type := .boolean, accessFlags := 4120, slot := 0, constantValue := 0 }]
  methods := #[k10m0]
  instanceTypes := #[]
  staticTypes := #[.boolean]
  resolved := Array.replicate 395 none
  statics := none }

def pool11 : Array CpInfo := pool [(2, .class_ 4), (1, u "java/lang/Object"), (0, u "<init>"), (0, u "()V"), (17, .class_ 26), (1, u "jdk/internal/util/Preconditions"), (28, .class_ 56), (0, u "jdk/internal/util/Preconditions$4"), (57, .class_ 115), (0, u "jdk/internal/util/Preconditions$1"), (7, u "SIOOBE_FORMATTER"), (0, u "Ljava/util/function/BiFunction;"), (0, .class_ 126), (0, u "jdk/internal/util/Preconditions$2"), (3, u "AIOOBE_FORMATTER"), (0, .class_ 132), (0, u "jdk/internal/util/Preconditions$3"), (3, u "IOOBE_FORMATTER")] 57

def k11m0 : Method := { name := "<init>", desc := "()V", sig := { parameters := [], returnType := none }, accessFlags := 1, code := none }
/-- jdk/internal/util/Preconditions -/
def k11 : Class := { plain "jdk/internal/util/Preconditions" (some 0) with
  accessFlags := 33
  interfaces := #[]
  cf := some (fileOf pool11 24 #[.nestMembers #[55, 131, 125, 114]] #[{ accessFlags := 1, nameIndex := 5, descriptorIndex := 6, attributes := #[] }] 33 2 #[] #[{ accessFlags := 25, nameIndex := 123, descriptorIndex := 124, attributes := #[] }, { accessFlags := 25, nameIndex := 130, descriptorIndex := 124, attributes := #[] }, { accessFlags := 25, nameIndex := 136, descriptorIndex := 124, attributes := #[] }])
  fields := #[{ name := "SIOOBE_FORMATTER", type := (.object "java/util/function/BiFunction"), accessFlags := 25, slot := 0, constantValue := 0 }, { name := "AIOOBE_FORMATTER", type := (.object "java/util/function/BiFunction"), accessFlags := 25, slot := 1, constantValue := 0 }, { name := "IOOBE_FORMATTER", type := (.object "java/util/function/BiFunction"), accessFlags := 25, slot := 2, constantValue := 0 }]
  methods := #[k11m0]
  instanceTypes := #[]
  staticTypes := #[(.object "java/util/function/BiFunction"), (.object "java/util/function/BiFunction"), (.object "java/util/function/BiFunction")]
  resolved := Array.replicate 194 none
  statics := some 1 }

def pool12 : Array CpInfo := pool [(9, u "<init>"), (6, .class_ 18), (1, u "java/lang/Object"), (0, u "()V"), (1, .class_ 23), (1, u "jdk/internal/util/ArraysSupport"), (0, u "LOG2_ARRAY_LONG_INDEX_SCALE"), (0, u "I"), (2, u "U"), (0, u "Ljdk/internal/misc/Unsafe;"), (8, u "BIG_ENDIAN"), (0, u "Z"), (8, u "LOG2_BYTE_BIT_SIZE"), (4, u "LOG2_ARRAY_INT_INDEX_SCALE"), (54, u "JLA"), (0, u "Ljdk/internal/access/JavaLangAccess;"), (11, u "LOG2_ARRAY_BOOLEAN_INDEX_SCALE"), (9, u "LOG2_ARRAY_BYTE_INDEX_SCALE"), (5, u "LOG2_ARRAY_CHAR_INDEX_SCALE"), (5, u "LOG2_ARRAY_SHORT_INDEX_SCALE"), (18, u "LOG2_ARRAY_FLOAT_INDEX_SCALE"), (24, u "LOG2_ARRAY_DOUBLE_INDEX_SCALE"), (89, u "T_BOOLEAN"), (2, u "T_CHAR"), (1, u "T_FLOAT"), (1, u "T_DOUBLE"), (1, u "T_BYTE"), (1, u "T_SHORT"), (1, u "T_INT"), (1, u "T_LONG"), (1, u "SOFT_MAX_ARRAY_LENGTH")] 83

def k12m0 : Method := { name := "<init>", desc := "()V", sig := { parameters := [], returnType := none }, accessFlags := 2, code := none }
/-- jdk/internal/util/ArraysSupport -/
def k12 : Class := { plain "jdk/internal/util/ArraysSupport" (some 0) with
  accessFlags := 33
  interfaces := #[]
  cf := some (fileOf pool12 21 #[] #[{ accessFlags := 2, nameIndex := 9, descriptorIndex := 19, attributes := #[] }] 33 16 #[] #[{ accessFlags := 24, nameIndex := 28, descriptorIndex := 29, attributes := #[] }, { accessFlags := 26, nameIndex := 38, descriptorIndex := 39, attributes := #[] }, { accessFlags := 25, nameIndex := 121, descriptorIndex := 25, attributes := #[] }, { accessFlags := 25, nameIndex := 131, descriptorIndex := 25, attributes := #[] }, { accessFlags := 25, nameIndex := 137, descriptorIndex := 25, attributes := #[] }, { accessFlags := 25, nameIndex := 143, descriptorIndex := 25, attributes := #[] }, { accessFlags := 25, nameIndex := 53, descriptorIndex := 25, attributes := #[] }, { accessFlags := 25, nameIndex := 24, descriptorIndex := 25, attributes := #[] }, { accessFlags := 25, nameIndex := 162, descriptorIndex := 25, attributes := #[] }, { accessFlags := 25, nameIndex := 187, descriptorIndex := 25, attributes := #[] }, { accessFlags := 26, nameIndex := 48, descriptorIndex := 25, attributes := #[] }, { accessFlags := 25, nameIndex := 277, descriptorIndex := 25, attributes := #[] }, { accessFlags := 25, nameIndex := 280, descriptorIndex := 25, attributes := #[] }, { accessFlags := 25, nameIndex := 282, descriptorIndex := 25, attributes := #[] }, { accessFlags := 25, nameIndex := 284, descriptorIndex := 25, attributes := #[] }, { accessFlags := 25, nameIndex := 286, descriptorIndex := 25, attributes := #[] }, { accessFlags := 25, nameIndex := 288, descriptorIndex := 25, attributes := #[] }, { accessFlags := 25, nameIndex := 290, descriptorIndex := 25, attributes := #[] }, { accessFlags := 25, nameIndex := 292, descriptorIndex := 25, attributes := #[] }, { accessFlags := 26, nameIndex := 108, descriptorIndex := 109, attributes := #[] }, { accessFlags := 25, nameIndex := 294, descriptorIndex := 25, attributes := #[] }])
  fields := #[{ name := "U", type := (.object "jdk/internal/misc/Unsafe"), accessFlags := 24, slot := 0, constantValue := 0 }, { name := "BIG_ENDIAN", type := .boolean, accessFlags := 26, slot := 1, constantValue := 0 }, { name := "LOG2_ARRAY_BOOLEAN_INDEX_SCALE", type := .int, accessFlags := 25, slot := 2, constantValue := 0 }, { name := "LOG2_ARRAY_BYTE_INDEX_SCALE", type := .int, accessFlags := 25, slot := 3, constantValue := 0 }, { name := "LOG2_ARRAY_CHAR_INDEX_SCALE", type := .int, accessFlags := 25, slot := 4, constantValue := 0 }, { name := "LOG2_ARRAY_SHORT_INDEX_SCALE", type := .int, accessFlags := 25, slot := 5, constantValue := 0 }, { name := "LOG2_ARRAY_INT_INDEX_SCALE", type := .int, accessFlags := 25, slot := 6, constantValue := 0 }, { name := "LOG2_ARRAY_LONG_INDEX_SCALE", type := .int, accessFlags := 25, slot := 7, constantValue := 0 }, { name := "LOG2_ARRAY_FLOAT_INDEX_SCALE", type := .int, accessFlags := 25, slot := 8, constantValue := 0 }, { name := "LOG2_ARRAY_DOUBLE_INDEX_SCALE", type := .int, accessFlags := 25, slot := 9, constantValue := 0 }, { name := "LOG2_BYTE_BIT_SIZE", type := .int, accessFlags := 26, slot := 10, constantValue := 0 }, { name := "T_BOOLEAN", type := .int, accessFlags := 25, slot := 11, constantValue := 0 }, { name := "T_CHAR", type := .int, accessFlags := 25, slot := 12, constantValue := 0 }, { name := "T_FLOAT", type := .int, accessFlags := 25, slot := 13, constantValue := 0 }, { name := "T_DOUBLE", type := .int, accessFlags := 25, slot := 14, constantValue := 0 }, { name := "T_BYTE", type := .int, accessFlags := 25, slot := 15, constantValue := 0 }, { name := "T_SHORT", type := .int, accessFlags := 25, slot := 16, constantValue := 0 }, { name := "T_INT", type := .int, accessFlags := 25, slot := 17, constantValue := 0 }, { name := "T_LONG", type := .int, accessFlags := 25, slot := 18, constantValue := 0 }, { name := "JLA", type := (.object "jdk/internal/access/JavaLangAccess"), accessFlags := 26, slot := 19, constantValue := 0 }, { name := "SOFT_MAX_ARRAY_LENGTH", type := .int, accessFlags := 25, slot := 20, constantValue := 0 }]
  methods := #[k12m0]
  instanceTypes := #[]
  staticTypes := #[(.object "jdk/internal/misc/Unsafe"), .boolean, .int, .int, .int, .int, .int, .int, .int, .int, .int, .int, .int, .int, .int, .int, .int, .int, .int, (.object "jdk/internal/access/JavaLangAccess"), .int]
  resolved := Array.replicate 378 none
  statics := none }

def pool13 : Array CpInfo := pool [(1, u "java/lang/Cloneable"), (0, .class_ 1), (0, u "java/lang/Object"), (0, .class_ 3)] 3

/-- java/lang/Cloneable -/
def k13 : Class := { plain "java/lang/Cloneable" (some 0) with
  accessFlags := 1537
  interfaces := #[]
  cf := some (fileOf pool13 2 #[] #[] 1537 4 #[] #[])
  fields := #[]
  methods := #[]
  instanceTypes := #[]
  staticTypes := #[]
  resolved := Array.replicate 8 none
  statics := none }

/-- the primitive byte -/
def k14 : Class := { plain "byte" none with kind := .primitive 'B', accessFlags := 0x411 }
/-- [B -/
def k15 : Class := { plain "[B" (some 0) with kind := .array 14 .byte, interfaces := #[13, 2], accessFlags := 1041 }

/-- the primitive char -/
def k16 : Class := { plain "char" none with kind := .primitive 'C', accessFlags := 0x411 }
/-- [C -/
def k17 : Class := { plain "[C" (some 0) with kind := .array 16 .char, interfaces := #[13, 2], accessFlags := 1041 }

/-- the primitive int -/
def k18 : Class := { plain "int" none with kind := .primitive 'I', accessFlags := 0x411 }
/-- [I -/
def k19 : Class := { plain "[I" (some 0) with kind := .array 18 .int, interfaces := #[13, 2], accessFlags := 1041 }

def heap : Heap := #[{ cls := 7, slots := #[.long 0, .int 1, .null, .int 0, .null, .int 0, .int 0], vm := .statics 7 },
  { cls := 11, slots := #[.null, .null, .null], vm := .statics 11 }]
def classes : Array Class := #[k0, k1, k2, k3, k4, k5, k6, k7, k8, k9, k10, k11, k12, k13, k14, k15, k16, k17, k18, k19]
def interned : List (Array UInt16 × Addr) := []
def slotsUsed : Nat := 10
def theMethod : MethodId := ⟨1, 2⟩
def args0 : Array Value := #[.int 5, .int 3, .int 1, .int 2]
def aboutOver (below : List Frame) : State where
  vm := { classes := classes, interned := interned.toArray }
  heap := heap
  slotsUsed := slotsUsed
  threads := #[{ frames := .invoking theMethod args0 :: below }]
def below0 : List Frame := [.native { method := ⟨0, 0⟩, args := #[] }]
def about1 : State := aboutOver below0
def p0 : Program := .bare "" "" ""
def e0 : Env := launch0.env 0 0 0
theorem w_frames : about1.frames = Frame.invoking theMethod args0 :: below0 := rfl
set_option maxRecDepth 65536 in
theorem w_args : argsFit about1.vm theMethod args0 = true := by decide +kernel
set_option maxRecDepth 65536 in
theorem w_heap : heapFits about1 = true := by decide +kernel
set_option maxRecDepth 65536 in
theorem w_runnable : about1.curStatus? = some .runnable := by decide +kernel
set_option maxRecDepth 65536 in
theorem w_alone : about1.alone = true := by decide +kernel
set_option maxRecDepth 65536 in
theorem w_named : about1.methodNamed? x = some theMethod := by decide +kernel
set_option maxRecDepth 65536 in
theorem w_hears : about1.hears theMethod below0 = true := by decide +kernel
set_option maxRecDepth 65536 in
theorem w_ripe : about1.ripe theMethod args0 below0 = true := by decide +kernel
theorem w_running : about1.status = .running := rfl
set_option maxRecDepth 65536 in
theorem w_room : about1.hasRoom e0.platform room_1 = true :=
  launch0.hasRoom_least _ room_1 (by decide +kernel) (by decide +kernel) (by decide +kernel) (by decide +kernel) (by decide +kernel) (by decide +kernel)
theorem allAtoms_all (ts : List Jvm.Cond) (a : Array Jvm.Value) (st : Jvm.State) : (allAtoms ts).before a st = ts.all (fun c => c.before a st) := by
  induction ts with
  | nil => rfl
  | cons c t ih =>
    show (Jvm.Cond.and c (allAtoms t)).before a st = _
    rw [Jvm.Cond.before_and, ih, List.all_cons]
def words1 : List Jvm.Cond := Jvm.Cond.code x code maxLocals ret :: tables_1
/-- a 'code' word, met by the world's own term for the bytes: nothing is compared byte by byte -/
theorem code_word {y : MethodName} {bytes : ByteArray} {mx : Nat} {rt : Option FieldType} {a : Array Value} {s : State} {m : MethodId} {meth : Method} {c : Code} (h1 : s.methodNamed? y = some m) (h2 : s.vm.method? m = some meth) (h3 : meth.code = some c) (h4 : c.code = bytes)
    (h5 : (c.maxLocals == mx && c.exceptionTable.isEmpty && decide (c.maxStack ≤ mostOperands) && decide (meth.sig.returnType = rt) && !meth.locks && decide (parseMethodDescriptor y.desc = some meth.sig)) = true) : (Jvm.Cond.code y bytes mx rt).before a s = true := by
  simp only [Bool.and_eq_true, beq_iff_eq, Bool.not_eq_true', decide_eq_true_eq] at h5
  obtain ⟨⟨⟨⟨⟨g1, g2⟩, g3⟩, g4⟩, g5⟩, g6⟩ := h5
  simp [Cond.before, Cond.holds, Cond.value, h1, h2, h3, h4, g1, g2, g3, g4, g5, g6]
def isCode : Jvm.Cond → Bool
  | .code _ _ _ _ => true
  | _ => false
theorem all_split {L : List Jvm.Cond} {P : Jvm.Cond → Bool} (h1 : L.all (fun c => isCode c || P c) = true) (h2 : ∀ c ∈ L.filter isCode, P c = true) : L.all P = true := by
  refine List.all_eq_true.mpr fun c hc => ?_
  have h := List.all_eq_true.mp h1 c hc
  rcases Bool.eq_false_or_eq_true (isCode c) with hi | hi
  · exact h2 c (List.mem_filter.mpr ⟨hc, hi⟩)
  · simpa [hi] using h
set_option maxRecDepth 65536 in
theorem w_c0 : (Jvm.Cond.code x code maxLocals ret).before args0 about1 = true := code_word (m := ⟨1, 2⟩) (meth := k1m2) (c := k1c2) (by decide +kernel) rfl rfl rfl (by decide +kernel)
set_option maxRecDepth 65536 in
theorem w_c1 : (Jvm.Cond.code ({ cls := "java/lang/String", name := "<init>", desc := "([C)V" } : Jvm.MethodName) jdk_42_method_3_code (2 : Nat) (Option.none : Option Jvm.ClassFile.FieldType)).before args0 about1 = true := code_word (m := ⟨7, 1⟩) (meth := k7m1) (c := k7c1) (by decide +kernel) rfl rfl rfl (by decide +kernel)
set_option maxRecDepth 65536 in
theorem w_c2 : (Jvm.Cond.code ({ cls := "java/lang/String", name := "<init>", desc := "([CIILjava/lang/Void;)V" } : Jvm.MethodName) jdk_42_method_149_code (6 : Nat) (Option.none : Option Jvm.ClassFile.FieldType)).before args0 about1 = true := code_word (m := ⟨7, 3⟩) (meth := k7m3) (c := k7c3) (by decide +kernel) rfl rfl rfl (by decide +kernel)
set_option maxRecDepth 65536 in
theorem w_c3 : (Jvm.Cond.code ({ cls := "java/lang/Object", name := "<init>", desc := "()V" } : Jvm.MethodName) object_method_1_code (1 : Nat) (Option.none : Option Jvm.ClassFile.FieldType)).before args0 about1 = true := code_word (m := ⟨0, 0⟩) (meth := k0m0) (c := k0c0) (by decide +kernel) rfl rfl rfl (by decide +kernel)
set_option maxRecDepth 65536 in
theorem w_c4 : (Jvm.Cond.code ({ cls := "java/lang/StringUTF16", name := "compress", desc := "([CII)[B" } : Jvm.MethodName) jdk_52_method_16_code (6 : Nat) (Option.some (Jvm.ClassFile.FieldType.array Jvm.ClassFile.FieldType.byte))).before args0 about1 = true := code_word (m := ⟨8, 2⟩) (meth := k8m2) (c := k8c2) (by decide +kernel) rfl rfl rfl (by decide +kernel)
set_option maxRecDepth 65536 in
theorem w_c5 : (Jvm.Cond.code ({ cls := "java/lang/StringUTF16", name := "compress", desc := "([CI[BII)I" } : Jvm.MethodName) jdk_52_method_21_code (7 : Nat) (Option.some Jvm.ClassFile.FieldType.int)).before args0 about1 = true := code_word (m := ⟨8, 3⟩) (meth := k8m3) (c := k8c3) (by decide +kernel) rfl rfl rfl (by decide +kernel)
set_option maxRecDepth 65536 in
theorem w_c6 : (Jvm.Cond.code ({ cls := "java/lang/StringUTF16", name := "coderFromArrayLen", desc := "([BI)B" } : Jvm.MethodName) jdk_52_method_15_code (2 : Nat) (Option.some Jvm.ClassFile.FieldType.byte)).before args0 about1 = true := code_word (m := ⟨8, 1⟩) (meth := k8m1) (c := k8c1) (by decide +kernel) rfl rfl rfl (by decide +kernel)
set_option maxRecDepth 65536 in
theorem w_c7 : (Jvm.Cond.code ({ cls := "com/example/tapeloom/tapeloom/Option", name := "flag", desc := "(Ljava/lang/String;Ljava/lang/String;Ljava/lang/String;)Lcom/example/tapeloom/tapeloom/Option;" } : Jvm.MethodName) prog_15_method_2_code (3 : Nat) (Option.some (Jvm.ClassFile.FieldType.object "com/example/tapeloom/tapeloom/Option"))).before args0 about1 = true := code_word (m := ⟨9, 1⟩) (meth := k9m1) (c := k9c1) (by decide +kernel) rfl rfl rfl (by decide +kernel)
set_option maxRecDepth 65536 in
theorem w_c8 : (Jvm.Cond.code ({ cls := "com/example/tapeloom/tapeloom/Option", name := "<init>", desc := "(Ljava/lang/String;Ljava/lang/String;Ljava/lang/String;Ljava/lang/String;)V" } : Jvm.MethodName) prog_15_method_1_code (5 : Nat) (Option.none : Option Jvm.ClassFile.FieldType)).before args0 about1 = true := code_word (m := ⟨9, 0⟩) (meth := k9m0) (c := k9c0) (by decide +kernel) rfl rfl rfl (by decide +kernel)
set_option maxRecDepth 65536 in
theorem w_c9 : (Jvm.Cond.code ({ cls := "com/example/tapeloom/tapeloom/Option", name := "shortName", desc := "()Ljava/lang/String;" } : Jvm.MethodName) prog_15_method_5_code (1 : Nat) (Option.some (Jvm.ClassFile.FieldType.object "java/lang/String"))).before args0 about1 = true := code_word (m := ⟨9, 2⟩) (meth := k9m2) (c := k9c2) (by decide +kernel) rfl rfl rfl (by decide +kernel)
set_option maxRecDepth 65536 in
theorem w_c10 : (Jvm.Cond.code ({ cls := "com/example/tapeloom/tapeloom/OptionFlagPinLaw", name := "eq", desc := "(Ljava/lang/String;Ljava/lang/String;)Z" } : Jvm.MethodName) method_2_code (2 : Nat) (Option.some Jvm.ClassFile.FieldType.boolean)).before args0 about1 = true := code_word (m := ⟨1, 1⟩) (meth := k1m1) (c := k1c1) (by decide +kernel) rfl rfl rfl (by decide +kernel)
set_option maxRecDepth 65536 in
theorem w_c11 : (Jvm.Cond.code ({ cls := "java/lang/String", name := "equals", desc := "(Ljava/lang/Object;)Z" } : Jvm.MethodName) jdk_42_method_66_code (3 : Nat) (Option.some Jvm.ClassFile.FieldType.boolean)).before args0 about1 = true := code_word (m := ⟨7, 2⟩) (meth := k7m2) (c := k7c2) (by decide +kernel) rfl rfl rfl (by decide +kernel)
set_option maxRecDepth 65536 in
theorem w_c12 : (Jvm.Cond.code ({ cls := "com/example/tapeloom/tapeloom/Option", name := "longName", desc := "()Ljava/lang/String;" } : Jvm.MethodName) prog_15_method_6_code (1 : Nat) (Option.some (Jvm.ClassFile.FieldType.object "java/lang/String"))).before args0 about1 = true := code_word (m := ⟨9, 3⟩) (meth := k9m3) (c := k9c3) (by decide +kernel) rfl rfl rfl (by decide +kernel)
set_option maxRecDepth 65536 in
theorem w_c13 : (Jvm.Cond.code ({ cls := "com/example/tapeloom/tapeloom/Option", name := "description", desc := "()Ljava/lang/String;" } : Jvm.MethodName) prog_15_method_8_code (1 : Nat) (Option.some (Jvm.ClassFile.FieldType.object "java/lang/String"))).before args0 about1 = true := code_word (m := ⟨9, 5⟩) (meth := k9m5) (c := k9c5) (by decide +kernel) rfl rfl rfl (by decide +kernel)
set_option maxRecDepth 65536 in
theorem w_c14 : (Jvm.Cond.code ({ cls := "com/example/tapeloom/tapeloom/Option", name := "label", desc := "()Ljava/lang/String;" } : Jvm.MethodName) prog_15_method_7_code (1 : Nat) (Option.some (Jvm.ClassFile.FieldType.object "java/lang/String"))).before args0 about1 = true := code_word (m := ⟨9, 4⟩) (meth := k9m4) (c := k9c4) (by decide +kernel) rfl rfl rfl (by decide +kernel)
set_option maxRecDepth 65536 in
theorem w_c15 : (Jvm.Cond.code ({ cls := "com/example/tapeloom/tapeloom/Option", name := "takesValue", desc := "()Z" } : Jvm.MethodName) prog_15_method_9_code (1 : Nat) (Option.some Jvm.ClassFile.FieldType.boolean)).before args0 about1 = true := code_word (m := ⟨9, 6⟩) (meth := k9m6) (c := k9c6) (by decide +kernel) rfl rfl rfl (by decide +kernel)
set_option maxRecDepth 65536 in
theorem w_c16 : (Jvm.Cond.code ({ cls := "com/example/tapeloom/tapeloom/Option", name := "isParameter", desc := "()Z" } : Jvm.MethodName) prog_15_method_10_code (1 : Nat) (Option.some Jvm.ClassFile.FieldType.boolean)).before args0 about1 = true := code_word (m := ⟨9, 7⟩) (meth := k9m7) (c := k9c7) (by decide +kernel) rfl rfl rfl (by decide +kernel)
set_option maxRecDepth 65536 in
theorem w_c17 : (Jvm.Cond.code ({ cls := "com/example/tapeloom/tapeloom/Option", name := "name", desc := "()Ljava/lang/String;" } : Jvm.MethodName) prog_15_method_11_code (1 : Nat) (Option.some (Jvm.ClassFile.FieldType.object "java/lang/String"))).before args0 about1 = true := code_word (m := ⟨9, 8⟩) (meth := k9m8) (c := k9c8) (by decide +kernel) rfl rfl rfl (by decide +kernel)
def codes1 : List Jvm.Cond := [Jvm.Cond.code x code maxLocals ret, Jvm.Cond.code ({ cls := "java/lang/String", name := "<init>", desc := "([C)V" } : Jvm.MethodName) jdk_42_method_3_code (2 : Nat) (Option.none : Option Jvm.ClassFile.FieldType), Jvm.Cond.code ({ cls := "java/lang/String", name := "<init>", desc := "([CIILjava/lang/Void;)V" } : Jvm.MethodName) jdk_42_method_149_code (6 : Nat) (Option.none : Option Jvm.ClassFile.FieldType), Jvm.Cond.code ({ cls := "java/lang/Object", name := "<init>", desc := "()V" } : Jvm.MethodName) object_method_1_code (1 : Nat) (Option.none : Option Jvm.ClassFile.FieldType), Jvm.Cond.code ({ cls := "java/lang/StringUTF16", name := "compress", desc := "([CII)[B" } : Jvm.MethodName) jdk_52_method_16_code (6 : Nat) (Option.some (Jvm.ClassFile.FieldType.array Jvm.ClassFile.FieldType.byte)), Jvm.Cond.code ({ cls := "java/lang/StringUTF16", name := "compress", desc := "([CI[BII)I" } : Jvm.MethodName) jdk_52_method_21_code (7 : Nat) (Option.some Jvm.ClassFile.FieldType.int), Jvm.Cond.code ({ cls := "java/lang/StringUTF16", name := "coderFromArrayLen", desc := "([BI)B" } : Jvm.MethodName) jdk_52_method_15_code (2 : Nat) (Option.some Jvm.ClassFile.FieldType.byte), Jvm.Cond.code ({ cls := "com/example/tapeloom/tapeloom/Option", name := "flag", desc := "(Ljava/lang/String;Ljava/lang/String;Ljava/lang/String;)Lcom/example/tapeloom/tapeloom/Option;" } : Jvm.MethodName) prog_15_method_2_code (3 : Nat) (Option.some (Jvm.ClassFile.FieldType.object "com/example/tapeloom/tapeloom/Option")), Jvm.Cond.code ({ cls := "com/example/tapeloom/tapeloom/Option", name := "<init>", desc := "(Ljava/lang/String;Ljava/lang/String;Ljava/lang/String;Ljava/lang/String;)V" } : Jvm.MethodName) prog_15_method_1_code (5 : Nat) (Option.none : Option Jvm.ClassFile.FieldType), Jvm.Cond.code ({ cls := "com/example/tapeloom/tapeloom/Option", name := "shortName", desc := "()Ljava/lang/String;" } : Jvm.MethodName) prog_15_method_5_code (1 : Nat) (Option.some (Jvm.ClassFile.FieldType.object "java/lang/String")), Jvm.Cond.code ({ cls := "com/example/tapeloom/tapeloom/OptionFlagPinLaw", name := "eq", desc := "(Ljava/lang/String;Ljava/lang/String;)Z" } : Jvm.MethodName) method_2_code (2 : Nat) (Option.some Jvm.ClassFile.FieldType.boolean), Jvm.Cond.code ({ cls := "java/lang/String", name := "equals", desc := "(Ljava/lang/Object;)Z" } : Jvm.MethodName) jdk_42_method_66_code (3 : Nat) (Option.some Jvm.ClassFile.FieldType.boolean), Jvm.Cond.code ({ cls := "com/example/tapeloom/tapeloom/Option", name := "longName", desc := "()Ljava/lang/String;" } : Jvm.MethodName) prog_15_method_6_code (1 : Nat) (Option.some (Jvm.ClassFile.FieldType.object "java/lang/String")), Jvm.Cond.code ({ cls := "com/example/tapeloom/tapeloom/Option", name := "description", desc := "()Ljava/lang/String;" } : Jvm.MethodName) prog_15_method_8_code (1 : Nat) (Option.some (Jvm.ClassFile.FieldType.object "java/lang/String")), Jvm.Cond.code ({ cls := "com/example/tapeloom/tapeloom/Option", name := "label", desc := "()Ljava/lang/String;" } : Jvm.MethodName) prog_15_method_7_code (1 : Nat) (Option.some (Jvm.ClassFile.FieldType.object "java/lang/String")), Jvm.Cond.code ({ cls := "com/example/tapeloom/tapeloom/Option", name := "takesValue", desc := "()Z" } : Jvm.MethodName) prog_15_method_9_code (1 : Nat) (Option.some Jvm.ClassFile.FieldType.boolean), Jvm.Cond.code ({ cls := "com/example/tapeloom/tapeloom/Option", name := "isParameter", desc := "()Z" } : Jvm.MethodName) prog_15_method_10_code (1 : Nat) (Option.some Jvm.ClassFile.FieldType.boolean), Jvm.Cond.code ({ cls := "com/example/tapeloom/tapeloom/Option", name := "name", desc := "()Ljava/lang/String;" } : Jvm.MethodName) prog_15_method_11_code (1 : Nat) (Option.some (Jvm.ClassFile.FieldType.object "java/lang/String"))]
set_option maxRecDepth 65536 in
theorem codes_eq : words1.filter isCode = codes1 := rfl
theorem w_codes : ∀ c ∈ words1.filter isCode, c.before args0 about1 = true := by
  rw [codes_eq]
  intro c hc
  simp only [codes1, List.mem_cons, List.not_mem_nil, or_false] at hc
  rcases hc with rfl | rfl | rfl | rfl | rfl | rfl | rfl | rfl | rfl | rfl | rfl | rfl | rfl | rfl | rfl | rfl | rfl | rfl
  · exact w_c0
  · exact w_c1
  · exact w_c2
  · exact w_c3
  · exact w_c4
  · exact w_c5
  · exact w_c6
  · exact w_c7
  · exact w_c8
  · exact w_c9
  · exact w_c10
  · exact w_c11
  · exact w_c12
  · exact w_c13
  · exact w_c14
  · exact w_c15
  · exact w_c16
  · exact w_c17
set_option maxRecDepth 65536 in
theorem w_t1 : (words1.take 24).all (fun c => isCode c || c.before args0 about1) = true := by decide +kernel
set_option maxRecDepth 65536 in
theorem w_t2 : ((words1.drop 24).take 24).all (fun c => isCode c || c.before args0 about1) = true := by decide +kernel
set_option maxRecDepth 65536 in
theorem w_t3 : (((words1.drop 24).drop 24).take 24).all (fun c => isCode c || c.before args0 about1) = true := by decide +kernel
set_option maxRecDepth 65536 in
theorem w_t4 : (((words1.drop 24).drop 24).drop 24).all (fun c => isCode c || c.before args0 about1) = true := by decide +kernel
theorem w_tables : (allAtoms (Jvm.Cond.code x code maxLocals ret :: tables_1)).before args0 about1 = true := by
  rw [allAtoms_all]
  show words1.all (fun c => c.before args0 about1) = true
  refine all_split ?_ w_codes
  rw [← List.take_append_drop 24 words1, List.all_append, w_t1, ← List.take_append_drop 24 (words1.drop 24), List.all_append, w_t2, ← List.take_append_drop 24 ((words1.drop 24).drop 24), List.all_append, w_t3, w_t4]
  rfl
set_option maxRecDepth 65536 in
theorem w_rest : rest_1_c.before args0 about1 = true := by decide +kernel
set_option maxRecDepth 65536 in
theorem w_case : (Jvm.Cond.and given_1 narrow_1).before args0 about1 = true := by decide +kernel
theorem w_applies : (headSpec (Jvm.Cond.code x code maxLocals ret :: tables_1) room_1).applies x e0.platform about1 = true :=
  (Spec.applies_iff w_frames).mpr ⟨w_running, w_runnable, w_alone, w_named, w_hears, w_ripe, w_room, w_tables⟩
theorem atStart : AtStart classFile x code maxLocals ret World_1 tables_1 room_1 Calls_1 rest_1 Pre_1 launch0 p0 e0 about1 theMethod args0 below0 :=
  ⟨lists_1, trivial, launch0.admits_env _ _ _, launch0.least_env, fairChoices_fair.cas, fairChoices_fair.clock, w_frames, w_args, w_heap, w_applies, trivial, w_rest, w_case⟩
end start1
theorem witness_1 : WitnessClaimed_1 := ⟨start1.p0, start1.e0, start1.about1, start1.theMethod, start1.args0, start1.below0, start1.atStart⟩
end Jvm.Pilot.@@N@@
