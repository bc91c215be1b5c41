import JvmDerived
import JvmDerived.Pilot.@@N@@Statement
import JvmDerived.Pilot.@@N@@Code
set_option linter.unusedVariables false
set_option linter.unusedSimpArgs false
/- laws to paste: Road.backV (cut by pick.py; bodies as the Statement names them) -/
namespace Jvm.Pilot.@@N@@
namespace StrChars
open Jvm Sem ClassFile Op Lib Jvm.Stand Jvm.Free.XT Jvm.Free.ALB Jvm.Free.JM Jvm.Free
open Jvm.Lib.Cold (StaticIs)
/-- a char array whose places are chars -/
def Ch (a : Addr) (A : Cell) (U : State) : Prop := Arr .char a A U ∧ Typed .char A
theorem Ch.mv {a : Addr} {A : Cell} {U U' : State} (h : Ch a A U) (hal : U.vm.Alike U'.vm) (hh : U'.heap = U.heap) : Ch a A U' := ⟨h.1.mv hal hh, h.2⟩
theorem Ch.keep {a : Addr} {A : Cell} {U U' : State} (h : Ch a A U) (hal : U.vm.Alike U'.vm) (hk : U'.heap[a]? = some A) : Ch a A U' := ⟨h.1.keep hal hk, h.2⟩
/-- what place i of a char[]'s cell holds -/
def cv (A : Cell) (i : Nat) : Int32 := match A.slots[i]? with | some (.int x) => x | _ => 0
theorem Ch.get {a : Addr} {A : Cell} {U : State} (h : Ch a A U) {i : Nat} (hi : i < A.slots.size) : A.slots[i]? = some (.int (cv A i)) := by
  have e := Array.getElem?_eq_getElem hi
  have f := h.2 i _ e
  unfold cv; rw [e]
  generalize A.slots[i] = v at f
  cases v <;> simp [fits] at f ⊢
/-- the byte that i2b leaves of a char -/
def lo8 (x : Int32) : Int32 := x.toInt8.toInt32
theorem fits_lo8 (y : Int32) : fits .byte (.int (lo8 y)) = true := by
  have h1 := y.toInt8.le_toInt
  have h2 := y.toInt8.toInt_lt
  simp only [lo8, fits, Bool.and_eq_true, decide_eq_true_eq, Int32.le_iff_toInt_le, Int8.toInt_toInt32, show (-128 : Int32).toInt = -128 from by decide, show (127 : Int32).toInt = 127 from by decide]
  omega
/-- A' is A but that each place j of lo .. hi - 1 holds f j -/
def Laid (A A' : Cell) (lo hi : Nat) (f : Nat → Value) : Prop := A'.cls = A.cls ∧ A'.vm = A.vm ∧ A'.slots.size = A.slots.size ∧ ∀ i, A'.slots[i]? = if lo ≤ i ∧ i < hi then some (f i) else A.slots[i]?
theorem Laid.zero (A : Cell) (lo : Nat) (f : Nat → Value) : Laid A A lo (lo + 0) f := ⟨rfl, rfl, rfl, fun i => by rw [if_neg (by omega)]⟩
theorem Laid.step {A Ak : Cell} {lo k : Nat} {f : Nat → Value} {v : Value} (h : Laid A Ak lo k f) (hlo : lo ≤ k) (hk : k < Ak.slots.size) (hv : v = f k) : Laid A (Ak.setSlot k v) lo (k + 1) f := by
  refine ⟨h.1, h.2.1, by simpa [Cell.setSlot] using h.2.2.1, fun i => ?_⟩
  by_cases e : k = i
  · subst e; rw [Cell.slots_setSlot_self v hk, if_pos (by omega), hv]
  · rw [Cell.slots_setSlot_ne v e, h.2.2.2 i]
    by_cases q : lo ≤ i ∧ i < k
    · rw [if_pos q, if_pos (by omega)]
    · rw [if_neg q, if_neg (by omega)]
def U16 : String := "java/lang/StringUTF16"
namespace Cmp5
def yN : MethodName := ⟨"java/lang/StringUTF16", "compress", "([CI[BII)I"⟩
abbrev yB : ByteArray := jdk_52_method_21_code
theorem d0 : decode yB 0 = .ok (.iconst 0, 1) := by decide +kernel
theorem d1 : decode yB 1 = .ok (.istore 5, 2) := by decide +kernel
theorem d3 : decode yB 3 = .ok (.iload 5, 2) := by decide +kernel
theorem d5 : decode yB 5 = .ok (.iload 4, 2) := by decide +kernel
theorem d7 : decode yB 7 = .ok (.if_icmp (.ge) 37, 3) := by decide +kernel
theorem d10 : decode yB 10 = .ok (.aload_n 0, 1) := by decide +kernel
theorem d11 : decode yB 11 = .ok (.iload_n 1, 1) := by decide +kernel
theorem d12 : decode yB 12 = .ok (.caload, 1) := by decide +kernel
theorem d13 : decode yB 13 = .ok (.istore 6, 2) := by decide +kernel
theorem d15 : decode yB 15 = .ok (.iload 6, 2) := by decide +kernel
theorem d17 : decode yB 17 = .ok (.sipush 255, 3) := by decide +kernel
theorem d20 : decode yB 20 = .ok (.if_icmp (.le) 6, 3) := by decide +kernel
theorem d26 : decode yB 26 = .ok (.aload_n 2, 1) := by decide +kernel
theorem d27 : decode yB 27 = .ok (.iload_n 3, 1) := by decide +kernel
theorem d28 : decode yB 28 = .ok (.iload 6, 2) := by decide +kernel
theorem d30 : decode yB 30 = .ok (.i2b, 1) := by decide +kernel
theorem d31 : decode yB 31 = .ok (.bastore, 1) := by decide +kernel
theorem d32 : decode yB 32 = .ok (.iinc 1 1, 3) := by decide +kernel
theorem d35 : decode yB 35 = .ok (.iinc 3 1, 3) := by decide +kernel
theorem d38 : decode yB 38 = .ok (.iinc 5 1, 3) := by decide +kernel
theorem d41 : decode yB 41 = .ok (.goto (-38), 3) := by decide +kernel
theorem d44 : decode yB 44 = .ok (.iload 4, 2) := by decide +kernel
theorem d46 : decode yB 46 = .ok (.ireturn, 1) := by decide +kernel
def site : List Cond := []
def tab : Cond := tabOf yN yB 7 (some .int) site
def P (b : Addr) (A : Cell) (d : Addr) (B : Cell) (o q len : Nat) (args : Array Value) (s : State) : Prop := args = #[.ref b, .int (Int32.ofNat o), .ref d, .int (Int32.ofNat q), .int (Int32.ofNat len)] ∧ Ch b A s ∧ Arr .byte d B s ∧ b ≠ d ∧ o + len ≤ A.slots.size ∧ q + len ≤ B.slots.size ∧ ∀ i, i < len → ¬ 255 < cv A (o + i)
def E (b : Addr) (A : Cell) (d : Addr) (B : Cell) (o q len : Nat) (r : Option Value) (s u : State) : Prop := r = some (.int (Int32.ofNat len)) ∧ ∃ B', Put d B' s u ∧ Laid B B' q (q + len) (fun j => Value.int (lo8 (cv A (o + (j - q)))))
/-- no char of the range above 255: len; the places written hold each char's low byte -/
theorem law (l : Launch) (b : Addr) (A : Cell) (d : Addr) (B : Cell) (o q len : Nat) : Law l yN 5 5 0 0 yB 7 (some .int) site (P b A d B o q len) (E b A d B o q len) (copyLocs d q len) 0 0 := by
  refine Law.of_walk (plainFor_of_name (by decide +kernel)) (by decide +kernel) (by decide +kernel) (by decide) (fun _ _ h => by rw [h.1]; rfl) (fun _ U U' hal hh h => ⟨h.1, h.2.1.mv hal hh, h.2.2.1.mv hal hh, h.2.2.2⟩) (fun r U U' V V' h1 hal h2 h => ⟨h.1, h.2.elim fun B' q => ⟨B', q.1.mv h1 h2, q.2⟩⟩) ?_
  intro p e s m args below meth c s₁ X0 hexec hbytes hml hret hlk hnm hown hh0 W hP
  obtain ⟨rfl, hA, hB, hne, l1, l2, hp⟩ := hP
  have c1 : Steps p.tables e below (s₁.setTop (entryFrame m #[.ref b, .int (Int32.ofNat o), .ref d, .int (Int32.ofNat q), .int (Int32.ofNat len)] 7)) (s₁.setTop (mkF m 0 #[.val (.ref b), .val (.int (Int32.ofNat o)), .val (.ref d), .val (.int (Int32.ofNat q)), .val (.int (Int32.ofNat len)), .unset, .unset] [])) := entry rfl
  have hA0 := hA.1.mv X0.warmed.alike hh0
  have hB0 := hB.mv X0.warmed.alike hh0
  have a31 := hA.1.2.2.2
  have c2 : Steps p.tables e below (s₁.setTop (entryFrame m #[.ref b, .int (Int32.ofNat o), .ref d, .int (Int32.ofNat q), .int (Int32.ofNat len)] 7)) (s₁.setTop (mkF m 3 #[.val (.ref b), .val (.int (Int32.ofNat o)), .val (.ref d), .val (.int (Int32.ofNat q)), .val (.int (Int32.ofNat len)), .val (.int 0), .unset] [])) := c1.trans (by
    refine iconstV X0.here hexec rfl 0 (hb hbytes d0) (by decide) ?_
    refine XS.istore X0.here hexec rfl (hb hbytes d1) rfl rfl ?_
    exact Steps.refl _)
  have loop : ∀ (r i : Nat), i + r = len → ∀ (z : Slot), (z = .unset ∨ ∃ w, z = .val w ∧ w.category = 1) → ∀ (Tl : State) (Bk : Cell), Stand p l e { frames := 0, locals := 0, cells := 0, slots := 0 } s m #[.ref b, .int (Int32.ofNat o), .ref d, .int (Int32.ofNat q), .int (Int32.ofNat len)] below meth c Tl ([] ++ copyLocs d q i) 0 0 → Put d Bk s₁ Tl → Laid B Bk q (q + i) (fun j => Value.int (lo8 (cv A (o + (j - q))))) →
      Steps p.tables e below (s₁.setTop (entryFrame m #[.ref b, .int (Int32.ofNat o), .ref d, .int (Int32.ofNat q), .int (Int32.ofNat len)] 7)) (Tl.setTop (mkF m 3 #[.val (.ref b), .val (.int (Int32.ofNat (o + i))), .val (.ref d), .val (.int (Int32.ofNat (q + i))), .val (.int (Int32.ofNat len)), .val (.int (Int32.ofNat i)), z] [])) → ∃ (T' : State) (B' : Cell) (z' : Slot), Stand p l e { frames := 0, locals := 0, cells := 0, slots := 0 } s m #[.ref b, .int (Int32.ofNat o), .ref d, .int (Int32.ofNat q), .int (Int32.ofNat len)] below meth c T' ([] ++ copyLocs d q len) 0 0 ∧ Put d B' s₁ T' ∧ Laid B B' q (q + len) (fun j => Value.int (lo8 (cv A (o + (j - q))))) ∧
      Steps p.tables e below (s₁.setTop (entryFrame m #[.ref b, .int (Int32.ofNat o), .ref d, .int (Int32.ofNat q), .int (Int32.ofNat len)] 7)) (T'.setTop (mkF m 3 #[.val (.ref b), .val (.int (Int32.ofNat (o + len))), .val (.ref d), .val (.int (Int32.ofNat (q + len))), .val (.int (Int32.ofNat len)), .val (.int (Int32.ofNat len)), z'] [])) := by
    intro r
    induction r with
    | zero =>
      intro i hi z hz Tl Bk Xl pl fl cl
      have hil : i = len := by omega
      rw [hil] at Xl fl cl
      exact ⟨Tl, Bk, z, Xl, pl, fl, cl⟩
    | succ r ih =>
      intro i hi z hz Tl Bk Xl pl fl cl
      have all := X0.warmed.alike.symm.trans Xl.warmed.alike
      have hAl := hA0.keep all (pl.other hne hA0.1)
      have hBk := hB0.like all pl.1 fl.1 fl.2.1 fl.2.2.1
      have hlt : q + i < Bk.slots.size := by rw [fl.2.2.1]; omega
      have c3 : Steps p.tables e below (s₁.setTop (entryFrame m #[.ref b, .int (Int32.ofNat o), .ref d, .int (Int32.ofNat q), .int (Int32.ofNat len)] 7)) (Tl.setTop (mkF m 12 #[.val (.ref b), .val (.int (Int32.ofNat (o + i))), .val (.ref d), .val (.int (Int32.ofNat (q + i))), .val (.int (Int32.ofNat len)), .val (.int (Int32.ofNat i)), z] [.int (Int32.ofNat (o + i)), .ref b])) := cl.trans (by
        refine XS.iload Xl.here hexec rfl (hb hbytes d3) rfl ?_
        refine XS.iload Xl.here hexec rfl (hb hbytes d5) rfl ?_
        refine XS.icmpNo Xl.here hexec rfl (hb hbytes d7) rfl (ii_ge_f (lt32 (by omega) (by omega))) ?_
        refine XS.aloadN Xl.here hexec rfl (hb hbytes d10) rfl rfl ?_
        refine XS.iloadN Xl.here hexec rfl (hb hbytes d11) rfl ?_
        exact Steps.refl _)
      have c4 : Steps p.tables e below (s₁.setTop (entryFrame m #[.ref b, .int (Int32.ofNat o), .ref d, .int (Int32.ofNat q), .int (Int32.ofNat len)] 7)) (Tl.setTop (mkF m 13 #[.val (.ref b), .val (.int (Int32.ofNat (o + i))), .val (.ref d), .val (.int (Int32.ofNat (q + i))), .val (.int (Int32.ofNat len)), .val (.int (Int32.ofNat i)), z] [.int (cv A (o + i))])) := c3.trans (by
        refine Xl.aget hexec hAl rfl (hA.get (i := o + i) (by omega)) rfl rfl (hb hbytes d12) ?_
        exact Steps.refl _)
      have c5 : Steps p.tables e below (s₁.setTop (entryFrame m #[.ref b, .int (Int32.ofNat o), .ref d, .int (Int32.ofNat q), .int (Int32.ofNat len)] 7)) (Tl.setTop (mkF m 15 #[.val (.ref b), .val (.int (Int32.ofNat (o + i))), .val (.ref d), .val (.int (Int32.ofNat (q + i))), .val (.int (Int32.ofNat len)), .val (.int (Int32.ofNat i)), .val (.int (cv A (o + i)))] [])) := c4.trans (by
        refine XS.istoreS Xl.here hexec rfl (hb hbytes d13) rfl rfl hz ?_
        exact Steps.refl _)
      have c6 : Steps p.tables e below (s₁.setTop (entryFrame m #[.ref b, .int (Int32.ofNat o), .ref d, .int (Int32.ofNat q), .int (Int32.ofNat len)] 7)) (Tl.setTop (mkF m 31 #[.val (.ref b), .val (.int (Int32.ofNat (o + i))), .val (.ref d), .val (.int (Int32.ofNat (q + i))), .val (.int (Int32.ofNat len)), .val (.int (Int32.ofNat i)), .val (.int (cv A (o + i)))] [.int (lo8 (cv A (o + i))), .int (Int32.ofNat (q + i)), .ref d])) := c5.trans (by
        refine XS.iload Xl.here hexec rfl (hb hbytes d15) rfl ?_
        refine sipushV Xl.here hexec rfl 255 (hb hbytes d17) (by decide) ?_
        refine XS.icmpYes Xl.here hexec rfl (pc0 := 20) rfl (hb hbytes d20) rfl (ii_le_t (hp i (by omega))) (by decide) rfl ?_
        refine XS.aloadN Xl.here hexec rfl (hb hbytes d26) rfl rfl ?_
        refine XS.iloadN Xl.here hexec rfl (hb hbytes d27) rfl ?_
        refine XS.iload Xl.here hexec rfl (hb hbytes d28) rfl ?_
        refine i2b Xl.here hexec rfl (hb hbytes d30) rfl ?_
        exact Steps.refl _)
      obtain ⟨T7, X7, p7, st7⟩ := Xl.aput hexec hBk rfl hlt rfl (fits_lo8 (cv A (o + i))) (g := (mkF m 31 #[.val (.ref b), .val (.int (Int32.ofNat (o + i))), .val (.ref d), .val (.int (Int32.ofNat (q + i))), .val (.int (Int32.ofNat len)), .val (.int (Int32.ofNat i)), .val (.int (cv A (o + i)))] [.int (lo8 (cv A (o + i))), .int (Int32.ofNat (q + i)), .ref d])) rfl (rest := []) rfl (hb hbytes d31)
      have c8 : Steps p.tables e below (s₁.setTop (entryFrame m #[.ref b, .int (Int32.ofNat o), .ref d, .int (Int32.ofNat q), .int (Int32.ofNat len)] 7)) (T7.setTop (mkF m 32 #[.val (.ref b), .val (.int (Int32.ofNat (o + i))), .val (.ref d), .val (.int (Int32.ofNat (q + i))), .val (.int (Int32.ofNat len)), .val (.int (Int32.ofNat i)), .val (.int (cv A (o + i)))] [])) := c6.trans (st7 _ (Steps.refl _))
      have c9 : Steps p.tables e below (s₁.setTop (entryFrame m #[.ref b, .int (Int32.ofNat o), .ref d, .int (Int32.ofNat q), .int (Int32.ofNat len)] 7)) (T7.setTop (mkF m 3 #[.val (.ref b), .val (.int (Int32.ofNat (o + i) + 1)), .val (.ref d), .val (.int (Int32.ofNat (q + i) + 1)), .val (.int (Int32.ofNat len)), .val (.int (Int32.ofNat i + 1)), .val (.int (cv A (o + i)))] [])) := c8.trans (by
        refine iincV X7.here hexec rfl 1 (hb hbytes d32) (by decide) rfl rfl ?_
        refine iincV X7.here hexec rfl 1 (hb hbytes d35) (by decide) rfl rfl ?_
        refine iincV X7.here hexec rfl 1 (hb hbytes d38) (by decide) rfl rfl ?_
        refine XS.goto X7.here hexec rfl (pc0 := 41) rfl (hb hbytes d41) (by decide) rfl ?_
        exact Steps.refl _)
      have c10 : Steps p.tables e below (s₁.setTop (entryFrame m #[.ref b, .int (Int32.ofNat o), .ref d, .int (Int32.ofNat q), .int (Int32.ofNat len)] 7)) (T7.setTop (mkF m 3 #[.val (.ref b), .val (.int (Int32.ofNat (o + (i + 1)))), .val (.ref d), .val (.int (Int32.ofNat (q + (i + 1)))), .val (.int (Int32.ofNat len)), .val (.int (Int32.ofNat (i + 1))), .val (.int (cv A (o + i)))] [])) := by
        have := c9
        rw [succ32, succ32, succ32] at this
        exact this
      exact ih (i + 1) (by omega) _ (Or.inr ⟨_, rfl, rfl⟩) T7 _ (by rw [copyLocs_step, ← List.append_assoc]; exact X7) (pl.trans p7) (fl.step (by omega) hlt (by simp)) c10
  obtain ⟨T9, B9, z9, X9, p9, f9, g9⟩ := loop len 0 (by omega) .unset (Or.inl rfl) s₁ B (by simpa [copyLocs] using X0) ⟨hB0.1, fun _ _ => rfl, rfl⟩ (Laid.zero _ _ _) c2
  have c11 : Steps p.tables e below (s₁.setTop (entryFrame m #[.ref b, .int (Int32.ofNat o), .ref d, .int (Int32.ofNat q), .int (Int32.ofNat len)] 7)) (T9.setTop (mkF m 46 #[.val (.ref b), .val (.int (Int32.ofNat (o + len))), .val (.ref d), .val (.int (Int32.ofNat (q + len))), .val (.int (Int32.ofNat len)), .val (.int (Int32.ofNat len)), z9] [.int (Int32.ofNat len)])) := g9.trans (by
    refine XS.iload X9.here hexec rfl (hb hbytes d3) rfl ?_
    refine XS.iload X9.here hexec rfl (hb hbytes d5) rfl ?_
    refine XS.icmpYes X9.here hexec rfl (pc0 := 7) rfl (hb hbytes d7) rfl (ii_ge_t (nlt32 (by omega) (Nat.le_refl _))) (by decide) rfl ?_
    refine XS.iload X9.here hexec rfl (hb hbytes d44) rfl ?_
    exact Steps.refl _)
  exact ⟨T9, some (.int (Int32.ofNat len)), _, _, _, X9, by simp, rfl, rfl, (fun h => by cases h), ⟨rfl, B9, p9.from hh0, f9⟩, fun fs hl => c11.trans (X9.ireturnOut hexec hret rfl (Or.inl rfl) (hb hbytes d46) hl)⟩
end Cmp5
namespace Cmp3
def yN : MethodName := ⟨"java/lang/StringUTF16", "compress", "([CII)[B"⟩
abbrev yB : ByteArray := jdk_52_method_16_code
theorem d0 : decode yB 0 = .ok (.iload_n 2, 1) := by decide +kernel
theorem d1 : decode yB 1 = .ok (.newarray .byte, 2) := by decide +kernel
theorem d3 : decode yB 3 = .ok (.astore_n 3, 1) := by decide +kernel
theorem d4 : decode yB 4 = .ok (.aload_n 0, 1) := by decide +kernel
theorem d5 : decode yB 5 = .ok (.iload_n 1, 1) := by decide +kernel
theorem d6 : decode yB 6 = .ok (.aload_n 3, 1) := by decide +kernel
theorem d7 : decode yB 7 = .ok (.iconst 0, 1) := by decide +kernel
theorem d8 : decode yB 8 = .ok (.iload_n 2, 1) := by decide +kernel
theorem d9 : decode yB 9 = .ok (.invokestatic 115, 3) := by decide +kernel
theorem d12 : decode yB 12 = .ok (.istore 4, 2) := by decide +kernel
theorem d14 : decode yB 14 = .ok (.iload 4, 2) := by decide +kernel
theorem d16 : decode yB 16 = .ok (.iload_n 2, 1) := by decide +kernel
theorem d17 : decode yB 17 = .ok (.if_icmp (.eq) 40, 3) := by decide +kernel
theorem d57 : decode yB 57 = .ok (.aload_n 3, 1) := by decide +kernel
theorem d58 : decode yB 58 = .ok (.areturn, 1) := by decide +kernel
def site : List Cond := [.arrayClass .byte, Cmp5.tab] ++ staticW U16 115 Cmp5.yN
def tab : Cond := tabOf yN yB 6 (some (.array .byte)) site
def P (b : Addr) (A : Cell) (o len : Nat) (args : Array Value) (s : State) : Prop := args = #[.ref b, .int (Int32.ofNat o), .int (Int32.ofNat len)] ∧ Ch b A s ∧ o + len ≤ A.slots.size ∧ len ≤ 536870912 ∧ ∀ i, i < len → ¬ 255 < cv A (o + i)
def E (b : Addr) (A : Cell) (o len : Nat) (r : Option Value) (s u : State) : Prop := NewArr .byte "[B" len (fun j => .int (lo8 (cv A (o + j)))) r s u ∧ u.heap.size = s.heap.size + 1
/-- no char of the range above 255: a new byte[] of their low bytes -/
theorem law (l : Launch) (b : Addr) (A : Cell) (o len : Nat) : Law l yN 3 3 1 18 yB 6 (some (.array .byte)) site (P b A o len) (E b A o len) [] 1 len := by
  refine Law.of_walk (plainFor_of_name (by decide +kernel)) (by decide +kernel) (by decide +kernel) (by decide) (fun _ _ h => by rw [h.1]; rfl) (fun _ U U' hal hh h => ⟨h.1, h.2.1.mv hal hh, h.2.2⟩) (fun r U U' V V' h1 hal h2 h => ⟨NewArr.mv r U U' V V' h1 hal h2 h.1, by rw [h1, h2]; exact h.2⟩) ?_
  intro p e s m args below meth c s₁ X0 hexec hbytes hml hret hlk hnm hown hh0 W hP
  obtain ⟨rfl, hA, l1, l2, hp⟩ := hP
  have a31 := hA.1.2.2.2
  have c1 : Steps p.tables e below (s₁.setTop (entryFrame m #[.ref b, .int (Int32.ofNat o), .int (Int32.ofNat len)] 6)) (s₁.setTop (mkF m 0 #[.val (.ref b), .val (.int (Int32.ofNat o)), .val (.int (Int32.ofNat len)), .unset, .unset, .unset] [])) := entry rfl
  have c2 : Steps p.tables e below (s₁.setTop (entryFrame m #[.ref b, .int (Int32.ofNat o), .int (Int32.ofNat len)] 6)) (s₁.setTop (mkF m 1 #[.val (.ref b), .val (.int (Int32.ofNat o)), .val (.int (Int32.ofNat len)), .unset, .unset, .unset] [.int (Int32.ofNat len)])) := c1.trans (by
    refine XS.iloadN X0.here hexec rfl (hb hbytes d0) rfl ?_
    exact Steps.refl _)
  obtain ⟨T3, B3, X3, ba3, bs3, bv3, bh3, bf3, st3⟩ := X0.anew hexec (atype := .byte) (wk W (.arrayClass .byte)) rfl (by show len * 1 ≤ _; omega) (by omega) (g := (mkF m 1 #[.val (.ref b), .val (.int (Int32.ofNat o)), .val (.int (Int32.ofNat len)), .unset, .unset, .unset] [.int (Int32.ofNat len)])) rfl (hb hbytes d1) (rest := []) rfl (Nat.le_refl _) (by show 0 + len ≤ len; omega)
  rw [hh0] at ba3 st3
  have kp3 : XT.Kept s T3 := (XT.Kept.of_eq hh0).push bh3
  have hA3 := hA.keep X3.warmed.alike (kp3 _ _ hA.1.1)
  have hne : b ≠ s.heap.size := hA.1.ne
  have c4 : Steps p.tables e below (s₁.setTop (entryFrame m #[.ref b, .int (Int32.ofNat o), .int (Int32.ofNat len)] 6)) (T3.setTop (mkF m 3 #[.val (.ref b), .val (.int (Int32.ofNat o)), .val (.int (Int32.ofNat len)), .unset, .unset, .unset] [.ref s.heap.size])) := c2.trans (st3 _ (Steps.refl _))
  have c5 : Steps p.tables e below (s₁.setTop (entryFrame m #[.ref b, .int (Int32.ofNat o), .int (Int32.ofNat len)] 6)) (T3.setTop (mkF m 9 #[.val (.ref b), .val (.int (Int32.ofNat o)), .val (.int (Int32.ofNat len)), .val (.ref s.heap.size), .unset, .unset] [.int (Int32.ofNat len), .int 0, .ref s.heap.size, .int (Int32.ofNat o), .ref b])) := c4.trans (by
    refine XS.astoreN X3.here hexec rfl (hb hbytes d3) rfl rfl rfl ?_
    refine XS.aloadN X3.here hexec rfl (hb hbytes d4) rfl rfl ?_
    refine XS.iloadN X3.here hexec rfl (hb hbytes d5) rfl ?_
    refine XS.aloadN X3.here hexec rfl (hb hbytes d6) rfl rfl ?_
    refine iconstV X3.here hexec rfl 0 (hb hbytes d7) (by decide) ?_
    refine XS.iloadN X3.here hexec rfl (hb hbytes d8) rfl ?_
    exact Steps.refl _)
  obtain ⟨v6, T6, X6, E6, g6⟩ := X3.callS hexec (Cmp5.law l b A s.heap.size B3 o 0 len) hown (wks W (staticW U16 115 Cmp5.yN)) (wk W Cmp5.tab) (W := 0) (Nat.le_of_ble_eq_true rfl) (Nat.le_of_ble_eq_true rfl) (Nat.le_refl _) (by show 0 + len + 0 ≤ len; omega) (g := (mkF m 9 #[.val (.ref b), .val (.int (Int32.ofNat o)), .val (.int (Int32.ofNat len)), .val (.ref s.heap.size), .unset, .unset] [.int (Int32.ofNat len), .int (Int32.ofNat 0), .ref s.heap.size, .int (Int32.ofNat o), .ref b])) rfl (by rw [hml]; rfl) c5 (argsL := [.ref b, .int (Int32.ofNat o), .ref s.heap.size, .int (Int32.ofNat 0), .int (Int32.ofNat len)]) (rest := []) rfl rfl (by show 2 * 0 + 0 ≤ _; decide) (hb hbytes d9) (⟨rfl, hA3, ba3, hne, l1, by rw [bs3]; simp, hp⟩)
  obtain ⟨rfl, B6, p6, f6⟩ := E6
  have c7 : Steps p.tables e below (s₁.setTop (entryFrame m #[.ref b, .int (Int32.ofNat o), .int (Int32.ofNat len)] 6)) (T6.setTop (mkF m 12 #[.val (.ref b), .val (.int (Int32.ofNat o)), .val (.int (Int32.ofNat len)), .val (.ref s.heap.size), .unset, .unset] [.int (Int32.ofNat len)])) := g6
  have c8 : Steps p.tables e below (s₁.setTop (entryFrame m #[.ref b, .int (Int32.ofNat o), .int (Int32.ofNat len)] 6)) (T6.setTop (mkF m 58 #[.val (.ref b), .val (.int (Int32.ofNat o)), .val (.int (Int32.ofNat len)), .val (.ref s.heap.size), .val (.int (Int32.ofNat len)), .unset] [.ref s.heap.size])) := c7.trans (by
    refine XS.istore X6.here hexec rfl (hb hbytes d12) rfl rfl ?_
    refine XS.iload X6.here hexec rfl (hb hbytes d14) rfl ?_
    refine XS.iloadN X6.here hexec rfl (hb hbytes d16) rfl ?_
    refine XS.icmpYes X6.here hexec rfl (pc0 := 17) rfl (hb hbytes d17) rfl (ii_eq_t rfl) (by decide) rfl ?_
    refine XS.aloadN X6.here hexec rfl (hb hbytes d57) rfl rfl ?_
    exact Steps.refl _)
  have X8 := X6.wide (L' := []) (cells' := 1) (slots' := len) (fun x hx hlt => by
    simp only [List.nil_append, copyLocs, List.mem_map, List.mem_range] at hx
    obtain ⟨i, -, rfl⟩ := hx
    exact absurd hlt (Nat.lt_irrefl _)) (Nat.le_refl _) (by omega)
  exact ⟨T6, some (.ref s.heap.size), _, _, _, X8, rfl, rfl, rfl, (fun h => by cases h), ⟨⟨rfl, B6, ba3.like (X3.warmed.alike.symm.trans X6.warmed.alike) p6.1 f6.1 f6.2.1 f6.2.2.1, f6.2.1.trans bv3, by rw [X6.warmed.alike.findClass, f6.1]; exact bf3, by rw [f6.2.2.1, bs3]; simp, fun j hj => by rw [f6.2.2.2 j, if_pos (by omega)]; rfl, kp3.put p6 (Nat.le_refl _)⟩, by rw [p6.2.2, bh3, hh0]; simp⟩, fun fs hl => c8.trans (X8.areturnOut hexec rfl hret rfl (hb hbytes d58) hl)⟩
end Cmp3
namespace CodL
def yN : MethodName := ⟨"java/lang/StringUTF16", "coderFromArrayLen", "([BI)B"⟩
abbrev yB : ByteArray := jdk_52_method_15_code
theorem d0 : decode yB 0 = .ok (.iload_n 1, 1) := by decide +kernel
theorem d1 : decode yB 1 = .ok (.aload_n 0, 1) := by decide +kernel
theorem d2 : decode yB 2 = .ok (.arraylength, 1) := by decide +kernel
theorem d3 : decode yB 3 = .ok (.isub, 1) := by decide +kernel
theorem d4 : decode yB 4 = .ok (.bipush 31, 2) := by decide +kernel
theorem d6 : decode yB 6 = .ok (.iushr, 1) := by decide +kernel
theorem d7 : decode yB 7 = .ok (.i2b, 1) := by decide +kernel
theorem d8 : decode yB 8 = .ok (.ireturn, 1) := by decide +kernel
def site : List Cond := []
def tab : Cond := tabOf yN yB 2 (some .byte) site
def P (d : Addr) (B : Cell) (args : Array Value) (s : State) : Prop := args = #[.ref d, .int (Int32.ofNat B.slots.size)] ∧ Arr .byte d B s
def E (r : Option Value) (s u : State) : Prop := XT.PureE (some (.int 0)) r s u
/-- an array as long as the number of chars: LATIN1 -/
theorem law (l : Launch) (d : Addr) (B : Cell) : Law l yN 2 2 0 0 yB 2 (some .byte) site (P d B) E [] 0 0 := by
  refine Law.of_walk (plainFor_of_name (by decide +kernel)) (by decide +kernel) (by decide +kernel) (by decide) (fun _ _ h => by rw [h.1]; rfl) (fun _ U U' hal hh h => ⟨h.1, h.2.mv hal hh⟩) (fun r U U' V V' h1 hal h2 h => XT.PureE.mv r U U' V V' h1 hal h2 h) ?_
  intro p e s m args below meth c s₁ X0 hexec hbytes hml hret hlk hnm hown hh0 W hP
  obtain ⟨rfl, hB⟩ := hP
  have hB0 := hB.mv X0.warmed.alike hh0
  have c1 : Steps p.tables e below (s₁.setTop (entryFrame m #[.ref d, .int (Int32.ofNat B.slots.size)] 2)) (s₁.setTop (mkF m 0 #[.val (.ref d), .val (.int (Int32.ofNat B.slots.size))] [])) := entry rfl
  have c2 : Steps p.tables e below (s₁.setTop (entryFrame m #[.ref d, .int (Int32.ofNat B.slots.size)] 2)) (s₁.setTop (mkF m 2 #[.val (.ref d), .val (.int (Int32.ofNat B.slots.size))] [.ref d, .int (Int32.ofNat B.slots.size)])) := c1.trans (by
    refine XS.iloadN X0.here hexec rfl (hb hbytes d0) rfl ?_
    refine XS.aloadN X0.here hexec rfl (hb hbytes d1) rfl rfl ?_
    exact Steps.refl _)
  have c3 : Steps p.tables e below (s₁.setTop (entryFrame m #[.ref d, .int (Int32.ofNat B.slots.size)] 2)) (s₁.setTop (mkF m 8 #[.val (.ref d), .val (.int (Int32.ofNat B.slots.size))] [.int (lo8 (ushr (Int32.ofNat B.slots.size - Int32.ofNat B.slots.size) 31))])) := c2.trans (by
    refine X0.alen hexec hB0 rfl rfl (hb hbytes d2) ?_
    refine XS.isub X0.here hexec rfl (hb hbytes d3) rfl ?_
    refine bipushV X0.here hexec rfl 31 (hb hbytes d4) (by decide) ?_
    refine iushr X0.here hexec rfl (hb hbytes d6) rfl ?_
    refine i2b X0.here hexec rfl (hb hbytes d7) rfl ?_
    exact Steps.refl _)
  have e0 : lo8 (ushr (Int32.ofNat B.slots.size - Int32.ofNat B.slots.size) 31) = 0 := by rw [Int32.sub_self]; decide
  rw [e0] at c3
  exact ⟨s₁, some (.int 0), _, _, _, X0, rfl, rfl, rfl, (fun h => by cases h), ⟨rfl, hh0⟩, fun fs hl => c3.trans (X0.ireturnOut hexec hret rfl (Or.inr (Or.inr (Or.inl rfl))) (hb hbytes d8) hl)⟩
end CodL
/-- the String at a is Latin-1 over a new byte[] (the heap's one new cell): the low bytes of the len chars of A from o on; every cell but a is kept -/
def Got (a : Addr) (D : Cell) (fV fC : Field) (A : Cell) (o len : Nat) (r : Option Value) (s u : State) : Prop := r = none ∧ ∃ D' V : Cell, Blank "java/lang/String" a D' u ∧ Same D D' [fV.slot, fC.slot] ∧ D'.slots[fV.slot]? = some (.ref s.heap.size) ∧ D'.slots[fC.slot]? = some (.int 0) ∧ Arr .byte s.heap.size V u ∧ V.vm = .none ∧ u.vm.findClass "[B" = some V.cls ∧ V.slots.size = len ∧ (∀ j, j < len → V.slots[j]? = some (.int (lo8 (cv A (o + j))))) ∧ (∀ (y : Addr) (c : Cell), y ≠ a → s.heap[y]? = some c → u.heap[y]? = some c) ∧ u.heap.size = s.heap.size + 1
theorem Got.mv {a : Addr} {D A : Cell} {fV fC : Field} {o len : Nat} : ∀ r (U U' V V' : State), U'.heap = U.heap → V.vm.Alike V'.vm → V'.heap = V.heap → Got a D fV fC A o len r U V → Got a D fV fC A o len r U' V' :=
  fun r U U' V V' h1 hal h2 ⟨e0, D', X, a1, a2, a3, a4, a5, a6, a7, a8, a9, a10, a11⟩ => ⟨e0, D', X, a1.mv hal h2, a2, by rw [h1]; exact a3, a4, by rw [h1]; exact a5.mv hal h2, a6, by rw [hal.findClass]; exact a7, a8, a9, by rw [h1, h2]; exact a10, by rw [h1, h2]; exact a11⟩
namespace New4
def yN : MethodName := ⟨"java/lang/String", "<init>", "([CIILjava/lang/Void;)V"⟩
abbrev yB : ByteArray := jdk_42_method_149_code
theorem d0 : decode yB 0 = .ok (.aload_n 0, 1) := by decide +kernel
theorem d1 : decode yB 1 = .ok (.invokespecial 1, 3) := by decide +kernel
theorem d4 : decode yB 4 = .ok (.iload_n 3, 1) := by decide +kernel
theorem d5 : decode yB 5 = .ok (.ifCond (.ne) 22, 3) := by decide +kernel
theorem d27 : decode yB 27 = .ok (.getstatic 38, 3) := by decide +kernel
theorem d30 : decode yB 30 = .ok (.ifCond (.eq) 28, 3) := by decide +kernel
theorem d33 : decode yB 33 = .ok (.aload_n 1, 1) := by decide +kernel
theorem d34 : decode yB 34 = .ok (.iload_n 2, 1) := by decide +kernel
theorem d35 : decode yB 35 = .ok (.iload_n 3, 1) := by decide +kernel
theorem d36 : decode yB 36 = .ok (.invokestatic 177, 3) := by decide +kernel
theorem d39 : decode yB 39 = .ok (.astore 5, 2) := by decide +kernel
theorem d41 : decode yB 41 = .ok (.aload_n 0, 1) := by decide +kernel
theorem d42 : decode yB 42 = .ok (.aload 5, 2) := by decide +kernel
theorem d44 : decode yB 44 = .ok (.iload_n 3, 1) := by decide +kernel
theorem d45 : decode yB 45 = .ok (.invokestatic 47, 3) := by decide +kernel
theorem d48 : decode yB 48 = .ok (.putfield 15, 3) := by decide +kernel
theorem d51 : decode yB 51 = .ok (.aload_n 0, 1) := by decide +kernel
theorem d52 : decode yB 52 = .ok (.aload 5, 2) := by decide +kernel
theorem d54 : decode yB 54 = .ok (.putfield 9, 3) := by decide +kernel
theorem d57 : decode yB 57 = .ok (.return_, 1) := by decide +kernel
def site : List Cond := [.fieldLink "java/lang/String" 38 "java/lang/String" "COMPACT_STRINGS" "Z", Cmp3.tab, CodL.tab, .laysFinal "java/lang/String" "java/lang/String" "value" "[B", .fieldLink "java/lang/String" 9 "java/lang/String" "value" "[B", .laysFinal "java/lang/String" "java/lang/String" "coder" "B", .fieldLink "java/lang/String" 15 "java/lang/String" "coder" "B"] ++ objW "java/lang/String" 1 ++ staticW "java/lang/String" 177 Cmp3.yN ++ staticW "java/lang/String" 47 CodL.yN
def tab : Cond := tabOf yN yB 6 none site
def P (a : Addr) (D : Cell) (fV fC : Field) (b : Addr) (A : Cell) (z : Int32) (o len : Nat) (args : Array Value) (s : State) : Prop := args = #[.ref a, .ref b, .int (Int32.ofNat o), .int (Int32.ofNat len), .null] ∧ Blank "java/lang/String" a D s ∧ Found "java/lang/String" "value" "[B" fV s ∧ Found "java/lang/String" "coder" "B" fC s ∧ Ch b A s ∧ StaticIs s "java/lang/String" "COMPACT_STRINGS" "Z" (.int z) ∧ ¬ z = 0 ∧ 0 < len ∧ o + len ≤ A.slots.size ∧ len ≤ 536870912 ∧ ∀ i, i < len → ¬ 255 < cv A (o + i)
def E (a : Addr) (D : Cell) (fV fC : Field) (A : Cell) (o len : Nat) (r : Option Value) (s u : State) : Prop := Got a D fV fC A o len r s u
/-- len > 0, no char of the range above 255: a Latin-1 String of their low bytes -/
theorem law (l : Launch) (a : Addr) (D : Cell) (fV fC : Field) (b : Addr) (A : Cell) (z : Int32) (o len : Nat) : Law l yN 5 4 2 35 yB 6 none site (P a D fV fC b A z o len) (E a D fV fC A o len) [⟨a, fC.slot⟩, ⟨a, fV.slot⟩] 1 len := by
  refine Law.of_walk (plainFor_of_name (by decide +kernel)) (by decide +kernel) (by decide +kernel) (by decide) (fun _ _ h => by rw [h.1]; rfl) (fun _ U U' hal hh h => ⟨h.1, h.2.1.mv hal hh, h.2.2.1.al hal, h.2.2.2.1.al hal, h.2.2.2.2.1.mv hal hh, h.2.2.2.2.2.1.there hal hh, h.2.2.2.2.2.2⟩) (fun r U U' V V' h1 hal h2 h => Got.mv r U U' V V' h1 hal h2 h) ?_
  intro p e s m args below meth c s₁ X0 hexec hbytes hml hret hlk hnm hown hh0 W hP
  obtain ⟨rfl, hB, f1, f2, hA, s1, hz, l0, l1, l2, hp⟩ := hP
  have a31 := hA.1.2.2.2
  have c1 : Steps p.tables e below (s₁.setTop (entryFrame m #[.ref a, .ref b, .int (Int32.ofNat o), .int (Int32.ofNat len), .null] 6)) (s₁.setTop (mkF m 0 #[.val (.ref a), .val (.ref b), .val (.int (Int32.ofNat o)), .val (.int (Int32.ofNat len)), .val .null, .unset] [])) := entry rfl
  have c2 : Steps p.tables e below (s₁.setTop (entryFrame m #[.ref a, .ref b, .int (Int32.ofNat o), .int (Int32.ofNat len), .null] 6)) (s₁.setTop (mkF m 1 #[.val (.ref a), .val (.ref b), .val (.int (Int32.ofNat o)), .val (.int (Int32.ofNat len)), .val .null, .unset] [.ref a])) := c1.trans (by
    refine XS.aloadN X0.here hexec rfl (hb hbytes d0) rfl rfl ?_
    exact Steps.refl _)
  obtain ⟨T3, X3, q3, st3⟩ := X0.oinit hexec hown (wks W (objW "java/lang/String" 1)) (g := (mkF m 1 #[.val (.ref a), .val (.ref b), .val (.int (Int32.ofNat o)), .val (.int (Int32.ofNat len)), .val .null, .unset] [.ref a])) rfl (by rw [hml]; rfl) (rest := []) rfl (hb hbytes d1) (W := 0) (by show 2 * 0 + 0 ≤ _; decide) (Nat.le_of_ble_eq_true rfl) (Nat.le_of_ble_eq_true rfl)
  have hh3 := q3.trans hh0
  have c4 : Steps p.tables e below (s₁.setTop (entryFrame m #[.ref a, .ref b, .int (Int32.ofNat o), .int (Int32.ofNat len), .null] 6)) (T3.setTop (mkF m 27 #[.val (.ref a), .val (.ref b), .val (.int (Int32.ofNat o)), .val (.int (Int32.ofNat len)), .val .null, .unset] [])) := (c2.trans (st3 _ (Steps.refl _))).trans (by
    refine XS.iloadN X3.here hexec rfl (hb hbytes d4) rfl ?_
    refine XS.ifYes X3.here hexec rfl (pc0 := 5) rfl (hb hbytes d5) rfl (i0_ne_t (nz32 (by omega) l0)) (by decide) rfl ?_
    exact Steps.refl _)
  obtain ⟨T5, X5, q5, st5⟩ := X3.sget hexec hown (wk W (.fieldLink "java/lang/String" 38 "java/lang/String" "COMPACT_STRINGS" "Z")) s1 (fun _ _ h => by rw [hh3]; exact h) (g := (mkF m 27 #[.val (.ref a), .val (.ref b), .val (.int (Int32.ofNat o)), .val (.int (Int32.ofNat len)), .val .null, .unset] [])) rfl (hb hbytes d27)
  have hh5 := q5.trans hh3
  have c6 : Steps p.tables e below (s₁.setTop (entryFrame m #[.ref a, .ref b, .int (Int32.ofNat o), .int (Int32.ofNat len), .null] 6)) (T5.setTop (mkF m 30 #[.val (.ref a), .val (.ref b), .val (.int (Int32.ofNat o)), .val (.int (Int32.ofNat len)), .val .null, .unset] [.int z])) := c4.trans (st5 _ (Steps.refl _))
  have c7 : Steps p.tables e below (s₁.setTop (entryFrame m #[.ref a, .ref b, .int (Int32.ofNat o), .int (Int32.ofNat len), .null] 6)) (T5.setTop (mkF m 36 #[.val (.ref a), .val (.ref b), .val (.int (Int32.ofNat o)), .val (.int (Int32.ofNat len)), .val .null, .unset] [.int (Int32.ofNat len), .int (Int32.ofNat o), .ref b])) := c6.trans (by
    refine XS.ifNo X5.here hexec rfl (hb hbytes d30) rfl (i0_eq_f hz) ?_
    refine XS.aloadN X5.here hexec rfl (hb hbytes d33) rfl rfl ?_
    refine XS.iloadN X5.here hexec rfl (hb hbytes d34) rfl ?_
    refine XS.iloadN X5.here hexec rfl (hb hbytes d35) rfl ?_
    exact Steps.refl _)
  obtain ⟨v8, T8, X8, E8, g8⟩ := X5.callS hexec (Cmp3.law l b A o len) hown (wks W (staticW "java/lang/String" 177 Cmp3.yN)) (wk W Cmp3.tab) (W := 0) (Nat.le_of_ble_eq_true rfl) (Nat.le_of_ble_eq_true rfl) (Nat.le_refl _) (by show 0 + len ≤ len; omega) (g := (mkF m 36 #[.val (.ref a), .val (.ref b), .val (.int (Int32.ofNat o)), .val (.int (Int32.ofNat len)), .val .null, .unset] [.int (Int32.ofNat len), .int (Int32.ofNat o), .ref b])) rfl (by rw [hml]; rfl) c7 (argsL := [.ref b, .int (Int32.ofNat o), .int (Int32.ofNat len)]) (rest := []) rfl rfl (by show 2 * 0 + 0 ≤ _; decide) (hb hbytes d36) (⟨rfl, hA.mv X5.warmed.alike hh5, l1, l2, hp⟩)
  obtain ⟨e8, z8⟩ := E8
  obtain ⟨rfl, N, n1, n2, n3, n4, n5, n6⟩ := NewArr.mv _ T5 s _ _ hh5.symm (Vm.Alike.refl _) rfl e8
  rw [hh5] at z8
  have hB1 := hB.keep X8.warmed.alike (n6 _ _ hB.1)
  have hne : s.heap.size ≠ a := (Nat.ne_of_lt (Array.getElem?_eq_some_iff.mp hB.1).1).symm
  have c9 : Steps p.tables e below (s₁.setTop (entryFrame m #[.ref a, .ref b, .int (Int32.ofNat o), .int (Int32.ofNat len), .null] 6)) (T8.setTop (mkF m 39 #[.val (.ref a), .val (.ref b), .val (.int (Int32.ofNat o)), .val (.int (Int32.ofNat len)), .val .null, .unset] [.ref s.heap.size])) := g8
  have c10 : Steps p.tables e below (s₁.setTop (entryFrame m #[.ref a, .ref b, .int (Int32.ofNat o), .int (Int32.ofNat len), .null] 6)) (T8.setTop (mkF m 45 #[.val (.ref a), .val (.ref b), .val (.int (Int32.ofNat o)), .val (.int (Int32.ofNat len)), .val .null, .val (.ref s.heap.size)] [.int (Int32.ofNat N.slots.size), .ref s.heap.size, .ref a])) := by
    have hc : Steps p.tables e below (s₁.setTop (entryFrame m #[.ref a, .ref b, .int (Int32.ofNat o), .int (Int32.ofNat len), .null] 6)) (T8.setTop (mkF m 45 #[.val (.ref a), .val (.ref b), .val (.int (Int32.ofNat o)), .val (.int (Int32.ofNat len)), .val .null, .val (.ref s.heap.size)] [.int (Int32.ofNat len), .ref s.heap.size, .ref a])) := c9.trans (by
      refine XS.astore X8.here hexec rfl (hb hbytes d39) rfl rfl rfl ?_
      refine XS.aloadN X8.here hexec rfl (hb hbytes d41) rfl rfl ?_
      refine XS.aload X8.here hexec rfl (hb hbytes d42) rfl rfl ?_
      refine XS.iloadN X8.here hexec rfl (hb hbytes d44) rfl ?_
      exact Steps.refl _)
    rw [n4]; exact hc
  obtain ⟨v11, T11, X11, E11, g11⟩ := X8.callS hexec (CodL.law l s.heap.size N) hown (wks W (staticW "java/lang/String" 47 CodL.yN)) (wk W CodL.tab) (W := 1) (Nat.le_of_ble_eq_true rfl) (Nat.le_of_ble_eq_true rfl) (Nat.le_refl _) (by show 0 + len + 0 ≤ len; omega) (g := (mkF m 45 #[.val (.ref a), .val (.ref b), .val (.int (Int32.ofNat o)), .val (.int (Int32.ofNat len)), .val .null, .val (.ref s.heap.size)] [.int (Int32.ofNat N.slots.size), .ref s.heap.size, .ref a])) rfl (by rw [hml]; rfl) c10 (argsL := [.ref s.heap.size, .int (Int32.ofNat N.slots.size)]) (rest := [.ref a]) rfl rfl (by show 2 * 0 + (1 + 0) ≤ _; decide) (hb hbytes d45) (⟨rfl, n1⟩)
  obtain ⟨rfl, q11⟩ := E11
  have hB11 := hB1.mv (X8.warmed.alike.symm.trans X11.warmed.alike) q11
  have c12 : Steps p.tables e below (s₁.setTop (entryFrame m #[.ref a, .ref b, .int (Int32.ofNat o), .int (Int32.ofNat len), .null] 6)) (T11.setTop (mkF m 48 #[.val (.ref a), .val (.ref b), .val (.int (Int32.ofNat o)), .val (.int (Int32.ofNat len)), .val .null, .val (.ref s.heap.size)] [.int 0, .ref a])) := g11
  obtain ⟨T13, X13, p13, bl13, sl13, st13⟩ := X11.finit hexec hown (wk W (.fieldLink "java/lang/String" 15 "java/lang/String" "coder" "B")) (Or.inr ⟨_, (wk W (.laysFinal "java/lang/String" "java/lang/String" "coder" "B"))⟩) (Or.inl ⟨rfl, hnm⟩) f2 (Or.inl rfl) hB11 (t := .byte) (by decide +kernel) rfl (g := (mkF m 48 #[.val (.ref a), .val (.ref b), .val (.int (Int32.ofNat o)), .val (.int (Int32.ofNat len)), .val .null, .val (.ref s.heap.size)] [.int 0, .ref a])) rfl (rest := []) rfl (hb hbytes d48)
  have c14 : Steps p.tables e below (s₁.setTop (entryFrame m #[.ref a, .ref b, .int (Int32.ofNat o), .int (Int32.ofNat len), .null] 6)) (T13.setTop (mkF m 54 #[.val (.ref a), .val (.ref b), .val (.int (Int32.ofNat o)), .val (.int (Int32.ofNat len)), .val .null, .val (.ref s.heap.size)] [.ref s.heap.size, .ref a])) := (c12.trans (st13 _ (Steps.refl _))).trans (by
    refine XS.aloadN X13.here hexec rfl (hb hbytes d51) rfl rfl ?_
    refine XS.aload X13.here hexec rfl (hb hbytes d52) rfl rfl ?_
    exact Steps.refl _)
  obtain ⟨T15, X15, p15, bl15, sl15, st15⟩ := X13.finit hexec hown (wk W (.fieldLink "java/lang/String" 9 "java/lang/String" "value" "[B")) (Or.inr ⟨_, (wk W (.laysFinal "java/lang/String" "java/lang/String" "value" "[B"))⟩) (Or.inl ⟨rfl, hnm⟩) f1 (Or.inl rfl) bl13 (t := (.array .byte)) (by decide +kernel) rfl (g := (mkF m 54 #[.val (.ref a), .val (.ref b), .val (.int (Int32.ofNat o)), .val (.int (Int32.ofNat len)), .val .null, .val (.ref s.heap.size)] [.ref s.heap.size, .ref a])) rfl (rest := []) rfl (hb hbytes d54)
  have c16 : Steps p.tables e below (s₁.setTop (entryFrame m #[.ref a, .ref b, .int (Int32.ofNat o), .int (Int32.ofNat len), .null] 6)) (T15.setTop (mkF m 57 #[.val (.ref a), .val (.ref b), .val (.int (Int32.ofNat o)), .val (.int (Int32.ofNat len)), .val .null, .val (.ref s.heap.size)] [])) := c14.trans (st15 _ (Steps.refl _))
  have ap := apart (Or.inr ⟨_, (wk W (.laysFinal "java/lang/String" "java/lang/String" "value" "[B"))⟩) (Or.inr ⟨_, (wk W (.laysFinal "java/lang/String" "java/lang/String" "coder" "B"))⟩) f1 f2 (t₁ := .array .byte) (t₂ := .byte) (by decide +kernel) (by decide +kernel) (by decide)
  have al := X8.warmed.alike.symm.trans X15.warmed.alike
  have n7 : T11.heap[s.heap.size]? = some N := by rw [q11]; exact n1.1
  exact ⟨T15, none, _, _, _, X15, by simp, rfl, by omega, (fun _ => rfl), ⟨rfl, _, N, bl15, ((Same.refl D _).set _ (by simp)).set _ (by simp), sl15, (Cell.slots_setSlot_ne _ ap).trans sl13, n1.keep al (p15.other hne (p13.other hne n7)), n2, by rw [al.findClass]; exact n3, n4, n5, fun y c h1 h2 => p15.other h1 (p13.other h1 (by rw [q11]; exact n6 y c h2)), by rw [p15.2.2, p13.2.2, q11]; exact z8⟩, fun fs hl => c16.trans (X15.returnOut hexec hret (hb hbytes d57) hl)⟩
end New4
namespace New1
def yN : MethodName := ⟨"java/lang/String", "<init>", "([C)V"⟩
abbrev yB : ByteArray := jdk_42_method_3_code
theorem d0 : decode yB 0 = .ok (.aload_n 0, 1) := by decide +kernel
theorem d1 : decode yB 1 = .ok (.aload_n 1, 1) := by decide +kernel
theorem d2 : decode yB 2 = .ok (.iconst 0, 1) := by decide +kernel
theorem d3 : decode yB 3 = .ok (.aload_n 1, 1) := by decide +kernel
theorem d4 : decode yB 4 = .ok (.arraylength, 1) := by decide +kernel
theorem d5 : decode yB 5 = .ok (.aconst_null, 1) := by decide +kernel
theorem d6 : decode yB 6 = .ok (.invokespecial 27, 3) := by decide +kernel
theorem d9 : decode yB 9 = .ok (.return_, 1) := by decide +kernel
def site : List Cond := [New4.tab] ++ initW "java/lang/String" 27 New4.yN
def tab : Cond := tabOf yN yB 2 none site
def P (a : Addr) (D : Cell) (fV fC : Field) (b : Addr) (A : Cell) (z : Int32) (args : Array Value) (s : State) : Prop := args = #[.ref a, .ref b] ∧ Blank "java/lang/String" a D s ∧ Found "java/lang/String" "value" "[B" fV s ∧ Found "java/lang/String" "coder" "B" fC s ∧ Ch b A s ∧ StaticIs s "java/lang/String" "COMPACT_STRINGS" "Z" (.int z) ∧ ¬ z = 0 ∧ 0 < A.slots.size ∧ A.slots.size ≤ 536870912 ∧ ∀ i, i < A.slots.size → ¬ 255 < cv A i
def E (a : Addr) (D : Cell) (fV fC : Field) (A : Cell) (r : Option Value) (s u : State) : Prop := Got a D fV fC A 0 A.slots.size r s u
/-- new String(chars), not empty, no char above 255: a Latin-1 String of their low bytes -/
theorem law (l : Launch) (a : Addr) (D : Cell) (fV fC : Field) (b : Addr) (A : Cell) (z : Int32) : Law l yN 2 1 3 52 yB 2 none site (P a D fV fC b A z) (E a D fV fC A) [⟨a, fC.slot⟩, ⟨a, fV.slot⟩] 1 A.slots.size := by
  refine Law.of_walk (plainFor_of_name (by decide +kernel)) (by decide +kernel) (by decide +kernel) (by decide) (fun _ _ h => by rw [h.1]; rfl) (fun _ U U' hal hh h => ⟨h.1, h.2.1.mv hal hh, h.2.2.1.al hal, h.2.2.2.1.al hal, h.2.2.2.2.1.mv hal hh, h.2.2.2.2.2.1.there hal hh, h.2.2.2.2.2.2⟩) (fun r U U' V V' h1 hal h2 h => Got.mv r U U' V V' h1 hal h2 h) ?_
  intro p e s m args below meth c s₁ X0 hexec hbytes hml hret hlk hnm hown hh0 W hP
  obtain ⟨rfl, hB, f1, f2, hA, s1, hz, l0, l2, hp⟩ := hP
  have c1 : Steps p.tables e below (s₁.setTop (entryFrame m #[.ref a, .ref b] 2)) (s₁.setTop (mkF m 0 #[.val (.ref a), .val (.ref b)] [])) := entry rfl
  have c2 : Steps p.tables e below (s₁.setTop (entryFrame m #[.ref a, .ref b] 2)) (s₁.setTop (mkF m 6 #[.val (.ref a), .val (.ref b)] [.null, .int (Int32.ofNat A.slots.size), .int 0, .ref b, .ref a])) := c1.trans (by
    refine XS.aloadN X0.here hexec rfl (hb hbytes d0) rfl rfl ?_
    refine XS.aloadN X0.here hexec rfl (hb hbytes d1) rfl rfl ?_
    refine iconstV X0.here hexec rfl 0 (hb hbytes d2) (by decide) ?_
    refine XS.aloadN X0.here hexec rfl (hb hbytes d3) rfl rfl ?_
    refine X0.alen hexec (hA.1.mv X0.warmed.alike hh0) rfl rfl (hb hbytes d4) ?_
    refine XS.aconstNull X0.here hexec rfl (hb hbytes d5) ?_
    exact Steps.refl _)
  obtain ⟨v3, T3, X3, E3, g3⟩ := X0.callN hexec (New4.law l a D fV fC b A z 0 A.slots.size) rfl hown (wks W (initW "java/lang/String" 27 New4.yN)) (W New4.tab (by simp only [site, List.mem_cons, List.mem_append, true_or, or_true])) (W := 0) (Nat.le_of_ble_eq_true rfl) (Nat.le_of_ble_eq_true rfl) (Nat.le_refl _) (by show 0 + A.slots.size ≤ A.slots.size; omega) (g := (mkF m 6 #[.val (.ref a), .val (.ref b)] [.null, .int (Int32.ofNat A.slots.size), .int (Int32.ofNat 0), .ref b, .ref a])) rfl (by rw [hml]; rfl) c2 (argsL := [.ref b, .int (Int32.ofNat 0), .int (Int32.ofNat A.slots.size), .null]) (rest := []) rfl rfl (by show 2 * 0 + 0 ≤ _; decide) (hb hbytes d6) (⟨rfl, hB.mv X0.warmed.alike hh0, f1.al X0.warmed.alike, f2.al X0.warmed.alike, hA.mv X0.warmed.alike hh0, s1.there X0.warmed.alike hh0, hz, l0, by omega, l2, fun i hi => by rw [Nat.zero_add]; exact hp i hi⟩)
  have e0 := Got.mv _ s₁ s _ _ hh0.symm (Vm.Alike.refl _) rfl E3
  obtain rfl := e0.1
  have c4 : Steps p.tables e below (s₁.setTop (entryFrame m #[.ref a, .ref b] 2)) (T3.setTop (mkF m 9 #[.val (.ref a), .val (.ref b)] [])) := g3
  exact ⟨T3, none, _, _, _, X3, by simp, rfl, by omega, (fun _ => rfl), e0, fun fs hl => c4.trans (X3.returnOut hexec hret (hb hbytes d9) hl)⟩
theorem pays {l : Launch} {R : Room} {p : Program} {e : Env} {below : List Frame} {s : State} {sargs : Array Value} {len W : Nat} (a : Addr) (D : Cell) (fV fC : Field) (b : Addr) (A : Cell) (z : Int32) (htab : tab.before sargs s = true) (hfr : 4 ≤ R.frames) (hlo : W + 65 ≤ R.locals) :
    Back l R p e below s sargs yN len W (fun A₁ a₁ => A₁.cells + 1 ≤ R.cells ∧ A₁.slots + A.slots.size ≤ R.slots ∧ P a D fV fC b A z a₁ A₁.U) (fun A₁ _ v₁ B₁ => E a D fV fC A v₁ A₁.U B₁.U ∧ B₁.locs = A₁.locs ++ [⟨a, fC.slot⟩, ⟨a, fV.slot⟩] ∧ B₁.cells = A₁.cells + 1 ∧ B₁.slots = A₁.slots + A.slots.size) :=
  (law l a D fV fC b A z).pays htab hfr (by omega)
end New1
end StrChars
namespace StrChars.Road
open Jvm Sem ClassFile Op Lib Jvm.Stand Jvm.Free Jvm.Free.XT
open Jvm.Lib.Cold (StaticIs)
abbrev ST : String := "java/lang/String"
/-- every table word that New1's law asks, flat -/
abbrev words : List Jvm.Cond := [.code New1.yN New1.yB 2 none, .initialized ST, .methodLink ST 27 New4.yN, .instanceMethod New4.yN,
  .code New4.yN New4.yB 6 none, .fieldLink ST 38 ST "COMPACT_STRINGS" "Z", .laysFinal ST ST "value" "[B", .fieldLink ST 9 ST "value" "[B", .laysFinal ST ST "coder" "B", .fieldLink ST 15 ST "coder" "B",
  .methodLink ST 1 Lib.objectInit, .instanceMethod Lib.objectInit, .code Lib.objectInit ⟨#[0xb1]⟩ 1 none, .methodLink ST 177 Cmp3.yN, .static Cmp3.yN, .methodLink ST 47 CodL.yN, .static CodL.yN,
  .code Cmp3.yN Cmp3.yB 6 (some (.array .byte)), .initialized U16, .arrayClass .byte, .methodLink U16 115 Cmp5.yN, .static Cmp5.yN, .code Cmp5.yN Cmp5.yB 7 (some .int), .code CodL.yN CodL.yB 2 (some .byte)]
theorem tab_of {a : Array Value} {s : State} (h : ∀ w ∈ words, w.before a s = true) : New1.tab.before a s = true := by
  have h5 : Cmp5.tab.before a s = true := unparts (wk h (.code Cmp5.yN Cmp5.yB 7 (some .int))) (wks h (.initialized Cmp5.yN.cls :: Cmp5.site))
  have hc : CodL.tab.before a s = true := unparts (wk h (.code CodL.yN CodL.yB 2 (some .byte))) (wks h (.initialized CodL.yN.cls :: CodL.site))
  have q5 : ∀ w ∈ Cmp5.tab :: words, w.before a s = true := fun w hw => (List.mem_cons.mp hw).elim (fun e => e ▸ h5) (h w)
  have h3 : Cmp3.tab.before a s = true := unparts (wk q5 (.code Cmp3.yN Cmp3.yB 6 (some (.array .byte)))) (wks q5 (.initialized Cmp3.yN.cls :: Cmp3.site))
  have q3 : ∀ w ∈ Cmp3.tab :: CodL.tab :: words, w.before a s = true := fun w hw => (List.mem_cons.mp hw).elim (fun e => e ▸ h3) fun hw => (List.mem_cons.mp hw).elim (fun e => e ▸ hc) (h w)
  have h4 : New4.tab.before a s = true := unparts (wk q3 (.code New4.yN New4.yB 6 none)) (wks q3 (.initialized New4.yN.cls :: New4.site))
  have q4 : ∀ w ∈ New4.tab :: words, w.before a s = true := fun w hw => (List.mem_cons.mp hw).elim (fun e => e ▸ h4) (h w)
  exact unparts (wk q4 (.code New1.yN New1.yB 2 none)) (wks q4 (.initialized New1.yN.cls :: New1.site))
/-- the words ride from the start Z to the walk's own state -/
theorem moved {Z s : State} {a0 args : Array Value} (hZ : Z.Warmed39 s.vm) (hw : ∀ d ∈ words, d.before a0 Z = true) : ∀ d ∈ words, d.before args s = true := fun d hd => by
  have q := hw d hd
  have t : ∀ d ∈ words, d = .arrayClass .byte ∨ (d.onTables && d.keepsFace) = true := by decide +kernel
  rcases t d hd with rfl | t
  · exact RoadKit.mvA hZ q
  · exact RoadKit.mv hZ q t
/-- WHAT COMES BACK, over the tables of the start Z: h the heap at the call, h' behind it -/
def Q (Z : State) (x : Addr) (A : Cell) (h : Heap) (v : Option Value) (h' : Heap) (L : List Loc) : Prop := v = none ∧ (∀ y ∈ L, y.base = x) ∧ RoadKit.Keep h h' [x] ∧ h'.size = h.size + 1 ∧ RoadKit.Exa Z h' x ST ∧ RoadKit.Fld Z h' x ST "value" "[B" (.ref h.size) ∧ RoadKit.Fld Z h' x ST "coder" "B" (.int 0) ∧
  (∃ V : Cell, RoadKit.Arr Z h' h.size V .byte ∧ V.vm = .none ∧ Z.vm.findClass "[B" = some V.cls ∧ V.slots.size = A.slots.size ∧ ∀ j, j < A.slots.size → V.slots[j]? = some (.int (lo8 (cv A j)))) ∧
  ∀ (O n d : String) (w : Value), RoadKit.Fld Z h x O n d w → RoadKit.slotOf Z O n d ≠ RoadKit.slotOf Z ST "value" "[B" → RoadKit.slotOf Z O n d ≠ RoadKit.slotOf Z ST "coder" "B" → RoadKit.Fld Z h' x O n d w
/-- **new String(chars) AT A CALL, IN THE ROAD'S FORM**: for specialBack behind newO: x the fresh String, b the char[] with the cell A -/
theorem back {p : Program} {l : Launch} {e : Env} {R : Room} {s : State} {args : Array Value} {below : List Frame} {len W : Nat} {Z : State} {a0 : Array Value} {h : Heap} (hZ : Z.Warmed39 s.vm) (hw : ∀ d ∈ words, d.before a0 Z = true) {kI : Nat} (wi : (Jvm.Cond.instantiable ST kI).before a0 Z = true)
    {x b : Addr} {A : Cell} {z : Int32} {v0 c0 : Value} (E : RoadKit.Exa Z h x ST) (V : RoadKit.Fld Z h x ST "value" "[B" v0) (C : RoadKit.Fld Z h x ST "coder" "B" c0) (K : RoadKit.Arr Z h b A .char) (hty : Typed .char A) (S : RoadKit.Sta Z h ST "COMPACT_STRINGS" "Z" (.int z)) (hz : ¬ z = 0)
    (l0 : 0 < A.slots.size) (l2 : A.slots.size ≤ 536870912) (hp : ∀ i, i < A.slots.size → ¬ 255 < cv A i) (hfr : 4 ≤ R.frames) (hlo : W + 65 ≤ R.locals) :
    Back l R p e below s args New1.yN len W (fun P a => a = #[.ref x, .ref b] ∧ P.U.heap = h ∧ P.cells + 1 ≤ R.cells ∧ P.slots + A.slots.size ≤ R.slots)
      (fun P _ v B => ∃ L, Q Z x A h v B.U.heap L ∧ B.locs = P.locs ++ L ∧ B.cells = P.cells + 1 ∧ B.slots = P.slots + A.slots.size) := by
  intro m meth c P g ig mk a X hg hsize hdg hW hn hp'
  obtain ⟨rfl, rfl, r1, r2⟩ := hp'
  have al : Z.vm.Alike P.U.vm := hZ.alike.trans X.warmed.alike
  obtain ⟨D, cfV, kV, iV, fV, hD, gV, stV, knV, obV, asV, slV⟩ := id V
  obtain ⟨D', cfC, kC, iC, fC, hD', gC, stC, -, -, asC, slC⟩ := id C
  cases hD.symm.trans hD'
  obtain ⟨D2, kD, e1, e2, e3, e4, e5⟩ := id E
  cases hD.symm.trans e1
  obtain ⟨c2, k2, i1, i2, i3, -⟩ := Cond.instantiable_spec wi
  cases e2.symm.trans i1
  cases e3.symm.trans i2
  obtain ⟨kU, u1, u2⟩ := al.2.2 _ _ e3
  have hB : Blank ST x D P.U := ⟨hD, ⟨knV, fun q hq => by rw [hq] at obV; cases obV⟩, by rw [al.findClass]; exact e2, kU, u1, by rw [u2]; exact i3, by rw [u2]; exact e5 i3⟩
  have F1 : Found ST "value" "[B" fV P.U := ⟨SBG.found_only al ⟨cfV, kV, iV, gV⟩, stV⟩
  have F2 : Found ST "coder" "B" fC P.U := ⟨SBG.found_only al ⟨cfC, kC, iC, gC⟩, stC⟩
  have hA : Ch b A P.U := ⟨⟨K.1, State.isArrayOf_alike al K.2.1, K.2.2, by omega⟩, hty⟩
  have hS : StaticIs P.U ST "COMPACT_STRINGS" "Z" (.int z) := by
    obtain ⟨cfS, iS, kS, fS, st, cS, t1, t2, t3, t4, t5, t6, t7⟩ := S
    exact StaticIs.there (s := { Z with heap := P.U.heap }) ⟨cfS, iS, kS, fS, st, cS, t1, t2, t3, t4, t5, (fun q => by rw [q] at t6; cases t6), t7⟩ al rfl
  obtain ⟨v, B, X', ⟨⟨hv, E', V', q1, q2, q3, q4, q5, q6, q7, q8, q9, q10, q11⟩, hl, hc, hs⟩, st⟩ := New1.pays x D fV fC b A z (tab_of (moved hZ hw)) hfr hlo m meth c P g ig mk _ X hg hsize hdg hW hn ⟨r1, r2, rfl, hB, F1, F2, hA, hS, hz, l0, l2, hp⟩
  have al' : Z.vm.Alike B.U.vm := hZ.alike.trans X'.warmed.alike
  have hsz : E'.slots.size = D.slots.size := by
    obtain ⟨-, -, -, kB, w1, w2, w3⟩ := q1
    obtain ⟨kB', y1, y2⟩ := al'.2.2 _ _ e3
    rw [q2.2.1] at w1
    cases w1.symm.trans y1
    rw [w3, e5 i3, y2]
  refine ⟨v, B, X', ⟨_, ⟨hv, ?_, ⟨by omega, fun y cy hy hn' => q10 y cy (by simpa using hn') hy, fun y cy hy => ?_⟩, q11, ⟨E', _, q1.1, by rw [q2.2.1]; exact e2, by rw [q2.2.1]; exact e3, by rw [q2.1]; exact obV, fun _ => by rw [hsz]; exact e5 i3⟩,
    ⟨E', cfV, kV, iV, fV, q1.1, gV, stV, by rw [q2.1]; exact knV, by rw [q2.1]; exact obV, by rw [q2.2.1]; exact asV, q3⟩, ⟨E', cfC, kC, iC, fC, q1.1, gC, stC, by rw [q2.1]; exact knV, by rw [q2.1]; exact obV, by rw [q2.2.1]; exact asC, q4⟩,
    ⟨V', ⟨q5.1, State.isArrayOf_alike al'.symm q5.2.1, q5.2.2.1⟩, q6, by rw [← al'.findClass]; exact q7, q8, fun j hj => by have := q9 j hj; rwa [Nat.zero_add] at this⟩, fun O n d w F n1 n2 => ?_⟩, hl, hc, hs⟩, st⟩
  · intro y hy
    simp only [List.mem_cons, List.not_mem_nil, or_false] at hy
    rcases hy with rfl | rfl <;> rfl
  · by_cases q : y = x
    · subst q
      cases hD.symm.trans hy
      exact ⟨E', q1.1, q2.2.1, q2.1, hsz⟩
    · exact ⟨cy, q10 y cy q hy, rfl, rfl, rfl⟩
  · obtain ⟨D3, cf, k, i, f, g1, g2, g3, g4, g5, g6, g7⟩ := F
    cases hD.symm.trans g1
    simp only [RoadKit.slotOf, g2, gV, gC, Option.map_some, Option.getD_some] at n1 n2
    exact ⟨E', cf, k, i, f, q1.1, g2, g3, by rw [q2.1]; exact g4, by rw [q2.1]; exact g5, by rw [q2.2.1]; exact g6, by rw [q2.2.2 f.slot (by simp [n1, n2])]; exact g7⟩
end StrChars.Road
namespace StrChars.Road
open Jvm Sem ClassFile Op Lib Jvm.Stand Jvm.Free Jvm.Free.XT
/-- WHAT COMES BACK, the byte[] as a list of values -/
def QA (Z : State) (x : Addr) (zn : Int32) (cs : List Int32) (h : Heap) (v : Option Value) (h' : Heap) (L : List Loc) : Prop := v = none ∧ (∀ y ∈ L, y.base = x) ∧ RoadKit.Keep h h' [x] ∧ h'.size = h.size + 1 ∧ RoadKit.Exa Z h' x ST ∧ RoadKit.Fld Z h' x ST "value" "[B" (.ref h.size) ∧ RoadKit.Fld Z h' x ST "coder" "B" (.int 0) ∧
  (∃ kb, Z.vm.findClass "[B" = some kb ∧ RoadKit.Arv Z h' h.size kb .byte zn (cs.map fun c => .int (lo8 c)) (.int 0)) ∧
  ∀ (O n d : String) (w : Value), RoadKit.Fld Z h x O n d w → RoadKit.slotOf Z O n d ≠ RoadKit.slotOf Z ST "value" "[B" → RoadKit.slotOf Z O n d ≠ RoadKit.slotOf Z ST "coder" "B" → RoadKit.Fld Z h' x O n d w
/-- **new String(chars) AT A CALL, THE ARRAYS AS LISTS**: the char[] at b holds cs, not empty, no char above 255 -/
theorem backArv {p : Program} {l : Launch} {e : Env} {R : Room} {s : State} {args : Array Value} {below : List Frame} {len W : Nat} {Z : State} {a0 : Array Value} {h : Heap} (hZ : Z.Warmed39 s.vm) (hw : ∀ d ∈ words, d.before a0 Z = true) {kI : Nat} (wi : (Jvm.Cond.instantiable ST kI).before a0 Z = true)
    {x b : Addr} {k : ClassId} {zn z : Int32} {cs : List Int32} {dv v0 c0 : Value} (E : RoadKit.Exa Z h x ST) (V : RoadKit.Fld Z h x ST "value" "[B" v0) (C : RoadKit.Fld Z h x ST "coder" "B" c0) (K : RoadKit.Arv Z h b k .char zn (cs.map Value.int) dv) (S : RoadKit.Sta Z h ST "COMPACT_STRINGS" "Z" (.int z)) (hz : ¬ z = 0)
    (hlen : zn.toNatClampNeg = cs.length) (h0 : 0 < cs.length) (hbig : cs.length ≤ 536870912) (hall : ∀ c ∈ cs, ¬ 255 < c) (hfr : 4 ≤ R.frames) (hlo : W + 65 ≤ R.locals) :
    Back l R p e below s args New1.yN len W (fun P a => a = #[.ref x, .ref b] ∧ P.U.heap = h ∧ P.cells + 1 ≤ R.cells ∧ P.slots + cs.length ≤ R.slots)
      (fun P _ v B => ∃ L, QA Z x zn cs h v B.U.heap L ∧ B.locs = P.locs ++ L ∧ B.cells = P.cells + 1 ∧ B.slots = P.slots + cs.length) := by
  obtain ⟨A, K1, K2, K3, K4, K5, K6⟩ := K
  have e : A.slots.size = cs.length := K3.trans hlen
  have hat : ∀ (i : Nat) (hi : i < cs.length), A.slots[i]? = some (.int cs[i]) := fun i hi => by rw [K5 i (by omega)]; simp [List.getD_eq_getElem?_getD, hi]
  have hcv : ∀ (i : Nat) (hi : i < cs.length), cv A i = cs[i] := fun i hi => by unfold cv; rw [hat i hi]
  have hty : Typed .char A := fun i v hv => by
    have hi : i < A.slots.size := (Array.getElem?_eq_some_iff.mp hv).1
    have q := K5 i hi
    rw [hv] at q
    rw [Option.some.inj q]
    exact K6 i hi
  refine Back.mono (back hZ hw wi E V C K1 hty S hz (by omega) (by omega) (fun i hi => by rw [hcv i (by omega)]; exact hall _ (List.getElem_mem _)) hfr hlo) (fun P a hp => ⟨hp.1, hp.2.1, hp.2.2.1, by rw [e]; exact hp.2.2.2⟩) (fun P a v B hp hq => ?_)
  obtain ⟨L, ⟨q1, q2, q3, q4, q5, q6, q7, ⟨V', v1, v2, v3, v4, v5⟩, q9⟩, hl, hc, hs⟩ := hq
  refine ⟨L, ⟨q1, q2, q3, q4, q5, q6, q7, ⟨V'.cls, v3, V', v1, rfl, by rw [v4, e, hlen], K4, fun i hi => ?_, fun i hi => ?_⟩, q9⟩, hl, hc, by rw [hs, e]⟩
  · have hi' : i < cs.length := by omega
    rw [v5 i (by omega), hcv i hi']; simp [List.getD_eq_getElem?_getD, hi']
  · have hi' : i < cs.length := by omega
    simp only [List.getD_eq_getElem?_getD, List.getElem?_map, List.getElem?_eq_getElem hi', Option.map_some, Option.getD_some]
    exact fits_lo8 _
end StrChars.Road
namespace StrChars.Road
open Jvm Sem ClassFile Op Lib Jvm.Stand Jvm.Free Jvm.Free.XT
/-- WHAT COMES BACK, in the writer's own shape -/
def QV (Z : State) (x : Addr) (N : Int32) (bs : List Int32) (h : Heap) (n0 : Nat) (v : Option Value) (h' : Heap) (L : List Loc) : Prop := v = none ∧ RoadKit.Fr n0 L ∧ RoadKit.Keep h h' [x] ∧ RoadKit.Exa Z h' x ST ∧ RoadKit.Fld Z h' x ST "coder" "B" (.int 0) ∧
  ∃ (t : Addr) (kb : ClassId), n0 ≤ t ∧ h.size ≤ t ∧ ¬ t = x ∧ RoadKit.Fld Z h' x ST "value" "[B" (.ref t) ∧ RoadKit.Arv Z h' t kb .byte N (bs.map Value.int) (.int 0)
/-- **new String(chars) AT A CALL, FOR THE WRITER**: a char[] of n known ints, each 0 to 255 -/
theorem backV {p : Program} {l : Launch} {e : Env} {R : Room} {s : State} {args : Array Value} {below : List Frame} {len W : Nat} {Z : State} {a0 : Array Value} {h : Heap} (hZ : Z.Warmed39 s.vm) (hw : ∀ d ∈ words, d.before a0 Z = true) {kI : Nat} (wi : (Jvm.Cond.instantiable ST kI).before a0 Z = true)
    {x b : Addr} {kC : ClassId} {cs bs : List Int32} {d v0 c0 : Value} {z N : Int32} {n n0 : Nat} (hx0 : n0 ≤ x) (hh0 : n0 ≤ h.size) (E : RoadKit.Exa Z h x ST) (V : RoadKit.Fld Z h x ST "value" "[B" v0) (C : RoadKit.Fld Z h x ST "coder" "B" c0) (K : RoadKit.Arv Z h b kC .char N (cs.map Value.int) d) (S : RoadKit.Sta Z h ST "COMPACT_STRINGS" "Z" (.int z)) (hz : ¬ z = 0)
    (hn : cs.length = n) (hN : N = Int32.ofNat n) (l0 : 0 < n) (l2 : n ≤ 4000) (hp : ∀ c ∈ cs, ¬ c < 0 ∧ ¬ (255 : Int32) < c) (hb : bs = cs.map (fun c => c.toInt8.toInt32)) (hfr : 4 ≤ R.frames) (hlo : W + 65 ≤ R.locals) :
    Back l R p e below s args (⟨"java/lang/String", "<init>", "([C)V"⟩ : MethodName) len W (fun P a => a = #[.ref x, .ref b] ∧ P.U.heap = h ∧ P.cells + 1 ≤ R.cells ∧ P.slots + n ≤ R.slots)
      (fun P _ v B => ∃ L, QV Z x N bs h n0 v B.U.heap L ∧ B.locs = P.locs ++ L ∧ B.cells = P.cells + 1 ∧ B.slots = P.slots + n) := by
  subst hn hN hb
  refine Back.mono (backArv hZ hw wi E V C K S hz (n32 (by omega)) l0 (by omega) (fun c hc => (hp c hc).2) hfr hlo) (fun P a hp => hp) (fun P a v B hp hq => ?_)
  obtain ⟨L, ⟨q1, q2, q3, q4, q5, q6, q7, ⟨kb, v1, v2⟩, q9⟩, hl, hc, hs⟩ := hq
  exact ⟨L, ⟨q1, fun y hy => by rw [q2 y hy]; exact hx0, q3, q5, q7, h.size, kb, hh0, Nat.le_refl _, Nat.ne_of_gt E.lt, q6, by rw [List.map_map]; exact v2⟩, hl, hc, hs⟩
end StrChars.Road
end Jvm.Pilot.@@N@@
namespace Jvm.Pilot.@@N@@
open Jvm Jvm.ClassFile Sem Op Lib Jvm.Free Jvm.Stand Jvm.LawKit Jvm.RoadKit Bundle Jvm.Pilot.@@N@@.Jvm.D
/-- from the state st the run ends, of which Q says what it leaves -/
def own_Ends (tb : Tables) (e : Env) (below : List Frame) (s : State) (Q : Option Value → Heap → List Loc → Prop) (C S : Nat) (st : State) : Prop :=
  ∃ t o, Steps tb e below st t ∧ t.status = .running ∧ Ended t below o ∧ ∃ v L, o = .returned v ∧ Q v t.heap L ∧ FrameEnd s o t L C S
theorem own_step {tb : Tables} {e : Env} {below : List Frame} {s : State} {Q : Option Value → Heap → List Loc → Prop} {C S : Nat} {st st' : State}
    (h : ∀ t, Steps tb e below st' t → Steps tb e below st t) (k : own_Ends tb e below s Q C S st') : own_Ends tb e below s Q C S st := by
  obtain ⟨t, o, h1, h2⟩ := k
  exact ⟨t, o, h t h1, h2⟩
section OwnRet
variable {p : Program} {l : Launch} {e : Env} {R : Room} {s : State} {m : MethodId} {args : Array Value} {below : List Frame} {meth : Method} {c : Code} {T : State} {locs : List Loc} {cells slots : Nat} {Q : Option Value → Heap → List Loc → Prop} {C S : Nat} {pc : Nat} {Ls : Array Slot} {rest : List Value}
theorem own_retW (X : Stand p l e R s m args below meth c T locs cells slots) (hx : p.tables.exec = Jvm.exec) {w : Value} {t : FieldType} {i : Instr} (hret : meth.sig.returnType = some t) (hn : narrow t w = w)
    (hi : (i = .ireturn ∧ (t = .int ∨ t = .boolean ∨ t = .byte ∨ t = .char ∨ t = .short) ∧ ∃ z, w = .int z) ∨ (i = .lreturn ∧ t = .long ∧ ∃ z, w = .long z) ∨ (i = .dreturn ∧ t = .double ∧ ∃ z, w = .double z) ∨ (i = .freturn ∧ t = .float ∧ ∃ z, w = .float z) ∨ (i = .areturn ∧ t.isReference = true ∧ w.isRef = true))
    (hd : decode c.code pc = .ok (i, 1)) (hlocks : meth.locks = false) (hq : Q (some w) T.heap locs) (hc : cells ≤ C) (hs : slots ≤ S) :
    own_Ends p.tables e below s Q C S (T.setTop (mkF m pc Ls (w :: rest))) := by
  obtain ⟨fs, hr, hrun, hended, hW, hsame⟩ := X.leave (v := some w) (fun h => by rw [hret] at h; cases h) hlocks
  exact ⟨_, _, retOut X hx hret hn hi hd hr, hrun, hended, _, _, rfl, hq, ⟨_, rfl⟩, hW, hsame.mono hc hs⟩
theorem own_retI (X : Stand p l e R s m args below meth c T locs cells slots) (hx : p.tables.exec = Jvm.exec) {z : Int32} (hret : meth.sig.returnType = some .int)
    (hd : decode c.code pc = .ok (.ireturn, 1)) (hlocks : meth.locks = false) (hq : Q (some (.int z)) T.heap locs) (hc : cells ≤ C) (hs : slots ≤ S) :
    own_Ends p.tables e below s Q C S (T.setTop (mkF m pc Ls (.int z :: rest))) :=
  own_retW X hx hret rfl (Or.inl ⟨rfl, Or.inl rfl, z, rfl⟩) hd hlocks hq hc hs
theorem own_retJ (X : Stand p l e R s m args below meth c T locs cells slots) (hx : p.tables.exec = Jvm.exec) {z : Int64} (hret : meth.sig.returnType = some .long)
    (hd : decode c.code pc = .ok (.lreturn, 1)) (hlocks : meth.locks = false) (hq : Q (some (.long z)) T.heap locs) (hc : cells ≤ C) (hs : slots ≤ S) :
    own_Ends p.tables e below s Q C S (T.setTop (mkF m pc Ls (.long z :: rest))) :=
  own_retW X hx hret rfl (Or.inr (Or.inl ⟨rfl, rfl, z, rfl⟩)) hd hlocks hq hc hs
theorem own_retR (X : Stand p l e R s m args below meth c T locs cells slots) (hx : p.tables.exec = Jvm.exec) {w : Value} {t : FieldType} (hret : meth.sig.returnType = some t) (ht : t.isReference = true) (hw : w.isRef = true) (hn : narrow t w = w)
    (hd : decode c.code pc = .ok (.areturn, 1)) (hlocks : meth.locks = false) (hq : Q (some w) T.heap locs) (hc : cells ≤ C) (hs : slots ≤ S) :
    own_Ends p.tables e below s Q C S (T.setTop (mkF m pc Ls (w :: rest))) :=
  own_retW X hx hret hn (Or.inr (Or.inr (Or.inr (Or.inr ⟨rfl, ht, hw⟩)))) hd hlocks hq hc hs
theorem own_retN (X : Stand p l e R s m args below meth c T locs cells slots) (hx : p.tables.exec = Jvm.exec) {z : Int32} {t : FieldType} (hret : meth.sig.returnType = some t) (ht : t = .boolean ∨ t = .byte ∨ t = .char ∨ t = .short)
    (hd : decode c.code pc = .ok (.ireturn, 1)) (hlocks : meth.locks = false) (hq : Q (some (.int (nar t z))) T.heap locs) (hc : cells ≤ C) (hs : slots ≤ S) :
    own_Ends p.tables e below s Q C S (T.setTop (mkF m pc Ls (.int z :: rest))) := by
  obtain ⟨fs, hr, hrun, hended, hW, hsame⟩ := X.leave (v := some (.int (nar t z))) (fun h => by rw [hret] at h; cases h) hlocks
  exact ⟨_, _, retN X hx hret ht hd hr, hrun, hended, _, _, rfl, hq, ⟨_, rfl⟩, hW, hsame.mono hc hs⟩
theorem own_ret0 (X : Stand p l e R s m args below meth c T locs cells slots) (hx : p.tables.exec = Jvm.exec) (hret : meth.sig.returnType = none)
    (hd : decode c.code pc = .ok (.return_, 1)) (hlocks : meth.locks = false) (hq : Q none T.heap locs) (hc : cells ≤ C) (hs : slots ≤ S) :
    own_Ends p.tables e below s Q C S (T.setTop (mkF m pc Ls [])) := by
  obtain ⟨fs, hr, hrun, hended, hW, hsame⟩ := X.leave (v := none) (fun _ => rfl) hlocks
  exact ⟨_, _, X.returnOut hx hret hd hr, hrun, hended, _, _, rfl, hq, ⟨_, rfl⟩, hW, hsame.mono hc hs⟩
end OwnRet
theorem own_idx (b n : Int32) (hn : 0 < n.toInt) : ¬ ((b &&& 2147483647) % n) < 0 ∧ ((b &&& 2147483647) % n) < n := by
  have h1 := c_and b 2147483647 (by decide)
  have h2 := (c_iremV (b &&& 2147483647) n).1 h1.1 hn
  constructor
  · rw [Int32.lt_iff_toInt_lt]; show ¬ _ < (0 : Int); omega
  · rw [Int32.lt_iff_toInt_lt]; omega
theorem own_small (v : Int32) (k : Nat) (hk : k < 2147483648) (h1 : ¬ v < 0) (h2 : v < Int32.ofNat k) : ∃ n : Fin k, v = Int32.ofNat n.1 := by
  rw [Int32.lt_iff_toInt_lt] at h1 h2
  rw [Int32.toInt_ofNat_of_lt hk] at h2
  have a : 0 ≤ v.toInt := by simpa using h1
  refine ⟨⟨v.toInt.toNat, by omega⟩, ?_⟩
  apply Int32.toInt_inj.mp
  rw [Int32.toInt_ofNat_of_lt (by show v.toInt.toNat < _; omega)]
  show v.toInt = ((v.toInt.toNat : Nat) : Int)
  omega
theorem own_NSroot {Z : State} {a0 : Array Value} {O K : String} {n : Nat} (w : (Jvm.Cond.noSuperclass O).before a0 Z = true) (wk : (Jvm.Cond.instantiable K n).before a0 Z = true) (hn : O ≠ K) : NS Z O K := by
  obtain ⟨c, k, h1, h2, h3, -, -⟩ := Cond.noSuperclass_spec w
  obtain ⟨t, k', g1, -⟩ := Cond.instantiable_spec wk
  have ne := ids_ne h1 g1 hn
  refine ⟨c, t, h1, g1, fun fuel => ?_⟩
  cases fuel with
  | zero => rfl
  | succ f => simp [Vm.isSubclassAux, ne, h2, h3]
theorem own_NSno {Z : State} {a0 : Array Value} {C S K : String} {n : Nat} (w : (Jvm.Cond.superclass C S).before a0 Z = true) (wk : (Jvm.Cond.instantiable K n).before a0 Z = true) (nn : NS Z C K) (hn : C ≠ K) : ∃ c t, Z.vm.findClass C = some c ∧ Z.vm.findClass K = some t ∧ Z.vm.assignable c t = false := by
  obtain ⟨c, t, h0, g0, n3⟩ := nn
  obtain ⟨p, k, kp, h1, h2, h3, h4, h5, -, h7⟩ := Cond.superclass_spec h0 w
  obtain ⟨t', k', g1, g2, g3, g4, -⟩ := Cond.instantiable_spec wk
  cases g0.symm.trans g1
  have ne := ids_ne h0 g0 hn
  have g7 : k'.isInterface = false := (Bool.or_eq_false_iff.mp g4).1
  refine ⟨c, t, h0, g0, ?_⟩
  show Z.vm.assignableAux (255 + 1) c t = false
  simp [Vm.assignableAux, ne, h2, g2, h5, g3, g7, Vm.isSubclass, n3]
theorem own_fldR {s : State} {args : Array Value} {t u : Term} {a b : Addr} {C n d : String} (ev : t.eval args s none [] s = some (.ref a)) (ev2 : u.eval args s none [] s = some (.ref b)) (h : (Jvm.Cond.eq (.field t C n d) u).value args s none s [] = some true) : Fld s s.heap a C n d (.ref b) := by
  obtain ⟨x, y, h1, h2, h3, h4⟩ := cmp_v (Or.inl h)
  have h5 : y = .ref b := Option.some.inj (h2.symm.trans ev2)
  subst h5
  have hx : x.isRef = true := h4.2
  have q := eq_R h1 ev2 hx rfl
  have e : x = .ref b := gotT q h
  subst e
  rw [fld_at ev] at h1
  exact Fld.start h1
theorem own_elemR {s : State} {args : Array Value} {t u : Term} {a b : Addr} {k : Int32} {cl : Cell} (ev : t.eval args s none [] s = some (.ref a)) (ev2 : u.eval args s none [] s = some (.ref b)) (h : (Jvm.Cond.eq (.elem t (.int k)) u).value args s none s [] = some true) (hc : s.heap[a]? = some cl) : cl.slots[k.toNatClampNeg]? = some (.ref b) := by
  obtain ⟨x, y, h1, h2, h3, h4⟩ := cmp_v (Or.inl h)
  have h5 : y = .ref b := Option.some.inj (h2.symm.trans ev2)
  subst h5
  have hx : x.isRef = true := h4.2
  have q := eq_R h1 ev2 hx rfl
  have e : x = .ref b := gotT q h
  subst e
  exact (elem_in h1 ev (Term.int_eval k) hc).2
theorem own_len {s : State} {args : Array Value} {t : Term} {a : Addr} {k : Int32} {cl : Cell} (ev : t.eval args s none [] s = some (.ref a)) (h : (Jvm.Cond.eq (.length t) (.int k)).value args s none s [] = some true) (hc : s.arrayAt? a = some cl) : cl.slots.size < 2 ^ 31 ∧ cl.slots.size.toInt32 = k := by
  have e := Cond.eq_int (show (Jvm.Cond.eq (.length t) (.int k)).holds args s none s [] = true by simp only [Cond.holds, h]; rfl) (Term.int_eval k)
  by_cases q : cl.slots.size < 2 ^ 31
  · rw [len_f ev hc q] at e
    exact ⟨q, by injection e with e; injection e⟩
  · simp [Term.eval, ev, hc, q] at e
theorem own_cache {Z : State} {args : Array Value} {t : Term} {G : Jvm.Cond} {a : Addr} {c : Cell} {K : String} (et : ∀ idx, t.eval args Z none idx Z = some (.ref a)) (A : Arr Z Z.heap a c (.object K)) (h : (Jvm.Cond.all t (.and (.exactly (.elem t (.index 0)) K) G)).value args Z none Z [] = some true) :
    ∀ j : Int32, ¬ (j < 0 ∨ c.slots.size ≤ j.toNatClampNeg) → ∃ b : Addr, c.slots[j.toNatClampNeg]? = some (.ref b) ∧ Exa Z Z.heap b K := fun j hj => by
  have nn : ¬ j < 0 := fun x => hj (Or.inl x)
  obtain ⟨u1, u2⟩ := and_e (Cond.all_elim (et []) (A.fin (Vm.Alike.refl _)) h j.toNatClampNeg (Nat.lt_of_not_le fun x => hj (Or.inr x)))
  obtain ⟨box, eb⟩ := exa_v u1
  exact ⟨box, (elem_f (et _) (idx_at nn) (A.fin (Vm.Alike.refl _)) nn).symm.trans eb, exa_at eb u1⟩
theorem d2_0 : decode jdk_30_method_1_code 0 = .ok (.aload_n 0, 1) := by decide +kernel
theorem d2_1 : decode jdk_30_method_1_code 1 = .ok (.invokespecial 1, 3) := by decide +kernel
theorem d2_4 : decode jdk_30_method_1_code 4 = .ok (.return_, 1) := by decide +kernel
theorem pn_0 : plainName "java/lang/Record" = true := by first | (simp [plainName, overriddenIn]; done) | decide +kernel
theorem ef_2 (m : MethodId) (o0_2 : Addr) : entryFrame m #[(.ref o0_2)] 1 = mkF m 0 #[.val (.ref o0_2)] [] := by first | (simp [entryFrame, mkF, argsToLocals, Value.category]; done) | rfl
def Q2 (Z : State) (o0_2 : Addr) (h0 : Heap) (n0 : Nat) (v : Option Value) (h : Heap) (L : List Loc) : Prop := v = none ∧ Fr n0 L ∧ h = h0
set_option maxRecDepth 65536 in
set_option maxHeartbeats 40000000 in
theorem rm2 (l : Launch) (Z : State) (a0 : Array Value) (hw : ∀ d ∈ tables_1, d.before a0 Z = true) (ws : List Jvm.Cond) (o0_2 : Addr) (h0 : Heap) (n0 : Nat) (O0 : Old Z n0 h0) :
    MetFree l (⟨"java/lang/Record", "<init>", "()V"⟩ : MethodName) (head1 (Jvm.Cond.code (⟨"java/lang/Record", "<init>", "()V"⟩ : MethodName) jdk_30_method_1_code 1 none :: ws) ({ frames := 1, cells := 0, slots := 0, locals := 12 } : Room)) (fun a U => a = #[(.ref o0_2)] ∧ Z.Warmed39 U.vm ∧ U.heap = h0) (fun _ _ _ _ _ => True) (fun _ U o U' => ∃ v L, o = .returned v ∧ Q2 Z o0_2 h0 n0 v U'.heap L ∧ FrameEnd U o U' L ({ frames := 1, cells := 0, slots := 0, locals := 12 } : Room).cells ({ frames := 1, cells := 0, slots := 0, locals := 12 } : Room).slots) := by
  refine MetFree.of_bodySF (plainFor_of_name pn_0) hisR ?_
  intro p e s m args below meth c s₁ Bd hml0 hP hK
  obtain ⟨rfl, hZ, hh⟩ := hP
  have hx := Bd.exec
  have hby := Bd.bytes
  have hnl := BodyLoose.notSynchronized Bd
  have hml : c.maxLocals = 1 := hml0
  have hown : s.vm.findClass "java/lang/Record" = some m.cls := findClass_of_methodNamed Bd.named
  have hnm := (name_of_methodNamed Bd.named Bd.method).1
  have X0 : Stand p l e ({ frames := 1, cells := 0, slots := 0, locals := 12 } : Room) s m #[(.ref o0_2)] below meth c s₁ [] 0 0 := Stand.of_body Bd
  have e0 : s₁.heap = h0 := by rw [← hh, Bd.state]; rfl
  have N0 := Fr.nil n0
  show own_Ends p.tables e below s (Q2 Z o0_2 h0 n0) 0 0 (s₁.setTop (entryFrame m #[(.ref o0_2)] 1))
  rw [ef_2 m o0_2]
  show own_Ends p.tables e below s _ _ _ (s₁.setTop (mkF m 0 #[.val (.ref o0_2)] []))
  refine own_step (fun t k => XS.aloadN X0.here hx rfl (hb hby d2_0) rfl rfl k) ?_
  show own_Ends p.tables e below s _ _ _ (s₁.setTop (mkF m 1 #[.val (.ref o0_2)] [(.ref o0_2)]))
  obtain ⟨T1, X1, e1, st1⟩ := initO X0 hx hZ hown (hw _ (List.mem_of_getElem? (i := 11) rfl)) (hw _ (List.mem_of_getElem? (i := 12) rfl)) (hw _ (List.mem_of_getElem? (i := 13) rfl)) e0 (g := (mkF m 1 #[.val (.ref o0_2)] [(.ref o0_2)])) rfl (by rw [hml]; rfl) rfl (hb hby d2_1) (by decide) (W := 0) (by show 2 * 0 + _ ≤ _; exact Nat.le_of_eq rfl) (by decide)
  refine own_step (fun t k => st1 _ k) ?_
  show own_Ends p.tables e below s _ _ _ (T1.setTop (mkF m 4 #[.val (.ref o0_2)] []))
  exact own_ret0 X1 hx Bd.returns (hb hby d2_4) hnl (by rw [e1]; exact ⟨rfl, N0, rfl⟩) (by decide) (by decide)
theorem pd_0 : parseMethodDescriptor "()V" = some ⟨[], none⟩ := by decide +kernel
theorem d1_0 : decode prog_29_method_1_code 0 = .ok (.aload_n 0, 1) := by decide +kernel
theorem d1_1 : decode prog_29_method_1_code 1 = .ok (.invokespecial 1, 3) := by decide +kernel
theorem d1_4 : decode prog_29_method_1_code 4 = .ok (.aload_n 0, 1) := by decide +kernel
theorem d1_5 : decode prog_29_method_1_code 5 = .ok (.lload_n 1, 1) := by decide +kernel
theorem d1_6 : decode prog_29_method_1_code 6 = .ok (.putfield 7, 3) := by decide +kernel
theorem d1_9 : decode prog_29_method_1_code 9 = .ok (.aload_n 0, 1) := by decide +kernel
theorem d1_10 : decode prog_29_method_1_code 10 = .ok (.lload_n 3, 1) := by decide +kernel
theorem d1_11 : decode prog_29_method_1_code 11 = .ok (.putfield 13, 3) := by decide +kernel
theorem d1_14 : decode prog_29_method_1_code 14 = .ok (.return_, 1) := by decide +kernel
theorem pn_1 : plainName "com/example/swanhall/swanhall/core/Cell" = true := by first | (simp [plainName, overriddenIn]; done) | decide +kernel
theorem ef_1 (m : MethodId) (o0_1 : Addr) (y1_1 : Int64) (y2_1 : Int64) : entryFrame m #[(.ref o0_1), (.long y1_1), (.long y2_1)] 5 = mkF m 0 #[.val (.ref o0_1), .val (.long y1_1), .second, .val (.long y2_1), .second] [] := by first | (simp [entryFrame, mkF, argsToLocals, Value.category]; done) | rfl
def Q1 (Z : State) (o0_1 : Addr) (y1_1 : Int64) (y2_1 : Int64) (u_x_o0_1 : Value) (u_y_o0_1 : Value) (h0 : Heap) (n0 : Nat) (v : Option Value) (h : Heap) (L : List Loc) : Prop := v = none ∧ Fr n0 L ∧ Keep h0 h [o0_1] ∧ Exa Z h o0_1 "com/example/swanhall/swanhall/core/Cell" ∧ Fld Z h o0_1 "com/example/swanhall/swanhall/core/Cell" "x" "J" (.long y1_1) ∧ Fld Z h o0_1 "com/example/swanhall/swanhall/core/Cell" "y" "J" (.long y2_1)
set_option maxRecDepth 65536 in
set_option maxHeartbeats 40000000 in
theorem rm1 (l : Launch) (Z : State) (a0 : Array Value) (hw : ∀ d ∈ tables_1, d.before a0 Z = true) (ws : List Jvm.Cond) (o0_1 : Addr) (y1_1 : Int64) (y2_1 : Int64) (u_x_o0_1 : Value) (u_y_o0_1 : Value) (h0 : Heap) (n0 : Nat) (O0 : Old Z n0 h0) (E_o0_1 : Exa Z h0 o0_1 "com/example/swanhall/swanhall/core/Cell") (F_x_o0_1 : Fld Z h0 o0_1 "com/example/swanhall/swanhall/core/Cell" "x" "J" u_x_o0_1) (g_o0_1 : n0 ≤ o0_1) (F_y_o0_1 : Fld Z h0 o0_1 "com/example/swanhall/swanhall/core/Cell" "y" "J" u_y_o0_1) :
    MetFree l (⟨"com/example/swanhall/swanhall/core/Cell", "<init>", "(JJ)V"⟩ : MethodName) (head1 (Jvm.Cond.code (⟨"com/example/swanhall/swanhall/core/Cell", "<init>", "(JJ)V"⟩ : MethodName) prog_29_method_1_code 5 none :: ws) ({ frames := 2, cells := 0, slots := 0, locals := 24 } : Room)) (fun a U => a = #[(.ref o0_1), (.long y1_1), (.long y2_1)] ∧ Z.Warmed39 U.vm ∧ U.heap = h0) (fun _ _ _ _ _ => True) (fun _ U o U' => ∃ v L, o = .returned v ∧ Q1 Z o0_1 y1_1 y2_1 u_x_o0_1 u_y_o0_1 h0 n0 v U'.heap L ∧ FrameEnd U o U' L ({ frames := 2, cells := 0, slots := 0, locals := 24 } : Room).cells ({ frames := 2, cells := 0, slots := 0, locals := 24 } : Room).slots) := by
  refine MetFree.of_bodySF (plainFor_of_name pn_1) hisR ?_
  intro p e s m args below meth c s₁ Bd hml0 hP hK
  obtain ⟨rfl, hZ, hh⟩ := hP
  have hx := Bd.exec
  have hby := Bd.bytes
  have hnl := BodyLoose.notSynchronized Bd
  have hml : c.maxLocals = 5 := hml0
  have hown : s.vm.findClass "com/example/swanhall/swanhall/core/Cell" = some m.cls := findClass_of_methodNamed Bd.named
  have hnm := (name_of_methodNamed Bd.named Bd.method).1
  have X0 : Stand p l e ({ frames := 2, cells := 0, slots := 0, locals := 24 } : Room) s m #[(.ref o0_1), (.long y1_1), (.long y2_1)] below meth c s₁ [] 0 0 := Stand.of_body Bd
  have e0 : s₁.heap = h0 := by rw [← hh, Bd.state]; rfl
  have N0 := Fr.nil n0
  show own_Ends p.tables e below s (Q1 Z o0_1 y1_1 y2_1 u_x_o0_1 u_y_o0_1 h0 n0) 0 0 (s₁.setTop (entryFrame m #[(.ref o0_1), (.long y1_1), (.long y2_1)] 5))
  rw [ef_1 m o0_1 y1_1 y2_1]
  show own_Ends p.tables e below s _ _ _ (s₁.setTop (mkF m 0 #[.val (.ref o0_1), .val (.long y1_1), .second, .val (.long y2_1), .second] []))
  refine own_step (fun t k => XS.aloadN X0.here hx rfl (hb hby d1_0) rfl rfl k) ?_
  show own_Ends p.tables e below s _ _ _ (s₁.setTop (mkF m 1 #[.val (.ref o0_1), .val (.long y1_1), .second, .val (.long y2_1), .second] [(.ref o0_1)]))
  obtain ⟨_, _, ⟨T1, L1, k1, n1⟩, -, X1, ⟨Lc1, hQ1, l1, y1, z1⟩, st1⟩ := X0.specialBack hx (y := (⟨"java/lang/Record", "<init>", "()V"⟩ : MethodName)) rfl hown (mvT hZ (hw _ (List.mem_of_getElem? (i := 6) rfl))) (mvT hZ (hw _ (List.mem_of_getElem? (i := 7) rfl))) (mvT hZ (hw _ (List.mem_of_getElem? (i := 10) rfl))) (by decide) (backOf (W := 0) (rm2 l Z a0 hw [] o0_1 h0 n0 O0 ) hZ (hw _ (List.mem_of_getElem? (i := 10) rfl)) (hw _ (List.mem_of_getElem? (i := 9) rfl)) (by decide) (by decide)) (g := (mkF m 1 #[.val (.ref o0_1), .val (.long y1_1), .second, .val (.long y2_1), .second] [(.ref o0_1)])) rfl (by rw [hml]; rfl) (Steps.refl _) (a := o0_1) (argsL := []) (rest := []) (lenOf pd_0 rfl) rfl (by show 2 * 0 + _ ≤ _; exact Nat.le_of_eq rfl) (hb hby d1_1) (fun _ _ => ⟨rfl, e0, (by decide : 0 + 0 ≤ _), (by decide : 0 + 0 ≤ _)⟩)
  dsimp only [Pt.U, Pt.locs, Pt.cells, Pt.slots] at X1 l1 y1 z1 st1 hQ1
  subst y1 z1
  obtain ⟨rfl, N1q, e1⟩ := hQ1
  refine own_step (fun t k => st1.trans k) ?_
  have N2 : Fr n0 L1 := by rw [l1]; exact Fr.app N0 N1q
  show own_Ends p.tables e below s _ _ _ (T1.setTop (mkF m 4 #[.val (.ref o0_1), .val (.long y1_1), .second, .val (.long y2_1), .second] []))
  refine own_step (fun t k => XS.aloadN X1.here hx rfl (hb hby d1_4) rfl rfl k) ?_
  show own_Ends p.tables e below s _ _ _ (T1.setTop (mkF m 5 #[.val (.ref o0_1), .val (.long y1_1), .second, .val (.long y2_1), .second] [(.ref o0_1)]))
  refine own_step (fun t k => XS.lloadN X1.here hx rfl (hb hby d1_5) rfl k) ?_
  show own_Ends p.tables e below s _ _ _ (T1.setTop (mkF m 6 #[.val (.ref o0_1), .val (.long y1_1), .second, .val (.long y2_1), .second] [(.long y1_1), (.ref o0_1)]))
  obtain ⟨T3, h3, X3, e3, W3, st3⟩ := putF X1 hx hZ hown (host := "") (Or.inl (hw _ (List.mem_of_getElem? (i := 14) rfl))) Via.refl e1 F_x_o0_1 E_o0_1 (Or.inr ⟨(hw _ (List.mem_of_getElem? (i := 15) rfl)), rfl, hnm⟩) (hw _ (List.mem_of_getElem? (i := 1) rfl)) (ty := .long) (by decide) rfl rfl (g := (mkF m 6 #[.val (.ref o0_1), .val (.long y1_1), .second, .val (.long y2_1), .second] [(.long y1_1), (.ref o0_1)])) rfl rfl (hb hby d1_6)
  refine own_step (fun t k => st3 _ k) ?_
  have F4 : Fld Z h3 o0_1 "com/example/swanhall/swanhall/core/Cell" "x" "J" (.long y1_1) := F_x_o0_1.same W3
  have K5 : Keep h0 h3 [o0_1] := (Keep.refl h0 [o0_1]).wr W3 (Or.inl (List.mem_of_getElem? (i := 0) rfl))
  have N6 := Fr.snoc X3 N2 g_o0_1
  show own_Ends p.tables e below s _ _ _ (T3.setTop (mkF m 9 #[.val (.ref o0_1), .val (.long y1_1), .second, .val (.long y2_1), .second] []))
  refine own_step (fun t k => XS.aloadN X3.here hx rfl (hb hby d1_9) rfl rfl k) ?_
  show own_Ends p.tables e below s _ _ _ (T3.setTop (mkF m 10 #[.val (.ref o0_1), .val (.long y1_1), .second, .val (.long y2_1), .second] [(.ref o0_1)]))
  refine own_step (fun t k => XS.lloadN X3.here hx rfl (hb hby d1_10) rfl k) ?_
  show own_Ends p.tables e below s _ _ _ (T3.setTop (mkF m 11 #[.val (.ref o0_1), .val (.long y1_1), .second, .val (.long y2_1), .second] [(.long y2_1), (.ref o0_1)]))
  have F7 : Exa Z h3 o0_1 "com/example/swanhall/swanhall/core/Cell" := (E_o0_1.wr W3)
  have F8 : Fld Z h3 o0_1 "com/example/swanhall/swanhall/core/Cell" "y" "J" u_y_o0_1 := (F_y_o0_1.other W3 (Or.inr (slot_ne (Or.inr (hw _ (List.mem_of_getElem? (i := 17) rfl))) (Or.inr (hw _ (List.mem_of_getElem? (i := 15) rfl))) (by decide) (t := .long) (t' := .long) (by decide) (by decide))))
  obtain ⟨T9, h9, X9, e9, W9, st9⟩ := putF X3 hx hZ hown (host := "") (Or.inl (hw _ (List.mem_of_getElem? (i := 16) rfl))) Via.refl e3 F8 F7 (Or.inr ⟨(hw _ (List.mem_of_getElem? (i := 17) rfl)), rfl, hnm⟩) (hw _ (List.mem_of_getElem? (i := 1) rfl)) (ty := .long) (by decide) rfl rfl (g := (mkF m 11 #[.val (.ref o0_1), .val (.long y1_1), .second, .val (.long y2_1), .second] [(.long y2_1), (.ref o0_1)])) rfl rfl (hb hby d1_11)
  refine own_step (fun t k => st9 _ k) ?_
  have F10 : Fld Z h9 o0_1 "com/example/swanhall/swanhall/core/Cell" "y" "J" (.long y2_1) := F8.same W9
  have K11 : Keep h0 h9 [o0_1] := K5.wr W9 (Or.inl (List.mem_of_getElem? (i := 0) rfl))
  have N12 := Fr.snoc X9 N6 g_o0_1
  show own_Ends p.tables e below s _ _ _ (T9.setTop (mkF m 14 #[.val (.ref o0_1), .val (.long y1_1), .second, .val (.long y2_1), .second] []))
  have F13 : Exa Z h9 o0_1 "com/example/swanhall/swanhall/core/Cell" := (F7.wr W9)
  have F14 : Fld Z h9 o0_1 "com/example/swanhall/swanhall/core/Cell" "x" "J" (.long y1_1) := (F4.other W9 (Or.inr (slot_ne (Or.inr (hw _ (List.mem_of_getElem? (i := 15) rfl))) (Or.inr (hw _ (List.mem_of_getElem? (i := 17) rfl))) (by decide) (t := .long) (t' := .long) (by decide) (by decide))))
  exact own_ret0 X9 hx Bd.returns (hb hby d1_14) hnl (by rw [e9]; exact ⟨rfl, N12, K11, F13, F14, F10⟩) (by decide) (by decide)
theorem d12_0 : decode jdk_18_method_1_code 0 = .ok (.aload_n 0, 1) := by decide +kernel
theorem d12_1 : decode jdk_18_method_1_code 1 = .ok (.invokespecial 1, 3) := by decide +kernel
theorem d12_4 : decode jdk_18_method_1_code 4 = .ok (.return_, 1) := by decide +kernel
theorem pn_2 : plainName "java/lang/Number" = true := by first | (simp [plainName, overriddenIn]; done) | decide +kernel
theorem ef_12 (m : MethodId) (o0_12 : Addr) : entryFrame m #[(.ref o0_12)] 1 = mkF m 0 #[.val (.ref o0_12)] [] := by first | (simp [entryFrame, mkF, argsToLocals, Value.category]; done) | rfl
def Q12 (Z : State) (o0_12 : Addr) (h0 : Heap) (n0 : Nat) (v : Option Value) (h : Heap) (L : List Loc) : Prop := v = none ∧ Fr n0 L ∧ h = h0
set_option maxRecDepth 65536 in
set_option maxHeartbeats 40000000 in
theorem rm12 (l : Launch) (Z : State) (a0 : Array Value) (hw : ∀ d ∈ tables_1, d.before a0 Z = true) (ws : List Jvm.Cond) (o0_12 : Addr) (h0 : Heap) (n0 : Nat) (O0 : Old Z n0 h0) :
    MetFree l (⟨"java/lang/Number", "<init>", "()V"⟩ : MethodName) (head1 (Jvm.Cond.code (⟨"java/lang/Number", "<init>", "()V"⟩ : MethodName) jdk_18_method_1_code 1 none :: ws) ({ frames := 1, cells := 0, slots := 0, locals := 12 } : Room)) (fun a U => a = #[(.ref o0_12)] ∧ Z.Warmed39 U.vm ∧ U.heap = h0) (fun _ _ _ _ _ => True) (fun _ U o U' => ∃ v L, o = .returned v ∧ Q12 Z o0_12 h0 n0 v U'.heap L ∧ FrameEnd U o U' L ({ frames := 1, cells := 0, slots := 0, locals := 12 } : Room).cells ({ frames := 1, cells := 0, slots := 0, locals := 12 } : Room).slots) := by
  refine MetFree.of_bodySF (plainFor_of_name pn_2) hisR ?_
  intro p e s m args below meth c s₁ Bd hml0 hP hK
  obtain ⟨rfl, hZ, hh⟩ := hP
  have hx := Bd.exec
  have hby := Bd.bytes
  have hnl := BodyLoose.notSynchronized Bd
  have hml : c.maxLocals = 1 := hml0
  have hown : s.vm.findClass "java/lang/Number" = some m.cls := findClass_of_methodNamed Bd.named
  have hnm := (name_of_methodNamed Bd.named Bd.method).1
  have X0 : Stand p l e ({ frames := 1, cells := 0, slots := 0, locals := 12 } : Room) s m #[(.ref o0_12)] below meth c s₁ [] 0 0 := Stand.of_body Bd
  have e0 : s₁.heap = h0 := by rw [← hh, Bd.state]; rfl
  have N0 := Fr.nil n0
  show own_Ends p.tables e below s (Q12 Z o0_12 h0 n0) 0 0 (s₁.setTop (entryFrame m #[(.ref o0_12)] 1))
  rw [ef_12 m o0_12]
  show own_Ends p.tables e below s _ _ _ (s₁.setTop (mkF m 0 #[.val (.ref o0_12)] []))
  refine own_step (fun t k => XS.aloadN X0.here hx rfl (hb hby d12_0) rfl rfl k) ?_
  show own_Ends p.tables e below s _ _ _ (s₁.setTop (mkF m 1 #[.val (.ref o0_12)] [(.ref o0_12)]))
  obtain ⟨T1, X1, e1, st1⟩ := initO X0 hx hZ hown (hw _ (List.mem_of_getElem? (i := 73) rfl)) (hw _ (List.mem_of_getElem? (i := 12) rfl)) (hw _ (List.mem_of_getElem? (i := 13) rfl)) e0 (g := (mkF m 1 #[.val (.ref o0_12)] [(.ref o0_12)])) rfl (by rw [hml]; rfl) rfl (hb hby d12_1) (by decide) (W := 0) (by show 2 * 0 + _ ≤ _; exact Nat.le_of_eq rfl) (by decide)
  refine own_step (fun t k => st1 _ k) ?_
  show own_Ends p.tables e below s _ _ _ (T1.setTop (mkF m 4 #[.val (.ref o0_12)] []))
  exact own_ret0 X1 hx Bd.returns (hb hby d12_4) hnl (by rw [e1]; exact ⟨rfl, N0, rfl⟩) (by decide) (by decide)
theorem d11_0 : decode jdk_35_method_26_code 0 = .ok (.aload_n 0, 1) := by decide +kernel
theorem d11_1 : decode jdk_35_method_26_code 1 = .ok (.invokespecial 270, 3) := by decide +kernel
theorem d11_4 : decode jdk_35_method_26_code 4 = .ok (.aload_n 0, 1) := by decide +kernel
theorem d11_5 : decode jdk_35_method_26_code 5 = .ok (.lload_n 1, 1) := by decide +kernel
theorem d11_6 : decode jdk_35_method_26_code 6 = .ok (.putfield 273, 3) := by decide +kernel
theorem d11_9 : decode jdk_35_method_26_code 9 = .ok (.return_, 1) := by decide +kernel
theorem pn_3 : plainName "java/lang/Long" = true := by first | (simp [plainName, overriddenIn]; done) | decide +kernel
theorem ef_11 (m : MethodId) (o0_11 : Addr) (y1_11 : Int64) : entryFrame m #[(.ref o0_11), (.long y1_11)] 3 = mkF m 0 #[.val (.ref o0_11), .val (.long y1_11), .second] [] := by first | (simp [entryFrame, mkF, argsToLocals, Value.category]; done) | rfl
def Q11 (Z : State) (o0_11 : Addr) (y1_11 : Int64) (u_value_o0_11 : Value) (h0 : Heap) (n0 : Nat) (v : Option Value) (h : Heap) (L : List Loc) : Prop := v = none ∧ Fr n0 L ∧ Keep h0 h [o0_11] ∧ Exa Z h o0_11 "java/lang/Long" ∧ Fld Z h o0_11 "java/lang/Long" "value" "J" (.long y1_11)
set_option maxRecDepth 65536 in
set_option maxHeartbeats 40000000 in
theorem rm11 (l : Launch) (Z : State) (a0 : Array Value) (hw : ∀ d ∈ tables_1, d.before a0 Z = true) (ws : List Jvm.Cond) (o0_11 : Addr) (y1_11 : Int64) (u_value_o0_11 : Value) (h0 : Heap) (n0 : Nat) (O0 : Old Z n0 h0) (E_o0_11 : Exa Z h0 o0_11 "java/lang/Long") (F_value_o0_11 : Fld Z h0 o0_11 "java/lang/Long" "value" "J" u_value_o0_11) (g_o0_11 : n0 ≤ o0_11) :
    MetFree l (⟨"java/lang/Long", "<init>", "(J)V"⟩ : MethodName) (head1 (Jvm.Cond.code (⟨"java/lang/Long", "<init>", "(J)V"⟩ : MethodName) jdk_35_method_26_code 3 none :: ws) ({ frames := 2, cells := 0, slots := 0, locals := 24 } : Room)) (fun a U => a = #[(.ref o0_11), (.long y1_11)] ∧ Z.Warmed39 U.vm ∧ U.heap = h0) (fun _ _ _ _ _ => True) (fun _ U o U' => ∃ v L, o = .returned v ∧ Q11 Z o0_11 y1_11 u_value_o0_11 h0 n0 v U'.heap L ∧ FrameEnd U o U' L ({ frames := 2, cells := 0, slots := 0, locals := 24 } : Room).cells ({ frames := 2, cells := 0, slots := 0, locals := 24 } : Room).slots) := by
  refine MetFree.of_bodySF (plainFor_of_name pn_3) hisR ?_
  intro p e s m args below meth c s₁ Bd hml0 hP hK
  obtain ⟨rfl, hZ, hh⟩ := hP
  have hx := Bd.exec
  have hby := Bd.bytes
  have hnl := BodyLoose.notSynchronized Bd
  have hml : c.maxLocals = 3 := hml0
  have hown : s.vm.findClass "java/lang/Long" = some m.cls := findClass_of_methodNamed Bd.named
  have hnm := (name_of_methodNamed Bd.named Bd.method).1
  have X0 : Stand p l e ({ frames := 2, cells := 0, slots := 0, locals := 24 } : Room) s m #[(.ref o0_11), (.long y1_11)] below meth c s₁ [] 0 0 := Stand.of_body Bd
  have e0 : s₁.heap = h0 := by rw [← hh, Bd.state]; rfl
  have N0 := Fr.nil n0
  show own_Ends p.tables e below s (Q11 Z o0_11 y1_11 u_value_o0_11 h0 n0) 0 0 (s₁.setTop (entryFrame m #[(.ref o0_11), (.long y1_11)] 3))
  rw [ef_11 m o0_11 y1_11]
  show own_Ends p.tables e below s _ _ _ (s₁.setTop (mkF m 0 #[.val (.ref o0_11), .val (.long y1_11), .second] []))
  refine own_step (fun t k => XS.aloadN X0.here hx rfl (hb hby d11_0) rfl rfl k) ?_
  show own_Ends p.tables e below s _ _ _ (s₁.setTop (mkF m 1 #[.val (.ref o0_11), .val (.long y1_11), .second] [(.ref o0_11)]))
  obtain ⟨_, _, ⟨T1, L1, k1, n1⟩, -, X1, ⟨Lc1, hQ1, l1, y1, z1⟩, st1⟩ := X0.specialBack hx (y := (⟨"java/lang/Number", "<init>", "()V"⟩ : MethodName)) rfl hown (mvT hZ (hw _ (List.mem_of_getElem? (i := 67) rfl))) (mvT hZ (hw _ (List.mem_of_getElem? (i := 68) rfl))) (mvT hZ (hw _ (List.mem_of_getElem? (i := 72) rfl))) (by decide) (backOf (W := 0) (rm12 l Z a0 hw [] o0_11 h0 n0 O0 ) hZ (hw _ (List.mem_of_getElem? (i := 72) rfl)) (hw _ (List.mem_of_getElem? (i := 71) rfl)) (by decide) (by decide)) (g := (mkF m 1 #[.val (.ref o0_11), .val (.long y1_11), .second] [(.ref o0_11)])) rfl (by rw [hml]; rfl) (Steps.refl _) (a := o0_11) (argsL := []) (rest := []) (lenOf pd_0 rfl) rfl (by show 2 * 0 + _ ≤ _; exact Nat.le_of_eq rfl) (hb hby d11_1) (fun _ _ => ⟨rfl, e0, (by decide : 0 + 0 ≤ _), (by decide : 0 + 0 ≤ _)⟩)
  dsimp only [Pt.U, Pt.locs, Pt.cells, Pt.slots] at X1 l1 y1 z1 st1 hQ1
  subst y1 z1
  obtain ⟨rfl, N1q, e1⟩ := hQ1
  refine own_step (fun t k => st1.trans k) ?_
  have N2 : Fr n0 L1 := by rw [l1]; exact Fr.app N0 N1q
  show own_Ends p.tables e below s _ _ _ (T1.setTop (mkF m 4 #[.val (.ref o0_11), .val (.long y1_11), .second] []))
  refine own_step (fun t k => XS.aloadN X1.here hx rfl (hb hby d11_4) rfl rfl k) ?_
  show own_Ends p.tables e below s _ _ _ (T1.setTop (mkF m 5 #[.val (.ref o0_11), .val (.long y1_11), .second] [(.ref o0_11)]))
  refine own_step (fun t k => XS.lloadN X1.here hx rfl (hb hby d11_5) rfl k) ?_
  show own_Ends p.tables e below s _ _ _ (T1.setTop (mkF m 6 #[.val (.ref o0_11), .val (.long y1_11), .second] [(.long y1_11), (.ref o0_11)]))
  obtain ⟨T3, h3, X3, e3, W3, st3⟩ := putF X1 hx hZ hown (host := "") (Or.inl (hw _ (List.mem_of_getElem? (i := 74) rfl))) Via.refl e1 F_value_o0_11 E_o0_11 (Or.inr ⟨(hw _ (List.mem_of_getElem? (i := 75) rfl)), rfl, hnm⟩) (hw _ (List.mem_of_getElem? (i := 62) rfl)) (ty := .long) (by decide) rfl rfl (g := (mkF m 6 #[.val (.ref o0_11), .val (.long y1_11), .second] [(.long y1_11), (.ref o0_11)])) rfl rfl (hb hby d11_6)
  refine own_step (fun t k => st3 _ k) ?_
  have F4 : Fld Z h3 o0_11 "java/lang/Long" "value" "J" (.long y1_11) := F_value_o0_11.same W3
  have K5 : Keep h0 h3 [o0_11] := (Keep.refl h0 [o0_11]).wr W3 (Or.inl (List.mem_of_getElem? (i := 0) rfl))
  have N6 := Fr.snoc X3 N2 g_o0_11
  show own_Ends p.tables e below s _ _ _ (T3.setTop (mkF m 9 #[.val (.ref o0_11), .val (.long y1_11), .second] []))
  have F7 : Exa Z h3 o0_11 "java/lang/Long" := (E_o0_11.wr W3)
  exact own_ret0 X3 hx Bd.returns (hb hby d11_9) hnl (by rw [e3]; exact ⟨rfl, N6, K5, F7, F4⟩) (by decide) (by decide)
def own_r4 (w_x_o1_4 : Int64) (w_x_o0_4 : Int64) (w_y_o1_4 : Int64) (w_y_o0_4 : Int64) : Int32 := (if (lcmpW w_x_o1_4 w_x_o0_4) = (0 : Int32) then (if (lcmpW w_y_o1_4 w_y_o0_4) = (0 : Int32) then (1 : Int32) else (0 : Int32)) else (0 : Int32))
theorem d4_0 : decode prog_29_method_5_code 0 = .ok (.aload_n 1, 1) := by decide +kernel
theorem d4_1 : decode prog_29_method_5_code 1 = .ok (.instanceof 8, 3) := by decide +kernel
theorem d4_4 : decode prog_29_method_5_code 4 = .ok (.ifCond .eq 36, 3) := by decide +kernel
theorem d4_7 : decode prog_29_method_5_code 7 = .ok (.aload_n 1, 1) := by decide +kernel
theorem d4_8 : decode prog_29_method_5_code 8 = .ok (.checkcast 8, 3) := by decide +kernel
theorem d4_11 : decode prog_29_method_5_code 11 = .ok (.astore_n 2, 1) := by decide +kernel
theorem d4_12 : decode prog_29_method_5_code 12 = .ok (.aload_n 2, 1) := by decide +kernel
theorem d4_13 : decode prog_29_method_5_code 13 = .ok (.getfield 7, 3) := by decide +kernel
theorem d4_16 : decode prog_29_method_5_code 16 = .ok (.aload_n 0, 1) := by decide +kernel
theorem d4_17 : decode prog_29_method_5_code 17 = .ok (.getfield 7, 3) := by decide +kernel
theorem d4_20 : decode prog_29_method_5_code 20 = .ok (.lcmp, 1) := by decide +kernel
theorem d4_21 : decode prog_29_method_5_code 21 = .ok (.ifCond .ne 19, 3) := by decide +kernel
theorem d4_24 : decode prog_29_method_5_code 24 = .ok (.aload_n 2, 1) := by decide +kernel
theorem d4_25 : decode prog_29_method_5_code 25 = .ok (.getfield 13, 3) := by decide +kernel
theorem d4_28 : decode prog_29_method_5_code 28 = .ok (.aload_n 0, 1) := by decide +kernel
theorem d4_29 : decode prog_29_method_5_code 29 = .ok (.getfield 13, 3) := by decide +kernel
theorem d4_32 : decode prog_29_method_5_code 32 = .ok (.lcmp, 1) := by decide +kernel
theorem d4_33 : decode prog_29_method_5_code 33 = .ok (.ifCond .ne 7, 3) := by decide +kernel
theorem d4_36 : decode prog_29_method_5_code 36 = .ok (.iconst 1, 1) := by decide +kernel
theorem d4_37 : decode prog_29_method_5_code 37 = .ok (.goto 4, 3) := by decide +kernel
theorem d4_40 : decode prog_29_method_5_code 40 = .ok (.iconst 0, 1) := by decide +kernel
theorem d4_41 : decode prog_29_method_5_code 41 = .ok (.ireturn, 1) := by decide +kernel
theorem ef_4 (m : MethodId) (o0_4 : Addr) (o1_4 : Addr) : entryFrame m #[(.ref o0_4), (.ref o1_4)] 3 = mkF m 0 #[.val (.ref o0_4), .val (.ref o1_4), .unset] [] := by first | (simp [entryFrame, mkF, argsToLocals, Value.category]; done) | rfl
def Q4 (Z : State) (o0_4 : Addr) (o1_4 : Addr) (w_x_o1_4 : Int64) (w_x_o0_4 : Int64) (w_y_o1_4 : Int64) (w_y_o0_4 : Int64) (h0 : Heap) (n0 : Nat) (v : Option Value) (h : Heap) (L : List Loc) : Prop := v = some (.int (own_r4 w_x_o1_4 w_x_o0_4 w_y_o1_4 w_y_o0_4)) ∧ Fr n0 L ∧ h = h0
set_option maxRecDepth 65536 in
set_option maxHeartbeats 40000000 in
theorem rm4 (l : Launch) (Z : State) (a0 : Array Value) (hw : ∀ d ∈ tables_1, d.before a0 Z = true) (ws : List Jvm.Cond) (o0_4 : Addr) (o1_4 : Addr) (w_x_o1_4 : Int64) (w_x_o0_4 : Int64) (w_y_o1_4 : Int64) (w_y_o0_4 : Int64) (h0 : Heap) (n0 : Nat) (O0 : Old Z n0 h0) (E_o1_4 : Exa Z h0 o1_4 "com/example/swanhall/swanhall/core/Cell") (F_x_o1_4 : Fld Z h0 o1_4 "com/example/swanhall/swanhall/core/Cell" "x" "J" (.long w_x_o1_4)) (F_x_o0_4 : Fld Z h0 o0_4 "com/example/swanhall/swanhall/core/Cell" "x" "J" (.long w_x_o0_4)) (F_y_o1_4 : Fld Z h0 o1_4 "com/example/swanhall/swanhall/core/Cell" "y" "J" (.long w_y_o1_4)) (F_y_o0_4 : Fld Z h0 o0_4 "com/example/swanhall/swanhall/core/Cell" "y" "J" (.long w_y_o0_4)) :
    MetFree l (⟨"com/example/swanhall/swanhall/core/Cell", "equals", "(Ljava/lang/Object;)Z"⟩ : MethodName) (head1 (Jvm.Cond.code (⟨"com/example/swanhall/swanhall/core/Cell", "equals", "(Ljava/lang/Object;)Z"⟩ : MethodName) prog_29_method_5_code 3 (some .boolean) :: ws) ({ frames := 0, cells := 0, slots := 0, locals := 0 } : Room)) (fun a U => a = #[(.ref o0_4), (.ref o1_4)] ∧ Z.Warmed39 U.vm ∧ U.heap = h0) (fun _ _ _ _ _ => True) (fun _ U o U' => ∃ v L, o = .returned v ∧ Q4 Z o0_4 o1_4 w_x_o1_4 w_x_o0_4 w_y_o1_4 w_y_o0_4 h0 n0 v U'.heap L ∧ FrameEnd U o U' L ({ frames := 0, cells := 0, slots := 0, locals := 0 } : Room).cells ({ frames := 0, cells := 0, slots := 0, locals := 0 } : Room).slots) := by
  refine MetFree.of_bodySF (plainFor_of_name pn_1) hisR ?_
  intro p e s m args below meth c s₁ Bd hml0 hP hK
  obtain ⟨rfl, hZ, hh⟩ := hP
  have hx := Bd.exec
  have hby := Bd.bytes
  have hnl := BodyLoose.notSynchronized Bd
  have hml : c.maxLocals = 3 := hml0
  have hown : s.vm.findClass "com/example/swanhall/swanhall/core/Cell" = some m.cls := findClass_of_methodNamed Bd.named
  have hnm := (name_of_methodNamed Bd.named Bd.method).1
  have X0 : Stand p l e ({ frames := 0, cells := 0, slots := 0, locals := 0 } : Room) s m #[(.ref o0_4), (.ref o1_4)] below meth c s₁ [] 0 0 := Stand.of_body Bd
  have e0 : s₁.heap = h0 := by rw [← hh, Bd.state]; rfl
  have N0 := Fr.nil n0
  show own_Ends p.tables e below s (Q4 Z o0_4 o1_4 w_x_o1_4 w_x_o0_4 w_y_o1_4 w_y_o0_4 h0 n0) 0 0 (s₁.setTop (entryFrame m #[(.ref o0_4), (.ref o1_4)] 3))
  rw [ef_4 m o0_4 o1_4]
  show own_Ends p.tables e below s _ _ _ (s₁.setTop (mkF m 0 #[.val (.ref o0_4), .val (.ref o1_4), .unset] []))
  refine own_step (fun t k => XS.aloadN X0.here hx rfl (hb hby d4_0) rfl rfl k) ?_
  show own_Ends p.tables e below s _ _ _ (s₁.setTop (mkF m 1 #[.val (.ref o0_4), .val (.ref o1_4), .unset] [(.ref o1_4)]))
  obtain ⟨T1, X1, e1, st1⟩ := instY X0 hx hZ hown (hw _ (List.mem_of_getElem? (i := 23) rfl)) e0 (Ins.self E_o1_4) (g := (mkF m 1 #[.val (.ref o0_4), .val (.ref o1_4), .unset] [(.ref o1_4)])) rfl rfl (hb hby d4_1)
  refine own_step (fun t k => st1 _ k) ?_
  show own_Ends p.tables e below s _ _ _ (T1.setTop (mkF m 4 #[.val (.ref o0_4), .val (.ref o1_4), .unset] [(.int (1 : Int32))]))
  refine own_step (fun t k => XS.ifNo X1.here hx rfl (hb hby d4_4) rfl ((if0 _ _).trans (feq (by decide : ¬ ((1 : Int32) = (0 : Int32)))).1) k) ?_
  show own_Ends p.tables e below s _ _ _ (T1.setTop (mkF m 7 #[.val (.ref o0_4), .val (.ref o1_4), .unset] []))
  refine own_step (fun t k => XS.aloadN X1.here hx rfl (hb hby d4_7) rfl rfl k) ?_
  show own_Ends p.tables e below s _ _ _ (T1.setTop (mkF m 8 #[.val (.ref o0_4), .val (.ref o1_4), .unset] [(.ref o1_4)]))
  obtain ⟨T2, X2, e2, st2⟩ := castY X1 hx hZ hown (hw _ (List.mem_of_getElem? (i := 23) rfl)) e1 (Ins.self E_o1_4) (g := (mkF m 8 #[.val (.ref o0_4), .val (.ref o1_4), .unset] [(.ref o1_4)])) rfl rfl (hb hby d4_8)
  refine own_step (fun t k => st2 _ k) ?_
  show own_Ends p.tables e below s _ _ _ (T2.setTop (mkF m 11 #[.val (.ref o0_4), .val (.ref o1_4), .unset] [(.ref o1_4)]))
  refine own_step (fun t k => XS.astoreN X2.here hx rfl (hb hby d4_11) rfl rfl (l' := #[.val (.ref o0_4), .val (.ref o1_4), .val (.ref o1_4)]) rfl k) ?_
  show own_Ends p.tables e below s _ _ _ (T2.setTop (mkF m 12 #[.val (.ref o0_4), .val (.ref o1_4), .val (.ref o1_4)] []))
  refine own_step (fun t k => XS.aloadN X2.here hx rfl (hb hby d4_12) rfl rfl k) ?_
  show own_Ends p.tables e below s _ _ _ (T2.setTop (mkF m 13 #[.val (.ref o0_4), .val (.ref o1_4), .val (.ref o1_4)] [(.ref o1_4)]))
  obtain ⟨T3, X3, e3, st3⟩ := getF X2 hx hZ hown (host := "") (Or.inl (hw _ (List.mem_of_getElem? (i := 14) rfl))) Via.refl e2 F_x_o1_4 (g := (mkF m 13 #[.val (.ref o0_4), .val (.ref o1_4), .val (.ref o1_4)] [(.ref o1_4)])) rfl rfl (hb hby d4_13)
  refine own_step (fun t k => st3 _ k) ?_
  show own_Ends p.tables e below s _ _ _ (T3.setTop (mkF m 16 #[.val (.ref o0_4), .val (.ref o1_4), .val (.ref o1_4)] [(.long w_x_o1_4)]))
  refine own_step (fun t k => XS.aloadN X3.here hx rfl (hb hby d4_16) rfl rfl k) ?_
  show own_Ends p.tables e below s _ _ _ (T3.setTop (mkF m 17 #[.val (.ref o0_4), .val (.ref o1_4), .val (.ref o1_4)] [(.ref o0_4), (.long w_x_o1_4)]))
  obtain ⟨T4, X4, e4, st4⟩ := getF X3 hx hZ hown (host := "") (Or.inl (hw _ (List.mem_of_getElem? (i := 14) rfl))) Via.refl e3 F_x_o0_4 (g := (mkF m 17 #[.val (.ref o0_4), .val (.ref o1_4), .val (.ref o1_4)] [(.ref o0_4), (.long w_x_o1_4)])) rfl rfl (hb hby d4_17)
  refine own_step (fun t k => st4 _ k) ?_
  show own_Ends p.tables e below s _ _ _ (T4.setTop (mkF m 20 #[.val (.ref o0_4), .val (.ref o1_4), .val (.ref o1_4)] [(.long w_x_o0_4), (.long w_x_o1_4)]))
  refine own_step (fun t k => XS.lcmp X4.here hx rfl (hb hby d4_20) rfl k) ?_
  show own_Ends p.tables e below s _ _ _ (T4.setTop (mkF m 21 #[.val (.ref o0_4), .val (.ref o1_4), .val (.ref o1_4)] [(.int (lcmpW w_x_o1_4 w_x_o0_4))]))
  by_cases hc21_5 : (lcmpW w_x_o1_4 w_x_o0_4) = (0 : Int32)
  · skip
    refine own_step (fun t k => XS.ifNo X4.here hx rfl (hb hby d4_21) rfl ((if0 _ _).trans (teq hc21_5).2) k) ?_
    show own_Ends p.tables e below s _ _ _ (T4.setTop (mkF m 24 #[.val (.ref o0_4), .val (.ref o1_4), .val (.ref o1_4)] []))
    refine own_step (fun t k => XS.aloadN X4.here hx rfl (hb hby d4_24) rfl rfl k) ?_
    show own_Ends p.tables e below s _ _ _ (T4.setTop (mkF m 25 #[.val (.ref o0_4), .val (.ref o1_4), .val (.ref o1_4)] [(.ref o1_4)]))
    obtain ⟨T6, X6, e6, st6⟩ := getF X4 hx hZ hown (host := "") (Or.inl (hw _ (List.mem_of_getElem? (i := 16) rfl))) Via.refl e4 F_y_o1_4 (g := (mkF m 25 #[.val (.ref o0_4), .val (.ref o1_4), .val (.ref o1_4)] [(.ref o1_4)])) rfl rfl (hb hby d4_25)
    refine own_step (fun t k => st6 _ k) ?_
    show own_Ends p.tables e below s _ _ _ (T6.setTop (mkF m 28 #[.val (.ref o0_4), .val (.ref o1_4), .val (.ref o1_4)] [(.long w_y_o1_4)]))
    refine own_step (fun t k => XS.aloadN X6.here hx rfl (hb hby d4_28) rfl rfl k) ?_
    show own_Ends p.tables e below s _ _ _ (T6.setTop (mkF m 29 #[.val (.ref o0_4), .val (.ref o1_4), .val (.ref o1_4)] [(.ref o0_4), (.long w_y_o1_4)]))
    obtain ⟨T7, X7, e7, st7⟩ := getF X6 hx hZ hown (host := "") (Or.inl (hw _ (List.mem_of_getElem? (i := 16) rfl))) Via.refl e6 F_y_o0_4 (g := (mkF m 29 #[.val (.ref o0_4), .val (.ref o1_4), .val (.ref o1_4)] [(.ref o0_4), (.long w_y_o1_4)])) rfl rfl (hb hby d4_29)
    refine own_step (fun t k => st7 _ k) ?_
    show own_Ends p.tables e below s _ _ _ (T7.setTop (mkF m 32 #[.val (.ref o0_4), .val (.ref o1_4), .val (.ref o1_4)] [(.long w_y_o0_4), (.long w_y_o1_4)]))
    refine own_step (fun t k => XS.lcmp X7.here hx rfl (hb hby d4_32) rfl k) ?_
    show own_Ends p.tables e below s _ _ _ (T7.setTop (mkF m 33 #[.val (.ref o0_4), .val (.ref o1_4), .val (.ref o1_4)] [(.int (lcmpW w_y_o1_4 w_y_o0_4))]))
    by_cases hc33_8 : (lcmpW w_y_o1_4 w_y_o0_4) = (0 : Int32)
    · skip
      refine own_step (fun t k => XS.ifNo X7.here hx rfl (hb hby d4_33) rfl ((if0 _ _).trans (teq hc33_8).2) k) ?_
      show own_Ends p.tables e below s _ _ _ (T7.setTop (mkF m 36 #[.val (.ref o0_4), .val (.ref o1_4), .val (.ref o1_4)] []))
      refine own_step (fun t k => XS.iconst X7.here hx rfl (hb hby d4_36) k) ?_
      show own_Ends p.tables e below s _ _ _ (T7.setTop (mkF m 37 #[.val (.ref o0_4), .val (.ref o1_4), .val (.ref o1_4)] [(.int (1 : Int32))]))
      refine own_step (fun t k => XS.goto X7.here hx rfl (pc0 := 37) (pc' := 41) rfl (hb hby d4_37) (by decide) (by decide) k) ?_
      show own_Ends p.tables e below s _ _ _ (T7.setTop (mkF m 41 #[.val (.ref o0_4), .val (.ref o1_4), .val (.ref o1_4)] [(.int (1 : Int32))]))
      exact own_retN X7 hx (t := .boolean) Bd.returns (by simp) (hb hby d4_41) hnl (by rw [e7]; exact ⟨(congrArg (fun z => some (Value.int z)) (Eq.symm (show (own_r4 w_x_o1_4 w_x_o0_4 w_y_o1_4 w_y_o0_4) = (1 : Int32) from by unfold own_r4; rw [if_pos hc21_5, if_pos hc33_8]))), N0, rfl⟩) (by decide) (by decide)
    · skip
      refine own_step (fun t k => XS.ifYes X7.here hx rfl (pc0 := 33) (pc' := 40) rfl (hb hby d4_33) rfl ((if0 _ _).trans (feq hc33_8).2) (by decide) (by decide) k) ?_
      show own_Ends p.tables e below s _ _ _ (T7.setTop (mkF m 40 #[.val (.ref o0_4), .val (.ref o1_4), .val (.ref o1_4)] []))
      refine own_step (fun t k => XS.iconst X7.here hx rfl (hb hby d4_40) k) ?_
      show own_Ends p.tables e below s _ _ _ (T7.setTop (mkF m 41 #[.val (.ref o0_4), .val (.ref o1_4), .val (.ref o1_4)] [(.int (0 : Int32))]))
      exact own_retN X7 hx (t := .boolean) Bd.returns (by simp) (hb hby d4_41) hnl (by rw [e7]; exact ⟨(congrArg (fun z => some (Value.int z)) (Eq.symm (show (own_r4 w_x_o1_4 w_x_o0_4 w_y_o1_4 w_y_o0_4) = (0 : Int32) from by unfold own_r4; rw [if_pos hc21_5, if_neg hc33_8]))), N0, rfl⟩) (by decide) (by decide)
  · skip
    refine own_step (fun t k => XS.ifYes X4.here hx rfl (pc0 := 21) (pc' := 40) rfl (hb hby d4_21) rfl ((if0 _ _).trans (feq hc21_5).2) (by decide) (by decide) k) ?_
    show own_Ends p.tables e below s _ _ _ (T4.setTop (mkF m 40 #[.val (.ref o0_4), .val (.ref o1_4), .val (.ref o1_4)] []))
    refine own_step (fun t k => XS.iconst X4.here hx rfl (hb hby d4_40) k) ?_
    show own_Ends p.tables e below s _ _ _ (T4.setTop (mkF m 41 #[.val (.ref o0_4), .val (.ref o1_4), .val (.ref o1_4)] [(.int (0 : Int32))]))
    exact own_retN X4 hx (t := .boolean) Bd.returns (by simp) (hb hby d4_41) hnl (by rw [e4]; exact ⟨(congrArg (fun z => some (Value.int z)) (Eq.symm (show (own_r4 w_x_o1_4 w_x_o0_4 w_y_o1_4 w_y_o0_4) = (0 : Int32) from by unfold own_r4; rw [if_neg hc21_5]))), N0, rfl⟩) (by decide) (by decide)
theorem ef_4n (m : MethodId) (o0_4n : Addr) : entryFrame m #[(.ref o0_4n), .null] 3 = mkF m 0 #[.val (.ref o0_4n), .val .null, .unset] [] := by first | (simp [entryFrame, mkF, argsToLocals, Value.category]; done) | rfl
def Q4n (Z : State) (o0_4n : Addr) (h0 : Heap) (n0 : Nat) (v : Option Value) (h : Heap) (L : List Loc) : Prop := v = some (.int (0 : Int32)) ∧ Fr n0 L ∧ h = h0
set_option maxRecDepth 65536 in
set_option maxHeartbeats 40000000 in
theorem rm4n (l : Launch) (Z : State) (a0 : Array Value) (hw : ∀ d ∈ tables_1, d.before a0 Z = true) (ws : List Jvm.Cond) (o0_4n : Addr) (h0 : Heap) (n0 : Nat) (O0 : Old Z n0 h0) :
    MetFree l (⟨"com/example/swanhall/swanhall/core/Cell", "equals", "(Ljava/lang/Object;)Z"⟩ : MethodName) (head1 (Jvm.Cond.code (⟨"com/example/swanhall/swanhall/core/Cell", "equals", "(Ljava/lang/Object;)Z"⟩ : MethodName) prog_29_method_5_code 3 (some .boolean) :: ws) ({ frames := 0, cells := 0, slots := 0, locals := 0 } : Room)) (fun a U => a = #[(.ref o0_4n), .null] ∧ Z.Warmed39 U.vm ∧ U.heap = h0) (fun _ _ _ _ _ => True) (fun _ U o U' => ∃ v L, o = .returned v ∧ Q4n Z o0_4n h0 n0 v U'.heap L ∧ FrameEnd U o U' L ({ frames := 0, cells := 0, slots := 0, locals := 0 } : Room).cells ({ frames := 0, cells := 0, slots := 0, locals := 0 } : Room).slots) := by
  refine MetFree.of_bodySF (plainFor_of_name pn_1) hisR ?_
  intro p e s m args below meth c s₁ Bd hml0 hP hK
  obtain ⟨rfl, hZ, hh⟩ := hP
  have hx := Bd.exec
  have hby := Bd.bytes
  have hnl := BodyLoose.notSynchronized Bd
  have hml : c.maxLocals = 3 := hml0
  have hown : s.vm.findClass "com/example/swanhall/swanhall/core/Cell" = some m.cls := findClass_of_methodNamed Bd.named
  have hnm := (name_of_methodNamed Bd.named Bd.method).1
  have X0 : Stand p l e ({ frames := 0, cells := 0, slots := 0, locals := 0 } : Room) s m #[(.ref o0_4n), .null] below meth c s₁ [] 0 0 := Stand.of_body Bd
  have e0 : s₁.heap = h0 := by rw [← hh, Bd.state]; rfl
  have N0 := Fr.nil n0
  show own_Ends p.tables e below s (Q4n Z o0_4n h0 n0) 0 0 (s₁.setTop (entryFrame m #[(.ref o0_4n), .null] 3))
  rw [ef_4n m o0_4n]
  show own_Ends p.tables e below s _ _ _ (s₁.setTop (mkF m 0 #[.val (.ref o0_4n), .val .null, .unset] []))
  refine own_step (fun t k => XS.aloadN X0.here hx rfl (hb hby d4_0) rfl rfl k) ?_
  show own_Ends p.tables e below s _ _ _ (s₁.setTop (mkF m 1 #[.val (.ref o0_4n), .val .null, .unset] [.null]))
  refine own_step (fun t k => X0.instanceofNull hx (g := (mkF m 1 #[.val (.ref o0_4n), .val .null, .unset] [.null])) rfl rfl (hb hby d4_1) _ k) ?_
  show own_Ends p.tables e below s _ _ _ (s₁.setTop (mkF m 4 #[.val (.ref o0_4n), .val .null, .unset] [(.int (0 : Int32))]))
  refine own_step (fun t k => XS.ifYes X0.here hx rfl (pc0 := 4) (pc' := 40) rfl (hb hby d4_4) rfl ((if0 _ _).trans (teq (by decide : (0 : Int32) = (0 : Int32))).1) (by decide) (by decide) k) ?_
  show own_Ends p.tables e below s _ _ _ (s₁.setTop (mkF m 40 #[.val (.ref o0_4n), .val .null, .unset] []))
  refine own_step (fun t k => XS.iconst X0.here hx rfl (hb hby d4_40) k) ?_
  show own_Ends p.tables e below s _ _ _ (s₁.setTop (mkF m 41 #[.val (.ref o0_4n), .val .null, .unset] [(.int (0 : Int32))]))
  exact own_retN X0 hx (t := .boolean) Bd.returns (by simp) (hb hby d4_41) hnl (by rw [e0]; exact ⟨rfl, N0, rfl⟩) (by decide) (by decide)
theorem ef_4l (m : MethodId) (o0_4l : Addr) (o1_4l : Addr) : entryFrame m #[(.ref o0_4l), (.ref o1_4l)] 3 = mkF m 0 #[.val (.ref o0_4l), .val (.ref o1_4l), .unset] [] := by first | (simp [entryFrame, mkF, argsToLocals, Value.category]; done) | rfl
def Q4l (Z : State) (o0_4l : Addr) (o1_4l : Addr) (h0 : Heap) (n0 : Nat) (v : Option Value) (h : Heap) (L : List Loc) : Prop := v = some (.int (0 : Int32)) ∧ Fr n0 L ∧ h = h0
set_option maxRecDepth 65536 in
set_option maxHeartbeats 40000000 in
theorem rm4l (l : Launch) (Z : State) (a0 : Array Value) (hw : ∀ d ∈ tables_1, d.before a0 Z = true) (ws : List Jvm.Cond) (o0_4l : Addr) (o1_4l : Addr) (h0 : Heap) (n0 : Nat) (O0 : Old Z n0 h0) (E_o1_4l : Exa Z h0 o1_4l "java/lang/Long") :
    MetFree l (⟨"com/example/swanhall/swanhall/core/Cell", "equals", "(Ljava/lang/Object;)Z"⟩ : MethodName) (head1 (Jvm.Cond.code (⟨"com/example/swanhall/swanhall/core/Cell", "equals", "(Ljava/lang/Object;)Z"⟩ : MethodName) prog_29_method_5_code 3 (some .boolean) :: ws) ({ frames := 0, cells := 0, slots := 0, locals := 0 } : Room)) (fun a U => a = #[(.ref o0_4l), (.ref o1_4l)] ∧ Z.Warmed39 U.vm ∧ U.heap = h0) (fun _ _ _ _ _ => True) (fun _ U o U' => ∃ v L, o = .returned v ∧ Q4l Z o0_4l o1_4l h0 n0 v U'.heap L ∧ FrameEnd U o U' L ({ frames := 0, cells := 0, slots := 0, locals := 0 } : Room).cells ({ frames := 0, cells := 0, slots := 0, locals := 0 } : Room).slots) := by
  refine MetFree.of_bodySF (plainFor_of_name pn_1) hisR ?_
  intro p e s m args below meth c s₁ Bd hml0 hP hK
  obtain ⟨rfl, hZ, hh⟩ := hP
  have hx := Bd.exec
  have hby := Bd.bytes
  have hnl := BodyLoose.notSynchronized Bd
  have hml : c.maxLocals = 3 := hml0
  have hown : s.vm.findClass "com/example/swanhall/swanhall/core/Cell" = some m.cls := findClass_of_methodNamed Bd.named
  have hnm := (name_of_methodNamed Bd.named Bd.method).1
  have X0 : Stand p l e ({ frames := 0, cells := 0, slots := 0, locals := 0 } : Room) s m #[(.ref o0_4l), (.ref o1_4l)] below meth c s₁ [] 0 0 := Stand.of_body Bd
  have e0 : s₁.heap = h0 := by rw [← hh, Bd.state]; rfl
  have N0 := Fr.nil n0
  show own_Ends p.tables e below s (Q4l Z o0_4l o1_4l h0 n0) 0 0 (s₁.setTop (entryFrame m #[(.ref o0_4l), (.ref o1_4l)] 3))
  rw [ef_4l m o0_4l o1_4l]
  show own_Ends p.tables e below s _ _ _ (s₁.setTop (mkF m 0 #[.val (.ref o0_4l), .val (.ref o1_4l), .unset] []))
  refine own_step (fun t k => XS.aloadN X0.here hx rfl (hb hby d4_0) rfl rfl k) ?_
  show own_Ends p.tables e below s _ _ _ (s₁.setTop (mkF m 1 #[.val (.ref o0_4l), .val (.ref o1_4l), .unset] [(.ref o1_4l)]))
  obtain ⟨T1, X1, e1, st1⟩ := instNo X0 hx hZ hown (hw _ (List.mem_of_getElem? (i := 23) rfl)) e0 E_o1_4l (own_NSno (hw _ (List.mem_of_getElem? (i := 76) rfl)) (hw _ (List.mem_of_getElem? (i := 1) rfl)) (NS.step (hw _ (List.mem_of_getElem? (i := 76) rfl)) (NS.step (hw _ (List.mem_of_getElem? (i := 77) rfl)) (own_NSroot (hw _ (List.mem_of_getElem? (i := 55) rfl)) (hw _ (List.mem_of_getElem? (i := 1) rfl)) (by decide)) (by decide)) (by decide)) (by decide)) (g := (mkF m 1 #[.val (.ref o0_4l), .val (.ref o1_4l), .unset] [(.ref o1_4l)])) rfl rfl (hb hby d4_1)
  refine own_step (fun t k => st1 _ k) ?_
  show own_Ends p.tables e below s _ _ _ (T1.setTop (mkF m 4 #[.val (.ref o0_4l), .val (.ref o1_4l), .unset] [(.int (0 : Int32))]))
  refine own_step (fun t k => XS.ifYes X1.here hx rfl (pc0 := 4) (pc' := 40) rfl (hb hby d4_4) rfl ((if0 _ _).trans (teq (by decide : (0 : Int32) = (0 : Int32))).1) (by decide) (by decide) k) ?_
  show own_Ends p.tables e below s _ _ _ (T1.setTop (mkF m 40 #[.val (.ref o0_4l), .val (.ref o1_4l), .unset] []))
  refine own_step (fun t k => XS.iconst X1.here hx rfl (hb hby d4_40) k) ?_
  show own_Ends p.tables e below s _ _ _ (T1.setTop (mkF m 41 #[.val (.ref o0_4l), .val (.ref o1_4l), .unset] [(.int (0 : Int32))]))
  exact own_retN X1 hx (t := .boolean) Bd.returns (by simp) (hb hby d4_41) hnl (by rw [e1]; exact ⟨rfl, N0, rfl⟩) (by decide) (by decide)
theorem ef_4s (m : MethodId) (o0_4s : Addr) (o1_4s : Addr) : entryFrame m #[(.ref o0_4s), (.ref o1_4s)] 3 = mkF m 0 #[.val (.ref o0_4s), .val (.ref o1_4s), .unset] [] := by first | (simp [entryFrame, mkF, argsToLocals, Value.category]; done) | rfl
def Q4s (Z : State) (o0_4s : Addr) (o1_4s : Addr) (h0 : Heap) (n0 : Nat) (v : Option Value) (h : Heap) (L : List Loc) : Prop := v = some (.int (0 : Int32)) ∧ Fr n0 L ∧ h = h0
set_option maxRecDepth 65536 in
set_option maxHeartbeats 40000000 in
theorem rm4s (l : Launch) (Z : State) (a0 : Array Value) (hw : ∀ d ∈ tables_1, d.before a0 Z = true) (ws : List Jvm.Cond) (o0_4s : Addr) (o1_4s : Addr) (h0 : Heap) (n0 : Nat) (O0 : Old Z n0 h0) (E_o1_4s : Exa Z h0 o1_4s "java/lang/String") :
    MetFree l (⟨"com/example/swanhall/swanhall/core/Cell", "equals", "(Ljava/lang/Object;)Z"⟩ : MethodName) (head1 (Jvm.Cond.code (⟨"com/example/swanhall/swanhall/core/Cell", "equals", "(Ljava/lang/Object;)Z"⟩ : MethodName) prog_29_method_5_code 3 (some .boolean) :: ws) ({ frames := 0, cells := 0, slots := 0, locals := 0 } : Room)) (fun a U => a = #[(.ref o0_4s), (.ref o1_4s)] ∧ Z.Warmed39 U.vm ∧ U.heap = h0) (fun _ _ _ _ _ => True) (fun _ U o U' => ∃ v L, o = .returned v ∧ Q4s Z o0_4s o1_4s h0 n0 v U'.heap L ∧ FrameEnd U o U' L ({ frames := 0, cells := 0, slots := 0, locals := 0 } : Room).cells ({ frames := 0, cells := 0, slots := 0, locals := 0 } : Room).slots) := by
  refine MetFree.of_bodySF (plainFor_of_name pn_1) hisR ?_
  intro p e s m args below meth c s₁ Bd hml0 hP hK
  obtain ⟨rfl, hZ, hh⟩ := hP
  have hx := Bd.exec
  have hby := Bd.bytes
  have hnl := BodyLoose.notSynchronized Bd
  have hml : c.maxLocals = 3 := hml0
  have hown : s.vm.findClass "com/example/swanhall/swanhall/core/Cell" = some m.cls := findClass_of_methodNamed Bd.named
  have hnm := (name_of_methodNamed Bd.named Bd.method).1
  have X0 : Stand p l e ({ frames := 0, cells := 0, slots := 0, locals := 0 } : Room) s m #[(.ref o0_4s), (.ref o1_4s)] below meth c s₁ [] 0 0 := Stand.of_body Bd
  have e0 : s₁.heap = h0 := by rw [← hh, Bd.state]; rfl
  have N0 := Fr.nil n0
  show own_Ends p.tables e below s (Q4s Z o0_4s o1_4s h0 n0) 0 0 (s₁.setTop (entryFrame m #[(.ref o0_4s), (.ref o1_4s)] 3))
  rw [ef_4s m o0_4s o1_4s]
  show own_Ends p.tables e below s _ _ _ (s₁.setTop (mkF m 0 #[.val (.ref o0_4s), .val (.ref o1_4s), .unset] []))
  refine own_step (fun t k => XS.aloadN X0.here hx rfl (hb hby d4_0) rfl rfl k) ?_
  show own_Ends p.tables e below s _ _ _ (s₁.setTop (mkF m 1 #[.val (.ref o0_4s), .val (.ref o1_4s), .unset] [(.ref o1_4s)]))
  obtain ⟨T1, X1, e1, st1⟩ := instNo X0 hx hZ hown (hw _ (List.mem_of_getElem? (i := 23) rfl)) e0 E_o1_4s (own_NSno (hw _ (List.mem_of_getElem? (i := 54) rfl)) (hw _ (List.mem_of_getElem? (i := 1) rfl)) (NS.step (hw _ (List.mem_of_getElem? (i := 54) rfl)) (own_NSroot (hw _ (List.mem_of_getElem? (i := 55) rfl)) (hw _ (List.mem_of_getElem? (i := 1) rfl)) (by decide)) (by decide)) (by decide)) (g := (mkF m 1 #[.val (.ref o0_4s), .val (.ref o1_4s), .unset] [(.ref o1_4s)])) rfl rfl (hb hby d4_1)
  refine own_step (fun t k => st1 _ k) ?_
  show own_Ends p.tables e below s _ _ _ (T1.setTop (mkF m 4 #[.val (.ref o0_4s), .val (.ref o1_4s), .unset] [(.int (0 : Int32))]))
  refine own_step (fun t k => XS.ifYes X1.here hx rfl (pc0 := 4) (pc' := 40) rfl (hb hby d4_4) rfl ((if0 _ _).trans (teq (by decide : (0 : Int32) = (0 : Int32))).1) (by decide) (by decide) k) ?_
  show own_Ends p.tables e below s _ _ _ (T1.setTop (mkF m 40 #[.val (.ref o0_4s), .val (.ref o1_4s), .unset] []))
  refine own_step (fun t k => XS.iconst X1.here hx rfl (hb hby d4_40) k) ?_
  show own_Ends p.tables e below s _ _ _ (T1.setTop (mkF m 41 #[.val (.ref o0_4s), .val (.ref o1_4s), .unset] [(.int (0 : Int32))]))
  exact own_retN X1 hx (t := .boolean) Bd.returns (by simp) (hb hby d4_41) hnl (by rw [e1]; exact ⟨rfl, N0, rfl⟩) (by decide) (by decide)
theorem own_lrange (x : Int64) (h1 : ¬ lcmpW x (-128) < 0) (h2 : ¬ 0 < lcmpW x 127) : ¬ (x.toInt32 + 128) < 0 ∧ (x.toInt32 + 128) < 256 := by
  rw [lcW] at h1 h2
  rw [lc_lt, Int64.lt_iff_toInt_lt] at h1
  rw [lc_gt, Int64.lt_iff_toInt_lt] at h2
  have e1 : (-128 : Int64).toInt = -128 := rfl
  have e2 : (127 : Int64).toInt = 127 := rfl
  have e3 : (128 : Int32).toInt = 128 := rfl
  have e4 : (256 : Int32).toInt = 256 := rfl
  have e5 : (0 : Int32).toInt = 0 := rfl
  have a := c_l2i x
  have b := c_iadd x.toInt32 128
  have l1 := x.toInt32.toInt_lt; have l2 := x.toInt32.le_toInt; have l3 := (x.toInt32 + 128).toInt_lt; have l4 := (x.toInt32 + 128).le_toInt
  rw [Int32.lt_iff_toInt_lt, Int32.lt_iff_toInt_lt]
  omega
theorem own_lat (y : Int64) : ∀ c ∈ [nar .char ((y &&& 255).toInt32.toUInt32.toUInt16.toUInt32.toInt32)], ¬ c < 0 ∧ ¬ (255 : Int32) < c := by
  intro c hc
  simp only [List.mem_cons, List.not_mem_nil, or_false] at hc
  subst hc
  show ¬ ((y &&& 255).toInt32.toUInt32.toUInt16.toUInt32.toInt32).toUInt32.toUInt16.toUInt32.toInt32 < 0 ∧ ¬ (255 : Int32) < ((y &&& 255).toInt32.toUInt32.toUInt16.toUInt32.toInt32).toUInt32.toUInt16.toUInt32.toInt32
  have a := c_maskL y 255 8 (by decide) (by decide)
  have b := c_l2i (y &&& 255)
  have d := c_i2c (y &&& 255).toInt32
  have f := c_i2c ((y &&& 255).toInt32.toUInt32.toUInt16.toUInt32.toInt32)
  have l1 := (y &&& 255).toInt32.toInt_lt; have l2 := (y &&& 255).toInt32.le_toInt
  have e5 : (0 : Int32).toInt = 0 := rfl
  have e6 : (255 : Int32).toInt = 255 := rfl
  rw [Int32.lt_iff_toInt_lt, Int32.lt_iff_toInt_lt]
  have p8 : ((2 ^ 8 : Nat) : Int) = 256 := rfl
  rw [p8] at a
  omega

theorem pd_1 : parseMethodDescriptor "(J)V" = some ⟨[.long], none⟩ := by decide +kernel
theorem d10_0 : decode jdk_35_method_24_code 0 = .ok (.sipush 128, 3) := by decide +kernel
theorem d10_3 : decode jdk_35_method_24_code 3 = .ok (.istore_n 2, 1) := by decide +kernel
theorem d10_4 : decode jdk_35_method_24_code 4 = .ok (.lload_n 0, 1) := by decide +kernel
theorem d10_5 : decode jdk_35_method_24_code 5 = .ok (.ldc2_w 230, 3) := by decide +kernel
theorem d10_8 : decode jdk_35_method_24_code 8 = .ok (.lcmp, 1) := by decide +kernel
theorem d10_9 : decode jdk_35_method_24_code 9 = .ok (.ifCond .lt 22, 3) := by decide +kernel
theorem d10_12 : decode jdk_35_method_24_code 12 = .ok (.lload_n 0, 1) := by decide +kernel
theorem d10_13 : decode jdk_35_method_24_code 13 = .ok (.ldc2_w 232, 3) := by decide +kernel
theorem d10_16 : decode jdk_35_method_24_code 16 = .ok (.lcmp, 1) := by decide +kernel
theorem d10_17 : decode jdk_35_method_24_code 17 = .ok (.ifCond .gt 14, 3) := by decide +kernel
theorem d10_20 : decode jdk_35_method_24_code 20 = .ok (.getstatic 234, 3) := by decide +kernel
theorem d10_23 : decode jdk_35_method_24_code 23 = .ok (.lload_n 0, 1) := by decide +kernel
theorem d10_24 : decode jdk_35_method_24_code 24 = .ok (.l2i, 1) := by decide +kernel
theorem d10_25 : decode jdk_35_method_24_code 25 = .ok (.sipush 128, 3) := by decide +kernel
theorem d10_28 : decode jdk_35_method_24_code 28 = .ok (.iadd, 1) := by decide +kernel
theorem d10_29 : decode jdk_35_method_24_code 29 = .ok (.aaload, 1) := by decide +kernel
theorem d10_30 : decode jdk_35_method_24_code 30 = .ok (.areturn, 1) := by decide +kernel
theorem d10_31 : decode jdk_35_method_24_code 31 = .ok (.new 1, 3) := by decide +kernel
theorem d10_34 : decode jdk_35_method_24_code 34 = .ok (.dup, 1) := by decide +kernel
theorem d10_35 : decode jdk_35_method_24_code 35 = .ok (.lload_n 0, 1) := by decide +kernel
theorem d10_36 : decode jdk_35_method_24_code 36 = .ok (.invokespecial 240, 3) := by decide +kernel
theorem d10_39 : decode jdk_35_method_24_code 39 = .ok (.areturn, 1) := by decide +kernel
theorem ef_10 (m : MethodId) (y0_10 : Int64) : entryFrame m #[(.long y0_10)] 3 = mkF m 0 #[.val (.long y0_10), .second, .unset] [] := by first | (simp [entryFrame, mkF, argsToLocals, Value.category]; done) | rfl
def Q10 (Z : State) (w_cache : Addr) (clC : Cell) (y0_10 : Int64) (h0 : Heap) (n0 : Nat) (v : Option Value) (h : Heap) (L : List Loc) : Prop := ∃ (rL : Addr), v = some (.ref rL) ∧ Fr n0 L ∧ Keep h0 h [] ∧ Exa Z h rL "java/lang/Long"
set_option maxRecDepth 65536 in
set_option maxHeartbeats 40000000 in
theorem rm10 (l : Launch) (Z : State) (a0 : Array Value) (hw : ∀ d ∈ tables_1, d.before a0 Z = true) (ws : List Jvm.Cond) (w_cache : Addr) (clC : Cell) (y0_10 : Int64) (h0 : Heap) (n0 : Nat) (O0 : Old Z n0 h0) (BXA : Arr Z Z.heap w_cache clC (.object "java/lang/Long")) (BXS : clC.slots.size = (256 : Int32).toNatClampNeg) (BXB : ∀ j : Int32, ¬ (j < 0 ∨ clC.slots.size ≤ j.toNatClampNeg) → ∃ b : Addr, clC.slots[j.toNatClampNeg]? = some (.ref b) ∧ Exa Z Z.heap b "java/lang/Long") (S_cache : Sta Z Z.heap "java/lang/Long$LongCache" "cache" "[Ljava/lang/Long;" (.ref w_cache)) :
    MetFree l (⟨"java/lang/Long", "valueOf", "(J)Ljava/lang/Long;"⟩ : MethodName) (head1 (Jvm.Cond.code (⟨"java/lang/Long", "valueOf", "(J)Ljava/lang/Long;"⟩ : MethodName) jdk_35_method_24_code 3 (some (.object "java/lang/Long")) :: ws) ({ frames := 3, cells := 1, slots := 1, locals := 39 } : Room)) (fun a U => a = #[(.long y0_10)] ∧ Z.Warmed39 U.vm ∧ U.heap = h0) (fun _ _ _ _ _ => True) (fun _ U o U' => ∃ v L, o = .returned v ∧ Q10 Z w_cache clC y0_10 h0 n0 v U'.heap L ∧ FrameEnd U o U' L ({ frames := 3, cells := 1, slots := 1, locals := 39 } : Room).cells ({ frames := 3, cells := 1, slots := 1, locals := 39 } : Room).slots) := by
  refine MetFree.of_bodySF (plainFor_of_name pn_3) hisR ?_
  intro p e s m args below meth c s₁ Bd hml0 hP hK
  obtain ⟨rfl, hZ, hh⟩ := hP
  have hx := Bd.exec
  have hby := Bd.bytes
  have hnl := BodyLoose.notSynchronized Bd
  have hml : c.maxLocals = 3 := hml0
  have hown : s.vm.findClass "java/lang/Long" = some m.cls := findClass_of_methodNamed Bd.named
  have hnm := (name_of_methodNamed Bd.named Bd.method).1
  have X0 : Stand p l e ({ frames := 3, cells := 1, slots := 1, locals := 39 } : Room) s m #[(.long y0_10)] below meth c s₁ [] 0 0 := Stand.of_body Bd
  have e0 : s₁.heap = h0 := by rw [← hh, Bd.state]; rfl
  have N0 := Fr.nil n0
  show own_Ends p.tables e below s (Q10 Z w_cache clC y0_10 h0 n0) 1 1 (s₁.setTop (entryFrame m #[(.long y0_10)] 3))
  rw [ef_10 m y0_10]
  show own_Ends p.tables e below s _ _ _ (s₁.setTop (mkF m 0 #[.val (.long y0_10), .second, .unset] []))
  refine own_step (fun t k => XS.sipush X0.here hx rfl (hb hby d10_0) k) ?_
  show own_Ends p.tables e below s _ _ _ (s₁.setTop (mkF m 3 #[.val (.long y0_10), .second, .unset] [(.int (128 : Int32))]))
  refine own_step (fun t k => XS.istoreN X0.here hx rfl (hb hby d10_3) rfl (l' := #[.val (.long y0_10), .second, .val (.int (128 : Int32))]) rfl k) ?_
  show own_Ends p.tables e below s _ _ _ (s₁.setTop (mkF m 4 #[.val (.long y0_10), .second, .val (.int (128 : Int32))] []))
  refine own_step (fun t k => XS.lloadN X0.here hx rfl (hb hby d10_4) rfl k) ?_
  show own_Ends p.tables e below s _ _ _ (s₁.setTop (mkF m 5 #[.val (.long y0_10), .second, .val (.int (128 : Int32))] [(.long y0_10)]))
  refine own_step (fun t k => X0.ldc2Long hx hown (mvT hZ (hw _ (List.mem_of_getElem? (i := 60) rfl))) (g := (mkF m 5 #[.val (.long y0_10), .second, .val (.int (128 : Int32))] [(.long y0_10)])) rfl (hb hby d10_5) _ k) ?_
  show own_Ends p.tables e below s _ _ _ (s₁.setTop (mkF m 8 #[.val (.long y0_10), .second, .val (.int (128 : Int32))] [(.long (-128 : Int64)), (.long y0_10)]))
  refine own_step (fun t k => XS.lcmp X0.here hx rfl (hb hby d10_8) rfl k) ?_
  show own_Ends p.tables e below s _ _ _ (s₁.setTop (mkF m 9 #[.val (.long y0_10), .second, .val (.int (128 : Int32))] [(.int (lcmpW y0_10 (-128 : Int64)))]))
  by_cases hc9_1 : (lcmpW y0_10 (-128 : Int64)) < (0 : Int32)
  · skip
    refine own_step (fun t k => XS.ifYes X0.here hx rfl (pc0 := 9) (pc' := 31) rfl (hb hby d10_9) rfl ((if0 _ _).trans (tlt hc9_1).1) (by decide) (by decide) k) ?_
    show own_Ends p.tables e below s _ _ _ (s₁.setTop (mkF m 31 #[.val (.long y0_10), .second, .val (.int (128 : Int32))] []))
    obtain ⟨T2, h2, X2, e2, E2, A2, D2, -, st2⟩ := newO X0 hx hZ hown (hw _ (List.mem_of_getElem? (i := 61) rfl)) (hw _ (List.mem_of_getElem? (i := 62) rfl)) (hw _ (List.mem_of_getElem? (i := 58) rfl)) e0 (g := (mkF m 31 #[.val (.long y0_10), .second, .val (.int (128 : Int32))] [])) rfl (hb hby d10_31) (by decide) (by decide)
    obtain ⟨b2, g2⟩ : ∃ z, z = h0.size := ⟨_, rfl⟩
    rw [← g2] at A2 D2 st2
    have g_b2 : n0 ≤ b2 := Nat.le_trans (Nat.le_trans (Nat.le_of_eq O0.1.symm) O0.2.1) (Nat.le_of_eq g2.symm)
    have sz_b2 : h0.size ≤ b2 := Nat.le_trans (Keep.refl h0 []).1 (Nat.le_of_eq g2.symm)
    have F2_value : Fld Z h2 b2 "java/lang/Long" "value" "J" (.long (0 : Int64)) := D2 (Or.inr (hw _ (List.mem_of_getElem? (i := 75) rfl))) (ty := .long) (by decide)
    refine own_step (fun t k => st2 _ k) ?_
    have K3 : Keep h0 h2 [] := (Keep.refl h0 []).ext E2
    show own_Ends p.tables e below s _ _ _ (T2.setTop (mkF m 34 #[.val (.long y0_10), .second, .val (.int (128 : Int32))] [(.ref b2)]))
    refine own_step (fun t k => XS.dup X2.here hx rfl (hb hby d10_34) rfl rfl k) ?_
    show own_Ends p.tables e below s _ _ _ (T2.setTop (mkF m 35 #[.val (.long y0_10), .second, .val (.int (128 : Int32))] [(.ref b2), (.ref b2)]))
    refine own_step (fun t k => XS.lloadN X2.here hx rfl (hb hby d10_35) rfl k) ?_
    show own_Ends p.tables e below s _ _ _ (T2.setTop (mkF m 36 #[.val (.long y0_10), .second, .val (.int (128 : Int32))] [(.long y0_10), (.ref b2), (.ref b2)]))
    have O4 : Old Z n0 h2 := (O0.ext E2)
    obtain ⟨_, _, ⟨T5, L5, k5, n5⟩, -, X5, ⟨Lc5, hQ5, l5, y5, z5⟩, st5⟩ := X2.specialBack hx (y := (⟨"java/lang/Long", "<init>", "(J)V"⟩ : MethodName)) rfl hown (mvT hZ (hw _ (List.mem_of_getElem? (i := 63) rfl))) (mvT hZ (hw _ (List.mem_of_getElem? (i := 64) rfl))) (mvT hZ (hw _ (List.mem_of_getElem? (i := 66) rfl))) (by decide) (backOf (W := 1) (rm11 l Z a0 hw [] b2 y0_10 (.long (0 : Int64)) h2 n0 O4 A2 F2_value g_b2) hZ (hw _ (List.mem_of_getElem? (i := 66) rfl)) (hw _ (List.mem_of_getElem? (i := 58) rfl)) (by decide) (by decide)) (g := (mkF m 36 #[.val (.long y0_10), .second, .val (.int (128 : Int32))] [(.long y0_10), (.ref b2), (.ref b2)])) rfl (by rw [hml]; rfl) (Steps.refl _) (a := b2) (argsL := [(.long y0_10)]) (rest := [(.ref b2)]) (lenOf pd_1 rfl) rfl (by show 2 * 0 + _ ≤ _; exact Nat.le_of_eq rfl) (hb hby d10_36) (fun _ _ => ⟨rfl, e2, (by decide : 1 + 0 ≤ _), (by decide : 1 + 0 ≤ _)⟩)
    dsimp only [Pt.U, Pt.locs, Pt.cells, Pt.slots] at X5 l5 y5 z5 st5 hQ5
    subst y5 z5
    obtain ⟨rfl, N5q, K5q, p5_0, p5_1⟩ := hQ5
    refine own_step (fun t k => st5.trans k) ?_
    have N6 : Fr n0 L5 := by rw [l5]; exact Fr.app N0 N5q
    have K7 : Keep h0 T5.heap [] := K3.trans K5q (allS (Or.inr sz_b2) all0)
    show own_Ends p.tables e below s _ _ _ (T5.setTop (mkF m 39 #[.val (.long y0_10), .second, .val (.int (128 : Int32))] [(.ref b2)]))
    exact own_retR X5 hx Bd.returns rfl rfl rfl (hb hby d10_39) hnl ⟨b2, rfl, N6, K7, p5_0⟩ (by decide) (by decide)
  · skip
    refine own_step (fun t k => XS.ifNo X0.here hx rfl (hb hby d10_9) rfl ((if0 _ _).trans (flt hc9_1).1) k) ?_
    show own_Ends p.tables e below s _ _ _ (s₁.setTop (mkF m 12 #[.val (.long y0_10), .second, .val (.int (128 : Int32))] []))
    refine own_step (fun t k => XS.lloadN X0.here hx rfl (hb hby d10_12) rfl k) ?_
    show own_Ends p.tables e below s _ _ _ (s₁.setTop (mkF m 13 #[.val (.long y0_10), .second, .val (.int (128 : Int32))] [(.long y0_10)]))
    refine own_step (fun t k => X0.ldc2Long hx hown (mvT hZ (hw _ (List.mem_of_getElem? (i := 78) rfl))) (g := (mkF m 13 #[.val (.long y0_10), .second, .val (.int (128 : Int32))] [(.long y0_10)])) rfl (hb hby d10_13) _ k) ?_
    show own_Ends p.tables e below s _ _ _ (s₁.setTop (mkF m 16 #[.val (.long y0_10), .second, .val (.int (128 : Int32))] [(.long (127 : Int64)), (.long y0_10)]))
    refine own_step (fun t k => XS.lcmp X0.here hx rfl (hb hby d10_16) rfl k) ?_
    show own_Ends p.tables e below s _ _ _ (s₁.setTop (mkF m 17 #[.val (.long y0_10), .second, .val (.int (128 : Int32))] [(.int (lcmpW y0_10 (127 : Int64)))]))
    by_cases hc17_8 : (0 : Int32) < (lcmpW y0_10 (127 : Int64))
    · skip
      refine own_step (fun t k => XS.ifYes X0.here hx rfl (pc0 := 17) (pc' := 31) rfl (hb hby d10_17) rfl ((if0 _ _).trans (tlt hc17_8).2.2.1) (by decide) (by decide) k) ?_
      show own_Ends p.tables e below s _ _ _ (s₁.setTop (mkF m 31 #[.val (.long y0_10), .second, .val (.int (128 : Int32))] []))
      obtain ⟨T9, h9, X9, e9, E9, A9, D9, -, st9⟩ := newO X0 hx hZ hown (hw _ (List.mem_of_getElem? (i := 61) rfl)) (hw _ (List.mem_of_getElem? (i := 62) rfl)) (hw _ (List.mem_of_getElem? (i := 58) rfl)) e0 (g := (mkF m 31 #[.val (.long y0_10), .second, .val (.int (128 : Int32))] [])) rfl (hb hby d10_31) (by decide) (by decide)
      obtain ⟨b9, g9⟩ : ∃ z, z = h0.size := ⟨_, rfl⟩
      rw [← g9] at A9 D9 st9
      have g_b9 : n0 ≤ b9 := Nat.le_trans (Nat.le_trans (Nat.le_of_eq O0.1.symm) O0.2.1) (Nat.le_of_eq g9.symm)
      have sz_b9 : h0.size ≤ b9 := Nat.le_trans (Keep.refl h0 []).1 (Nat.le_of_eq g9.symm)
      have F9_value : Fld Z h9 b9 "java/lang/Long" "value" "J" (.long (0 : Int64)) := D9 (Or.inr (hw _ (List.mem_of_getElem? (i := 75) rfl))) (ty := .long) (by decide)
      refine own_step (fun t k => st9 _ k) ?_
      have K10 : Keep h0 h9 [] := (Keep.refl h0 []).ext E9
      show own_Ends p.tables e below s _ _ _ (T9.setTop (mkF m 34 #[.val (.long y0_10), .second, .val (.int (128 : Int32))] [(.ref b9)]))
      refine own_step (fun t k => XS.dup X9.here hx rfl (hb hby d10_34) rfl rfl k) ?_
      show own_Ends p.tables e below s _ _ _ (T9.setTop (mkF m 35 #[.val (.long y0_10), .second, .val (.int (128 : Int32))] [(.ref b9), (.ref b9)]))
      refine own_step (fun t k => XS.lloadN X9.here hx rfl (hb hby d10_35) rfl k) ?_
      show own_Ends p.tables e below s _ _ _ (T9.setTop (mkF m 36 #[.val (.long y0_10), .second, .val (.int (128 : Int32))] [(.long y0_10), (.ref b9), (.ref b9)]))
      have O11 : Old Z n0 h9 := (O0.ext E9)
      obtain ⟨_, _, ⟨T12, L12, k12, n12⟩, -, X12, ⟨Lc12, hQ12, l12, y12, z12⟩, st12⟩ := X9.specialBack hx (y := (⟨"java/lang/Long", "<init>", "(J)V"⟩ : MethodName)) rfl hown (mvT hZ (hw _ (List.mem_of_getElem? (i := 63) rfl))) (mvT hZ (hw _ (List.mem_of_getElem? (i := 64) rfl))) (mvT hZ (hw _ (List.mem_of_getElem? (i := 66) rfl))) (by decide) (backOf (W := 1) (rm11 l Z a0 hw [] b9 y0_10 (.long (0 : Int64)) h9 n0 O11 A9 F9_value g_b9) hZ (hw _ (List.mem_of_getElem? (i := 66) rfl)) (hw _ (List.mem_of_getElem? (i := 58) rfl)) (by decide) (by decide)) (g := (mkF m 36 #[.val (.long y0_10), .second, .val (.int (128 : Int32))] [(.long y0_10), (.ref b9), (.ref b9)])) rfl (by rw [hml]; rfl) (Steps.refl _) (a := b9) (argsL := [(.long y0_10)]) (rest := [(.ref b9)]) (lenOf pd_1 rfl) rfl (by show 2 * 0 + _ ≤ _; exact Nat.le_of_eq rfl) (hb hby d10_36) (fun _ _ => ⟨rfl, e9, (by decide : 1 + 0 ≤ _), (by decide : 1 + 0 ≤ _)⟩)
      dsimp only [Pt.U, Pt.locs, Pt.cells, Pt.slots] at X12 l12 y12 z12 st12 hQ12
      subst y12 z12
      obtain ⟨rfl, N12q, K12q, p12_0, p12_1⟩ := hQ12
      refine own_step (fun t k => st12.trans k) ?_
      have N13 : Fr n0 L12 := by rw [l12]; exact Fr.app N0 N12q
      have K14 : Keep h0 T12.heap [] := K10.trans K12q (allS (Or.inr sz_b9) all0)
      show own_Ends p.tables e below s _ _ _ (T12.setTop (mkF m 39 #[.val (.long y0_10), .second, .val (.int (128 : Int32))] [(.ref b9)]))
      exact own_retR X12 hx Bd.returns rfl rfl rfl (hb hby d10_39) hnl ⟨b9, rfl, N13, K14, p12_0⟩ (by decide) (by decide)
    · skip
      refine own_step (fun t k => XS.ifNo X0.here hx rfl (hb hby d10_17) rfl ((if0 _ _).trans (flt hc17_8).2.2.1) k) ?_
      show own_Ends p.tables e below s _ _ _ (s₁.setTop (mkF m 20 #[.val (.long y0_10), .second, .val (.int (128 : Int32))] []))
      obtain ⟨T15, X15, e15, st15⟩ := getS2 X0 hx hZ hown (host := "") (Or.inl (hw _ (List.mem_of_getElem? (i := 79) rfl))) Via.refl e0 (S_cache.ext O0.2) (g := (mkF m 20 #[.val (.long y0_10), .second, .val (.int (128 : Int32))] [])) rfl (hb hby d10_20)
      refine own_step (fun t k => st15 _ k) ?_
      show own_Ends p.tables e below s _ _ _ (T15.setTop (mkF m 23 #[.val (.long y0_10), .second, .val (.int (128 : Int32))] [(.ref w_cache)]))
      refine own_step (fun t k => XS.lloadN X15.here hx rfl (hb hby d10_23) rfl k) ?_
      show own_Ends p.tables e below s _ _ _ (T15.setTop (mkF m 24 #[.val (.long y0_10), .second, .val (.int (128 : Int32))] [(.long y0_10), (.ref w_cache)]))
      refine own_step (fun t k => XS.l2i X15.here hx rfl (hb hby d10_24) rfl k) ?_
      show own_Ends p.tables e below s _ _ _ (T15.setTop (mkF m 25 #[.val (.long y0_10), .second, .val (.int (128 : Int32))] [(.int (y0_10.toInt32)), (.ref w_cache)]))
      refine own_step (fun t k => XS.sipush X15.here hx rfl (hb hby d10_25) k) ?_
      show own_Ends p.tables e below s _ _ _ (T15.setTop (mkF m 28 #[.val (.long y0_10), .second, .val (.int (128 : Int32))] [(.int (128 : Int32)), (.int (y0_10.toInt32)), (.ref w_cache)]))
      refine own_step (fun t k => XS.iadd X15.here hx rfl (hb hby d10_28) rfl k) ?_
      show own_Ends p.tables e below s _ _ _ (T15.setTop (mkF m 29 #[.val (.long y0_10), .second, .val (.int (128 : Int32))] [(.int ((y0_10.toInt32) + (128 : Int32))), (.ref w_cache)]))
      have hin16 : ¬ (((y0_10.toInt32) + (128 : Int32)) < 0 ∨ clC.slots.size ≤ (((y0_10.toInt32) + (128 : Int32))).toNatClampNeg) := inb_of BXS (own_lrange _ hc9_1 hc17_8)
      obtain ⟨bx16, hat16, EB16⟩ := BXB _ hin16
      refine own_step (fun t k => X15.aaload hx (j := ((y0_10.toInt32) + (128 : Int32))) (v := (.ref bx16)) (by rw [e15]; exact (BXA.ext O0.2).1) (State.isArrayOf_alike hZ.alike BXA.2.1) rfl BXA.2.2 hin16 hat16 (g := (mkF m 29 #[.val (.long y0_10), .second, .val (.int (128 : Int32))] [(.int ((y0_10.toInt32) + (128 : Int32))), (.ref w_cache)])) rfl rfl (hb hby d10_29) _ k) ?_
      show own_Ends p.tables e below s _ _ _ (T15.setTop (mkF m 30 #[.val (.long y0_10), .second, .val (.int (128 : Int32))] [(.ref bx16)]))
      exact own_retR X15 hx Bd.returns rfl rfl rfl (hb hby d10_30) hnl (by rw [e15]; exact ⟨bx16, rfl, N0, (Keep.refl h0 []), (EB16.ext O0.2)⟩) (by decide) (by decide)
theorem own_lc (a b : Int64) : lcmpW a b = 0 ↔ a = b := by rw [lcW]; exact lc_eq a b
theorem own_eq4 (a b c d : Int64) : own_r4 a b c d = if a = b ∧ c = d then 1 else 0 := by
  unfold own_r4
  simp only [own_lc]
  by_cases e1 : a = b <;> by_cases e2 : c = d <;> simp [e1, e2]

theorem pd_2 : parseMethodDescriptor "(JJ)V" = some ⟨[.long, .long], none⟩ := by decide +kernel
theorem pd_3 : parseMethodDescriptor "(Ljava/lang/Object;)Z" = some ⟨[(.object "java/lang/Object")], some .boolean⟩ := by decide +kernel
theorem pd_4 : parseMethodDescriptor "(J)Ljava/lang/Long;" = some ⟨[.long], some (.object "java/lang/Long")⟩ := by decide +kernel
theorem pd_5 : parseMethodDescriptor "([C)V" = some ⟨[(.array .char)], none⟩ := by decide +kernel
theorem pn_4 : plainName "com/example/swanhall/swanhall/core/CellEqualsPinLaw" = true := by first | (simp [plainName, overriddenIn]; done) | decide +kernel
theorem ef_0 (m : MethodId) (y0_0 : Int64) (y1_0 : Int64) (y2_0 : Int64) (y3_0 : Int64) (x4_0 : Int32) : entryFrame m #[(.long y0_0), (.long y1_0), (.long y2_0), (.long y3_0), (.int x4_0)] maxLocals = mkF m 0 #[.val (.long y0_0), .second, .val (.long y1_0), .second, .val (.long y2_0), .second, .val (.long y3_0), .second, .val (.int x4_0), .unset, .unset, .unset, .unset, .unset, .unset, .unset, .unset] [] := by first | (simp [entryFrame, mkF, argsToLocals, Value.category, maxLocals]; done) | rfl
def Q0 (Z : State) (w_COMPACT_STRINGS : Int32) (w_cache : Addr) (clC : Cell) (y0_0 : Int64) (y1_0 : Int64) (y2_0 : Int64) (y3_0 : Int64) (x4_0 : Int32) (h0 : Heap) (n0 : Nat) (v : Option Value) (h : Heap) (L : List Loc) : Prop := v = some (.int 1) ∧ Fr n0 L
set_option maxRecDepth 65536 in
set_option maxHeartbeats 40000000 in
theorem rm0 (l : Launch) (Z : State) (a0 : Array Value) (hw : ∀ d ∈ tables_1, d.before a0 Z = true) (ws : List Jvm.Cond) (w_COMPACT_STRINGS : Int32) (w_cache : Addr) (clC : Cell) (y0_0 : Int64) (y1_0 : Int64) (y2_0 : Int64) (y3_0 : Int64) (x4_0 : Int32) (h0 : Heap) (n0 : Nat) (O0 : Old Z n0 h0) (S_COMPACT_STRINGS : Sta Z Z.heap "java/lang/String" "COMPACT_STRINGS" "Z" (.int w_COMPACT_STRINGS)) (BXA : Arr Z Z.heap w_cache clC (.object "java/lang/Long")) (BXS : clC.slots.size = (256 : Int32).toNatClampNeg) (BXB : ∀ j : Int32, ¬ (j < 0 ∨ clC.slots.size ≤ j.toNatClampNeg) → ∃ b : Addr, clC.slots[j.toNatClampNeg]? = some (.ref b) ∧ Exa Z Z.heap b "java/lang/Long") (hcs : ¬ (w_COMPACT_STRINGS = (0 : Int32))) (S_cache : Sta Z Z.heap "java/lang/Long$LongCache" "cache" "[Ljava/lang/Long;" (.ref w_cache)) :
    MetFree l x (head1 (Jvm.Cond.code x code maxLocals ret :: ws) room_1) (fun a U => a = #[(.long y0_0), (.long y1_0), (.long y2_0), (.long y3_0), (.int x4_0)] ∧ Z.Warmed39 U.vm ∧ U.heap = h0) (fun _ _ _ _ _ => True) (fun _ U o U' => ∃ v L, o = .returned v ∧ Q0 Z w_COMPACT_STRINGS w_cache clC y0_0 y1_0 y2_0 y3_0 x4_0 h0 n0 v U'.heap L ∧ FrameEnd U o U' L 4 8) := by
  refine MetFree.of_bodySF (plainFor_of_name pn_4) hisR ?_
  intro p e s m args below meth c s₁ Bd hml0 hP hK
  obtain ⟨rfl, hZ, hh⟩ := hP
  have hx := Bd.exec
  have hby := Bd.bytes
  have hnl := BodyLoose.notSynchronized Bd
  have hml : c.maxLocals = 17 := hml0
  have hown : s.vm.findClass "com/example/swanhall/swanhall/core/CellEqualsPinLaw" = some m.cls := findClass_of_methodNamed Bd.named
  have hnm := (name_of_methodNamed Bd.named Bd.method).1
  have X0 : Stand p l e room_1 s m #[(.long y0_0), (.long y1_0), (.long y2_0), (.long y3_0), (.int x4_0)] below meth c s₁ [] 0 0 := Stand.of_body Bd
  have e0 : s₁.heap = h0 := by rw [← hh, Bd.state]; rfl
  have N0 := Fr.nil n0
  show own_Ends p.tables e below s (Q0 Z w_COMPACT_STRINGS w_cache clC y0_0 y1_0 y2_0 y3_0 x4_0 h0 n0) 4 8 (s₁.setTop (entryFrame m #[(.long y0_0), (.long y1_0), (.long y2_0), (.long y3_0), (.int x4_0)] maxLocals))
  rw [ef_0 m y0_0 y1_0 y2_0 y3_0 x4_0]
  show own_Ends p.tables e below s _ _ _ (s₁.setTop (mkF m 0 #[.val (.long y0_0), .second, .val (.long y1_0), .second, .val (.long y2_0), .second, .val (.long y3_0), .second, .val (.int x4_0), .unset, .unset, .unset, .unset, .unset, .unset, .unset, .unset] []))
  obtain ⟨T1, h1, X1, e1, E1, A1, D1, -, st1⟩ := newO X0 hx hZ hown (hw _ (List.mem_of_getElem? (i := 0) rfl)) (hw _ (List.mem_of_getElem? (i := 1) rfl)) (hw _ (List.mem_of_getElem? (i := 2) rfl)) e0 (g := (mkF m 0 #[.val (.long y0_0), .second, .val (.long y1_0), .second, .val (.long y2_0), .second, .val (.long y3_0), .second, .val (.int x4_0), .unset, .unset, .unset, .unset, .unset, .unset, .unset, .unset] [])) rfl (hb hby at_0) (by decide) (by decide)
  obtain ⟨b1, g1⟩ : ∃ z, z = h0.size := ⟨_, rfl⟩
  rw [← g1] at A1 D1 st1
  have g_b1 : n0 ≤ b1 := Nat.le_trans (Nat.le_trans (Nat.le_of_eq O0.1.symm) O0.2.1) (Nat.le_of_eq g1.symm)
  have sz_b1 : h0.size ≤ b1 := Nat.le_trans (Keep.refl h0 []).1 (Nat.le_of_eq g1.symm)
  have F1_x : Fld Z h1 b1 "com/example/swanhall/swanhall/core/Cell" "x" "J" (.long (0 : Int64)) := D1 (Or.inr (hw _ (List.mem_of_getElem? (i := 15) rfl))) (ty := .long) (by decide)
  have F1_y : Fld Z h1 b1 "com/example/swanhall/swanhall/core/Cell" "y" "J" (.long (0 : Int64)) := D1 (Or.inr (hw _ (List.mem_of_getElem? (i := 17) rfl))) (ty := .long) (by decide)
  refine own_step (fun t k => st1 _ k) ?_
  have K2 : Keep h0 h1 [] := (Keep.refl h0 []).ext E1
  show own_Ends p.tables e below s _ _ _ (T1.setTop (mkF m 3 #[.val (.long y0_0), .second, .val (.long y1_0), .second, .val (.long y2_0), .second, .val (.long y3_0), .second, .val (.int x4_0), .unset, .unset, .unset, .unset, .unset, .unset, .unset, .unset] [(.ref b1)]))
  refine own_step (fun t k => XS.dup X1.here hx rfl (hb hby at_3) rfl rfl k) ?_
  show own_Ends p.tables e below s _ _ _ (T1.setTop (mkF m 4 #[.val (.long y0_0), .second, .val (.long y1_0), .second, .val (.long y2_0), .second, .val (.long y3_0), .second, .val (.int x4_0), .unset, .unset, .unset, .unset, .unset, .unset, .unset, .unset] [(.ref b1), (.ref b1)]))
  refine own_step (fun t k => XS.lloadN X1.here hx rfl (hb hby at_4) rfl k) ?_
  show own_Ends p.tables e below s _ _ _ (T1.setTop (mkF m 5 #[.val (.long y0_0), .second, .val (.long y1_0), .second, .val (.long y2_0), .second, .val (.long y3_0), .second, .val (.int x4_0), .unset, .unset, .unset, .unset, .unset, .unset, .unset, .unset] [(.long y0_0), (.ref b1), (.ref b1)]))
  refine own_step (fun t k => XS.lloadN X1.here hx rfl (hb hby at_5) rfl k) ?_
  show own_Ends p.tables e below s _ _ _ (T1.setTop (mkF m 6 #[.val (.long y0_0), .second, .val (.long y1_0), .second, .val (.long y2_0), .second, .val (.long y3_0), .second, .val (.int x4_0), .unset, .unset, .unset, .unset, .unset, .unset, .unset, .unset] [(.long y1_0), (.long y0_0), (.ref b1), (.ref b1)]))
  have O3 : Old Z n0 h1 := (O0.ext E1)
  obtain ⟨_, _, ⟨T4, L4, k4, n4⟩, -, X4, ⟨Lc4, hQ4, l4, y4, z4⟩, st4⟩ := X1.specialBack hx (y := (⟨"com/example/swanhall/swanhall/core/Cell", "<init>", "(JJ)V"⟩ : MethodName)) rfl hown (mvT hZ (hw _ (List.mem_of_getElem? (i := 3) rfl))) (mvT hZ (hw _ (List.mem_of_getElem? (i := 4) rfl))) (mvT hZ (hw _ (List.mem_of_getElem? (i := 5) rfl))) (by decide) (backOf (W := 1) (rm1 l Z a0 hw [] b1 y0_0 y1_0 (.long (0 : Int64)) (.long (0 : Int64)) h1 n0 O3 A1 F1_x g_b1 F1_y) hZ (hw _ (List.mem_of_getElem? (i := 5) rfl)) (hw _ (List.mem_of_getElem? (i := 2) rfl)) (by decide) (by decide)) (g := (mkF m 6 #[.val (.long y0_0), .second, .val (.long y1_0), .second, .val (.long y2_0), .second, .val (.long y3_0), .second, .val (.int x4_0), .unset, .unset, .unset, .unset, .unset, .unset, .unset, .unset] [(.long y1_0), (.long y0_0), (.ref b1), (.ref b1)])) rfl (by rw [hml]; rfl) (Steps.refl _) (a := b1) (argsL := [(.long y0_0), (.long y1_0)]) (rest := [(.ref b1)]) (lenOf pd_2 rfl) rfl (by show 2 * 0 + _ ≤ _; exact Nat.le_of_eq rfl) (hb hby at_6) (fun _ _ => ⟨rfl, e1, (by decide : 1 + 0 ≤ _), (by decide : 2 + 0 ≤ _)⟩)
  dsimp only [Pt.U, Pt.locs, Pt.cells, Pt.slots] at X4 l4 y4 z4 st4 hQ4
  subst y4 z4
  obtain ⟨rfl, N4q, K4q, p4_0, p4_1, p4_2⟩ := hQ4
  refine own_step (fun t k => st4.trans k) ?_
  have N5 : Fr n0 L4 := by rw [l4]; exact Fr.app N0 N4q
  have K6 : Keep h0 T4.heap [] := K2.trans K4q (allS (Or.inr sz_b1) all0)
  show own_Ends p.tables e below s _ _ _ (T4.setTop (mkF m 9 #[.val (.long y0_0), .second, .val (.long y1_0), .second, .val (.long y2_0), .second, .val (.long y3_0), .second, .val (.int x4_0), .unset, .unset, .unset, .unset, .unset, .unset, .unset, .unset] [(.ref b1)]))
  refine own_step (fun t k => XS.astore X4.here hx rfl (hb hby at_9) rfl rfl (l' := #[.val (.long y0_0), .second, .val (.long y1_0), .second, .val (.long y2_0), .second, .val (.long y3_0), .second, .val (.int x4_0), .val (.ref b1), .unset, .unset, .unset, .unset, .unset, .unset, .unset]) rfl k) ?_
  show own_Ends p.tables e below s _ _ _ (T4.setTop (mkF m 11 #[.val (.long y0_0), .second, .val (.long y1_0), .second, .val (.long y2_0), .second, .val (.long y3_0), .second, .val (.int x4_0), .val (.ref b1), .unset, .unset, .unset, .unset, .unset, .unset, .unset] []))
  refine own_step (fun t k => XS.iload X4.here hx rfl (hb hby at_11) rfl k) ?_
  show own_Ends p.tables e below s _ _ _ (T4.setTop (mkF m 13 #[.val (.long y0_0), .second, .val (.long y1_0), .second, .val (.long y2_0), .second, .val (.long y3_0), .second, .val (.int x4_0), .val (.ref b1), .unset, .unset, .unset, .unset, .unset, .unset, .unset] [(.int x4_0)]))
  refine own_step (fun t k => XS.iconst X4.here hx rfl (hb hby at_13) k) ?_
  show own_Ends p.tables e below s _ _ _ (T4.setTop (mkF m 14 #[.val (.long y0_0), .second, .val (.long y1_0), .second, .val (.long y2_0), .second, .val (.long y3_0), .second, .val (.int x4_0), .val (.ref b1), .unset, .unset, .unset, .unset, .unset, .unset, .unset] [(.int (1 : Int32)), (.int x4_0)]))
  refine own_step (fun t k => XS.iand X4.here hx rfl (hb hby at_14) rfl k) ?_
  show own_Ends p.tables e below s _ _ _ (T4.setTop (mkF m 15 #[.val (.long y0_0), .second, .val (.long y1_0), .second, .val (.long y2_0), .second, .val (.long y3_0), .second, .val (.int x4_0), .val (.ref b1), .unset, .unset, .unset, .unset, .unset, .unset, .unset] [(.int (x4_0 &&& (1 : Int32)))]))
  by_cases hc15_7 : (x4_0 &&& (1 : Int32)) = (0 : Int32)
  · skip
    refine own_step (fun t k => XS.ifYes X4.here hx rfl (pc0 := 15) (pc' := 22) rfl (hb hby at_15) rfl ((if0 _ _).trans (teq hc15_7).1) (by decide) (by decide) k) ?_
    show own_Ends p.tables e below s _ _ _ (T4.setTop (mkF m 22 #[.val (.long y0_0), .second, .val (.long y1_0), .second, .val (.long y2_0), .second, .val (.long y3_0), .second, .val (.int x4_0), .val (.ref b1), .unset, .unset, .unset, .unset, .unset, .unset, .unset] []))
    refine own_step (fun t k => XS.lload X4.here hx rfl (hb hby at_22) rfl k) ?_
    show own_Ends p.tables e below s _ _ _ (T4.setTop (mkF m 24 #[.val (.long y0_0), .second, .val (.long y1_0), .second, .val (.long y2_0), .second, .val (.long y3_0), .second, .val (.int x4_0), .val (.ref b1), .unset, .unset, .unset, .unset, .unset, .unset, .unset] [(.long y2_0)]))
    refine own_step (fun t k => XS.lstore X4.here hx rfl (hb hby at_24) rfl (l' := #[.val (.long y0_0), .second, .val (.long y1_0), .second, .val (.long y2_0), .second, .val (.long y3_0), .second, .val (.int x4_0), .val (.ref b1), .val (.long y2_0), .second, .unset, .unset, .unset, .unset, .unset]) rfl k) ?_
    show own_Ends p.tables e below s _ _ _ (T4.setTop (mkF m 26 #[.val (.long y0_0), .second, .val (.long y1_0), .second, .val (.long y2_0), .second, .val (.long y3_0), .second, .val (.int x4_0), .val (.ref b1), .val (.long y2_0), .second, .unset, .unset, .unset, .unset, .unset] []))
    refine own_step (fun t k => XS.iload X4.here hx rfl (hb hby at_26) rfl k) ?_
    show own_Ends p.tables e below s _ _ _ (T4.setTop (mkF m 28 #[.val (.long y0_0), .second, .val (.long y1_0), .second, .val (.long y2_0), .second, .val (.long y3_0), .second, .val (.int x4_0), .val (.ref b1), .val (.long y2_0), .second, .unset, .unset, .unset, .unset, .unset] [(.int x4_0)]))
    refine own_step (fun t k => XS.iconst X4.here hx rfl (hb hby at_28) k) ?_
    show own_Ends p.tables e below s _ _ _ (T4.setTop (mkF m 29 #[.val (.long y0_0), .second, .val (.long y1_0), .second, .val (.long y2_0), .second, .val (.long y3_0), .second, .val (.int x4_0), .val (.ref b1), .val (.long y2_0), .second, .unset, .unset, .unset, .unset, .unset] [(.int (2 : Int32)), (.int x4_0)]))
    refine own_step (fun t k => XS.iand X4.here hx rfl (hb hby at_29) rfl k) ?_
    show own_Ends p.tables e below s _ _ _ (T4.setTop (mkF m 30 #[.val (.long y0_0), .second, .val (.long y1_0), .second, .val (.long y2_0), .second, .val (.long y3_0), .second, .val (.int x4_0), .val (.ref b1), .val (.long y2_0), .second, .unset, .unset, .unset, .unset, .unset] [(.int (x4_0 &&& (2 : Int32)))]))
    by_cases hc30_8 : (x4_0 &&& (2 : Int32)) = (0 : Int32)
    · skip
      refine own_step (fun t k => XS.ifYes X4.here hx rfl (pc0 := 30) (pc' := 37) rfl (hb hby at_30) rfl ((if0 _ _).trans (teq hc30_8).1) (by decide) (by decide) k) ?_
      show own_Ends p.tables e below s _ _ _ (T4.setTop (mkF m 37 #[.val (.long y0_0), .second, .val (.long y1_0), .second, .val (.long y2_0), .second, .val (.long y3_0), .second, .val (.int x4_0), .val (.ref b1), .val (.long y2_0), .second, .unset, .unset, .unset, .unset, .unset] []))
      refine own_step (fun t k => XS.lload X4.here hx rfl (hb hby at_37) rfl k) ?_
      show own_Ends p.tables e below s _ _ _ (T4.setTop (mkF m 39 #[.val (.long y0_0), .second, .val (.long y1_0), .second, .val (.long y2_0), .second, .val (.long y3_0), .second, .val (.int x4_0), .val (.ref b1), .val (.long y2_0), .second, .unset, .unset, .unset, .unset, .unset] [(.long y3_0)]))
      refine own_step (fun t k => XS.lstore X4.here hx rfl (hb hby at_39) rfl (l' := #[.val (.long y0_0), .second, .val (.long y1_0), .second, .val (.long y2_0), .second, .val (.long y3_0), .second, .val (.int x4_0), .val (.ref b1), .val (.long y2_0), .second, .val (.long y3_0), .second, .unset, .unset, .unset]) rfl k) ?_
      show own_Ends p.tables e below s _ _ _ (T4.setTop (mkF m 41 #[.val (.long y0_0), .second, .val (.long y1_0), .second, .val (.long y2_0), .second, .val (.long y3_0), .second, .val (.int x4_0), .val (.ref b1), .val (.long y2_0), .second, .val (.long y3_0), .second, .unset, .unset, .unset] []))
      refine own_step (fun t k => XS.iload X4.here hx rfl (hb hby at_41) rfl k) ?_
      show own_Ends p.tables e below s _ _ _ (T4.setTop (mkF m 43 #[.val (.long y0_0), .second, .val (.long y1_0), .second, .val (.long y2_0), .second, .val (.long y3_0), .second, .val (.int x4_0), .val (.ref b1), .val (.long y2_0), .second, .val (.long y3_0), .second, .unset, .unset, .unset] [(.int x4_0)]))
      refine own_step (fun t k => XS.iconst X4.here hx rfl (hb hby at_43) k) ?_
      show own_Ends p.tables e below s _ _ _ (T4.setTop (mkF m 44 #[.val (.long y0_0), .second, .val (.long y1_0), .second, .val (.long y2_0), .second, .val (.long y3_0), .second, .val (.int x4_0), .val (.ref b1), .val (.long y2_0), .second, .val (.long y3_0), .second, .unset, .unset, .unset] [(.int (2 : Int32)), (.int x4_0)]))
      refine own_step (fun t k => XS.iushr X4.here hx rfl (hb hby at_44) rfl k) ?_
      show own_Ends p.tables e below s _ _ _ (T4.setTop (mkF m 45 #[.val (.long y0_0), .second, .val (.long y1_0), .second, .val (.long y2_0), .second, .val (.long y3_0), .second, .val (.int x4_0), .val (.ref b1), .val (.long y2_0), .second, .val (.long y3_0), .second, .unset, .unset, .unset] [(.int ((x4_0.toUInt32 >>> ((2 : Int32) &&& 31).toUInt32).toInt32))]))
      refine own_step (fun t k => XS.iconst X4.here hx rfl (hb hby at_45) k) ?_
      show own_Ends p.tables e below s _ _ _ (T4.setTop (mkF m 46 #[.val (.long y0_0), .second, .val (.long y1_0), .second, .val (.long y2_0), .second, .val (.long y3_0), .second, .val (.int x4_0), .val (.ref b1), .val (.long y2_0), .second, .val (.long y3_0), .second, .unset, .unset, .unset] [(.int (3 : Int32)), (.int ((x4_0.toUInt32 >>> ((2 : Int32) &&& 31).toUInt32).toInt32))]))
      refine own_step (fun t k => XS.iand X4.here hx rfl (hb hby at_46) rfl k) ?_
      show own_Ends p.tables e below s _ _ _ (T4.setTop (mkF m 47 #[.val (.long y0_0), .second, .val (.long y1_0), .second, .val (.long y2_0), .second, .val (.long y3_0), .second, .val (.int x4_0), .val (.ref b1), .val (.long y2_0), .second, .val (.long y3_0), .second, .unset, .unset, .unset] [(.int (((x4_0.toUInt32 >>> ((2 : Int32) &&& 31).toUInt32).toInt32) &&& (3 : Int32)))]))
      refine own_step (fun t k => XS.istore X4.here hx rfl (hb hby at_47) rfl (l' := #[.val (.long y0_0), .second, .val (.long y1_0), .second, .val (.long y2_0), .second, .val (.long y3_0), .second, .val (.int x4_0), .val (.ref b1), .val (.long y2_0), .second, .val (.long y3_0), .second, .val (.int (((x4_0.toUInt32 >>> ((2 : Int32) &&& 31).toUInt32).toInt32) &&& (3 : Int32))), .unset, .unset]) rfl k) ?_
      show own_Ends p.tables e below s _ _ _ (T4.setTop (mkF m 49 #[.val (.long y0_0), .second, .val (.long y1_0), .second, .val (.long y2_0), .second, .val (.long y3_0), .second, .val (.int x4_0), .val (.ref b1), .val (.long y2_0), .second, .val (.long y3_0), .second, .val (.int (((x4_0.toUInt32 >>> ((2 : Int32) &&& 31).toUInt32).toInt32) &&& (3 : Int32))), .unset, .unset] []))
      refine own_step (fun t k => XS.iload X4.here hx rfl (hb hby at_49) rfl k) ?_
      show own_Ends p.tables e below s _ _ _ (T4.setTop (mkF m 51 #[.val (.long y0_0), .second, .val (.long y1_0), .second, .val (.long y2_0), .second, .val (.long y3_0), .second, .val (.int x4_0), .val (.ref b1), .val (.long y2_0), .second, .val (.long y3_0), .second, .val (.int (((x4_0.toUInt32 >>> ((2 : Int32) &&& 31).toUInt32).toInt32) &&& (3 : Int32))), .unset, .unset] [(.int (((x4_0.toUInt32 >>> ((2 : Int32) &&& 31).toUInt32).toInt32) &&& (3 : Int32)))]))
      by_cases hc51_9 : (((x4_0.toUInt32 >>> ((2 : Int32) &&& 31).toUInt32).toInt32) &&& (3 : Int32)) = (0 : Int32)
      · skip
        refine own_step (fun t k => XS.ifNo X4.here hx rfl (hb hby at_51) rfl ((if0 _ _).trans (teq hc51_9).2) k) ?_
        show own_Ends p.tables e below s _ _ _ (T4.setTop (mkF m 54 #[.val (.long y0_0), .second, .val (.long y1_0), .second, .val (.long y2_0), .second, .val (.long y3_0), .second, .val (.int x4_0), .val (.ref b1), .val (.long y2_0), .second, .val (.long y3_0), .second, .val (.int (((x4_0.toUInt32 >>> ((2 : Int32) &&& 31).toUInt32).toInt32) &&& (3 : Int32))), .unset, .unset] []))
        have O10 : Old Z n0 T4.heap := (O3.keep K4q (allS g_b1 all0))
        obtain ⟨T11, h11, X11, e11, E11, A11, D11, -, st11⟩ := newO X4 hx hZ hown (hw _ (List.mem_of_getElem? (i := 0) rfl)) (hw _ (List.mem_of_getElem? (i := 1) rfl)) (hw _ (List.mem_of_getElem? (i := 2) rfl)) rfl (g := (mkF m 54 #[.val (.long y0_0), .second, .val (.long y1_0), .second, .val (.long y2_0), .second, .val (.long y3_0), .second, .val (.int x4_0), .val (.ref b1), .val (.long y2_0), .second, .val (.long y3_0), .second, .val (.int (((x4_0.toUInt32 >>> ((2 : Int32) &&& 31).toUInt32).toInt32) &&& (3 : Int32))), .unset, .unset] [])) rfl (hb hby at_54) (by decide) (by decide)
        obtain ⟨b11, g11⟩ : ∃ z, z = T4.heap.size := ⟨_, rfl⟩
        rw [← g11] at A11 D11 st11
        have g_b11 : n0 ≤ b11 := Nat.le_trans (Nat.le_trans (Nat.le_of_eq O10.1.symm) O10.2.1) (Nat.le_of_eq g11.symm)
        have sz_b11 : h0.size ≤ b11 := Nat.le_trans K6.1 (Nat.le_of_eq g11.symm)
        have ne_b1_b11 : b1 ≠ b11 := Nat.ne_of_lt (Nat.lt_of_lt_of_le p4_0.lt (Nat.le_of_eq g11.symm))
        have F11_x : Fld Z h11 b11 "com/example/swanhall/swanhall/core/Cell" "x" "J" (.long (0 : Int64)) := D11 (Or.inr (hw _ (List.mem_of_getElem? (i := 15) rfl))) (ty := .long) (by decide)
        have F11_y : Fld Z h11 b11 "com/example/swanhall/swanhall/core/Cell" "y" "J" (.long (0 : Int64)) := D11 (Or.inr (hw _ (List.mem_of_getElem? (i := 17) rfl))) (ty := .long) (by decide)
        refine own_step (fun t k => st11 _ k) ?_
        have K12 : Keep h0 h11 [] := K6.ext E11
        show own_Ends p.tables e below s _ _ _ (T11.setTop (mkF m 57 #[.val (.long y0_0), .second, .val (.long y1_0), .second, .val (.long y2_0), .second, .val (.long y3_0), .second, .val (.int x4_0), .val (.ref b1), .val (.long y2_0), .second, .val (.long y3_0), .second, .val (.int (((x4_0.toUInt32 >>> ((2 : Int32) &&& 31).toUInt32).toInt32) &&& (3 : Int32))), .unset, .unset] [(.ref b11)]))
        refine own_step (fun t k => XS.dup X11.here hx rfl (hb hby at_57) rfl rfl k) ?_
        show own_Ends p.tables e below s _ _ _ (T11.setTop (mkF m 58 #[.val (.long y0_0), .second, .val (.long y1_0), .second, .val (.long y2_0), .second, .val (.long y3_0), .second, .val (.int x4_0), .val (.ref b1), .val (.long y2_0), .second, .val (.long y3_0), .second, .val (.int (((x4_0.toUInt32 >>> ((2 : Int32) &&& 31).toUInt32).toInt32) &&& (3 : Int32))), .unset, .unset] [(.ref b11), (.ref b11)]))
        refine own_step (fun t k => XS.lload X11.here hx rfl (hb hby at_58) rfl k) ?_
        show own_Ends p.tables e below s _ _ _ (T11.setTop (mkF m 60 #[.val (.long y0_0), .second, .val (.long y1_0), .second, .val (.long y2_0), .second, .val (.long y3_0), .second, .val (.int x4_0), .val (.ref b1), .val (.long y2_0), .second, .val (.long y3_0), .second, .val (.int (((x4_0.toUInt32 >>> ((2 : Int32) &&& 31).toUInt32).toInt32) &&& (3 : Int32))), .unset, .unset] [(.long y2_0), (.ref b11), (.ref b11)]))
        refine own_step (fun t k => XS.lload X11.here hx rfl (hb hby at_60) rfl k) ?_
        show own_Ends p.tables e below s _ _ _ (T11.setTop (mkF m 62 #[.val (.long y0_0), .second, .val (.long y1_0), .second, .val (.long y2_0), .second, .val (.long y3_0), .second, .val (.int x4_0), .val (.ref b1), .val (.long y2_0), .second, .val (.long y3_0), .second, .val (.int (((x4_0.toUInt32 >>> ((2 : Int32) &&& 31).toUInt32).toInt32) &&& (3 : Int32))), .unset, .unset] [(.long y3_0), (.long y2_0), (.ref b11), (.ref b11)]))
        have O13 : Old Z n0 h11 := (O10.ext E11)
        obtain ⟨_, _, ⟨T14, L14, k14, n14⟩, -, X14, ⟨Lc14, hQ14, l14, y14, z14⟩, st14⟩ := X11.specialBack hx (y := (⟨"com/example/swanhall/swanhall/core/Cell", "<init>", "(JJ)V"⟩ : MethodName)) rfl hown (mvT hZ (hw _ (List.mem_of_getElem? (i := 3) rfl))) (mvT hZ (hw _ (List.mem_of_getElem? (i := 4) rfl))) (mvT hZ (hw _ (List.mem_of_getElem? (i := 5) rfl))) (by decide) (backOf (W := 1) (rm1 l Z a0 hw [] b11 y2_0 y3_0 (.long (0 : Int64)) (.long (0 : Int64)) h11 n0 O13 A11 F11_x g_b11 F11_y) hZ (hw _ (List.mem_of_getElem? (i := 5) rfl)) (hw _ (List.mem_of_getElem? (i := 2) rfl)) (by decide) (by decide)) (g := (mkF m 62 #[.val (.long y0_0), .second, .val (.long y1_0), .second, .val (.long y2_0), .second, .val (.long y3_0), .second, .val (.int x4_0), .val (.ref b1), .val (.long y2_0), .second, .val (.long y3_0), .second, .val (.int (((x4_0.toUInt32 >>> ((2 : Int32) &&& 31).toUInt32).toInt32) &&& (3 : Int32))), .unset, .unset] [(.long y3_0), (.long y2_0), (.ref b11), (.ref b11)])) rfl (by rw [hml]; rfl) (Steps.refl _) (a := b11) (argsL := [(.long y2_0), (.long y3_0)]) (rest := [(.ref b11)]) (lenOf pd_2 rfl) rfl (by show 2 * 0 + _ ≤ _; exact Nat.le_of_eq rfl) (hb hby at_62) (fun _ _ => ⟨rfl, e11, (by decide : 2 + 0 ≤ _), (by decide : 4 + 0 ≤ _)⟩)
        dsimp only [Pt.U, Pt.locs, Pt.cells, Pt.slots] at X14 l14 y14 z14 st14 hQ14
        subst y14 z14
        obtain ⟨rfl, N14q, K14q, p14_0, p14_1, p14_2⟩ := hQ14
        refine own_step (fun t k => st14.trans k) ?_
        have N15 : Fr n0 L14 := by rw [l14]; exact Fr.app N5 N14q
        have K16 : Keep h0 T14.heap [] := K12.trans K14q (allS (Or.inr sz_b11) all0)
        show own_Ends p.tables e below s _ _ _ (T14.setTop (mkF m 65 #[.val (.long y0_0), .second, .val (.long y1_0), .second, .val (.long y2_0), .second, .val (.long y3_0), .second, .val (.int x4_0), .val (.ref b1), .val (.long y2_0), .second, .val (.long y3_0), .second, .val (.int (((x4_0.toUInt32 >>> ((2 : Int32) &&& 31).toUInt32).toInt32) &&& (3 : Int32))), .unset, .unset] [(.ref b11)]))
        refine own_step (fun t k => XS.astore X14.here hx rfl (hb hby at_65) rfl rfl (l' := #[.val (.long y0_0), .second, .val (.long y1_0), .second, .val (.long y2_0), .second, .val (.long y3_0), .second, .val (.int x4_0), .val (.ref b1), .val (.long y2_0), .second, .val (.long y3_0), .second, .val (.int (((x4_0.toUInt32 >>> ((2 : Int32) &&& 31).toUInt32).toInt32) &&& (3 : Int32))), .val (.ref b11), .unset]) rfl k) ?_
        show own_Ends p.tables e below s _ _ _ (T14.setTop (mkF m 67 #[.val (.long y0_0), .second, .val (.long y1_0), .second, .val (.long y2_0), .second, .val (.long y3_0), .second, .val (.int x4_0), .val (.ref b1), .val (.long y2_0), .second, .val (.long y3_0), .second, .val (.int (((x4_0.toUInt32 >>> ((2 : Int32) &&& 31).toUInt32).toInt32) &&& (3 : Int32))), .val (.ref b11), .unset] []))
        refine own_step (fun t k => XS.lload X14.here hx rfl (hb hby at_67) rfl k) ?_
        show own_Ends p.tables e below s _ _ _ (T14.setTop (mkF m 69 #[.val (.long y0_0), .second, .val (.long y1_0), .second, .val (.long y2_0), .second, .val (.long y3_0), .second, .val (.int x4_0), .val (.ref b1), .val (.long y2_0), .second, .val (.long y3_0), .second, .val (.int (((x4_0.toUInt32 >>> ((2 : Int32) &&& 31).toUInt32).toInt32) &&& (3 : Int32))), .val (.ref b11), .unset] [(.long y2_0)]))
        refine own_step (fun t k => XS.lloadN X14.here hx rfl (hb hby at_69) rfl k) ?_
        show own_Ends p.tables e below s _ _ _ (T14.setTop (mkF m 70 #[.val (.long y0_0), .second, .val (.long y1_0), .second, .val (.long y2_0), .second, .val (.long y3_0), .second, .val (.int x4_0), .val (.ref b1), .val (.long y2_0), .second, .val (.long y3_0), .second, .val (.int (((x4_0.toUInt32 >>> ((2 : Int32) &&& 31).toUInt32).toInt32) &&& (3 : Int32))), .val (.ref b11), .unset] [(.long y0_0), (.long y2_0)]))
        refine own_step (fun t k => XS.lcmp X14.here hx rfl (hb hby at_70) rfl k) ?_
        show own_Ends p.tables e below s _ _ _ (T14.setTop (mkF m 71 #[.val (.long y0_0), .second, .val (.long y1_0), .second, .val (.long y2_0), .second, .val (.long y3_0), .second, .val (.int x4_0), .val (.ref b1), .val (.long y2_0), .second, .val (.long y3_0), .second, .val (.int (((x4_0.toUInt32 >>> ((2 : Int32) &&& 31).toUInt32).toInt32) &&& (3 : Int32))), .val (.ref b11), .unset] [(.int (lcmpW y2_0 y0_0))]))
        by_cases hc71_17 : (lcmpW y2_0 y0_0) = (0 : Int32)
        · skip
          refine own_step (fun t k => XS.ifNo X14.here hx rfl (hb hby at_71) rfl ((if0 _ _).trans (teq hc71_17).2) k) ?_
          show own_Ends p.tables e below s _ _ _ (T14.setTop (mkF m 74 #[.val (.long y0_0), .second, .val (.long y1_0), .second, .val (.long y2_0), .second, .val (.long y3_0), .second, .val (.int x4_0), .val (.ref b1), .val (.long y2_0), .second, .val (.long y3_0), .second, .val (.int (((x4_0.toUInt32 >>> ((2 : Int32) &&& 31).toUInt32).toInt32) &&& (3 : Int32))), .val (.ref b11), .unset] []))
          refine own_step (fun t k => XS.lload X14.here hx rfl (hb hby at_74) rfl k) ?_
          show own_Ends p.tables e below s _ _ _ (T14.setTop (mkF m 76 #[.val (.long y0_0), .second, .val (.long y1_0), .second, .val (.long y2_0), .second, .val (.long y3_0), .second, .val (.int x4_0), .val (.ref b1), .val (.long y2_0), .second, .val (.long y3_0), .second, .val (.int (((x4_0.toUInt32 >>> ((2 : Int32) &&& 31).toUInt32).toInt32) &&& (3 : Int32))), .val (.ref b11), .unset] [(.long y3_0)]))
          refine own_step (fun t k => XS.lloadN X14.here hx rfl (hb hby at_76) rfl k) ?_
          show own_Ends p.tables e below s _ _ _ (T14.setTop (mkF m 77 #[.val (.long y0_0), .second, .val (.long y1_0), .second, .val (.long y2_0), .second, .val (.long y3_0), .second, .val (.int x4_0), .val (.ref b1), .val (.long y2_0), .second, .val (.long y3_0), .second, .val (.int (((x4_0.toUInt32 >>> ((2 : Int32) &&& 31).toUInt32).toInt32) &&& (3 : Int32))), .val (.ref b11), .unset] [(.long y1_0), (.long y3_0)]))
          refine own_step (fun t k => XS.lcmp X14.here hx rfl (hb hby at_77) rfl k) ?_
          show own_Ends p.tables e below s _ _ _ (T14.setTop (mkF m 78 #[.val (.long y0_0), .second, .val (.long y1_0), .second, .val (.long y2_0), .second, .val (.long y3_0), .second, .val (.int x4_0), .val (.ref b1), .val (.long y2_0), .second, .val (.long y3_0), .second, .val (.int (((x4_0.toUInt32 >>> ((2 : Int32) &&& 31).toUInt32).toInt32) &&& (3 : Int32))), .val (.ref b11), .unset] [(.int (lcmpW y3_0 y1_0))]))
          by_cases hc78_18 : (lcmpW y3_0 y1_0) = (0 : Int32)
          · skip
            refine own_step (fun t k => XS.ifNo X14.here hx rfl (hb hby at_78) rfl ((if0 _ _).trans (teq hc78_18).2) k) ?_
            show own_Ends p.tables e below s _ _ _ (T14.setTop (mkF m 81 #[.val (.long y0_0), .second, .val (.long y1_0), .second, .val (.long y2_0), .second, .val (.long y3_0), .second, .val (.int x4_0), .val (.ref b1), .val (.long y2_0), .second, .val (.long y3_0), .second, .val (.int (((x4_0.toUInt32 >>> ((2 : Int32) &&& 31).toUInt32).toInt32) &&& (3 : Int32))), .val (.ref b11), .unset] []))
            refine own_step (fun t k => XS.iconst X14.here hx rfl (hb hby at_81) k) ?_
            show own_Ends p.tables e below s _ _ _ (T14.setTop (mkF m 82 #[.val (.long y0_0), .second, .val (.long y1_0), .second, .val (.long y2_0), .second, .val (.long y3_0), .second, .val (.int x4_0), .val (.ref b1), .val (.long y2_0), .second, .val (.long y3_0), .second, .val (.int (((x4_0.toUInt32 >>> ((2 : Int32) &&& 31).toUInt32).toInt32) &&& (3 : Int32))), .val (.ref b11), .unset] [(.int (1 : Int32))]))
            refine own_step (fun t k => XS.goto X14.here hx rfl (pc0 := 82) (pc' := 86) rfl (hb hby at_82) (by decide) (by decide) k) ?_
            show own_Ends p.tables e below s _ _ _ (T14.setTop (mkF m 86 #[.val (.long y0_0), .second, .val (.long y1_0), .second, .val (.long y2_0), .second, .val (.long y3_0), .second, .val (.int x4_0), .val (.ref b1), .val (.long y2_0), .second, .val (.long y3_0), .second, .val (.int (((x4_0.toUInt32 >>> ((2 : Int32) &&& 31).toUInt32).toInt32) &&& (3 : Int32))), .val (.ref b11), .unset] [(.int (1 : Int32))]))
            refine own_step (fun t k => XS.istore X14.here hx rfl (hb hby at_86) rfl (l' := #[.val (.long y0_0), .second, .val (.long y1_0), .second, .val (.long y2_0), .second, .val (.long y3_0), .second, .val (.int x4_0), .val (.ref b1), .val (.long y2_0), .second, .val (.long y3_0), .second, .val (.int (((x4_0.toUInt32 >>> ((2 : Int32) &&& 31).toUInt32).toInt32) &&& (3 : Int32))), .val (.ref b11), .val (.int (1 : Int32))]) rfl k) ?_
            show own_Ends p.tables e below s _ _ _ (T14.setTop (mkF m 88 #[.val (.long y0_0), .second, .val (.long y1_0), .second, .val (.long y2_0), .second, .val (.long y3_0), .second, .val (.int x4_0), .val (.ref b1), .val (.long y2_0), .second, .val (.long y3_0), .second, .val (.int (((x4_0.toUInt32 >>> ((2 : Int32) &&& 31).toUInt32).toInt32) &&& (3 : Int32))), .val (.ref b11), .val (.int (1 : Int32))] []))
            refine own_step (fun t k => XS.aload X14.here hx rfl (hb hby at_88) rfl rfl k) ?_
            show own_Ends p.tables e below s _ _ _ (T14.setTop (mkF m 90 #[.val (.long y0_0), .second, .val (.long y1_0), .second, .val (.long y2_0), .second, .val (.long y3_0), .second, .val (.int x4_0), .val (.ref b1), .val (.long y2_0), .second, .val (.long y3_0), .second, .val (.int (((x4_0.toUInt32 >>> ((2 : Int32) &&& 31).toUInt32).toInt32) &&& (3 : Int32))), .val (.ref b11), .val (.int (1 : Int32))] [(.ref b1)]))
            refine own_step (fun t k => XS.aload X14.here hx rfl (hb hby at_90) rfl rfl k) ?_
            show own_Ends p.tables e below s _ _ _ (T14.setTop (mkF m 92 #[.val (.long y0_0), .second, .val (.long y1_0), .second, .val (.long y2_0), .second, .val (.long y3_0), .second, .val (.int x4_0), .val (.ref b1), .val (.long y2_0), .second, .val (.long y3_0), .second, .val (.int (((x4_0.toUInt32 >>> ((2 : Int32) &&& 31).toUInt32).toInt32) &&& (3 : Int32))), .val (.ref b11), .val (.int (1 : Int32))] [(.ref b11), (.ref b1)]))
            have F19 : Fld Z T14.heap b1 "com/example/swanhall/swanhall/core/Cell" "x" "J" (.long y0_0) := ((p4_1.ext E11).keep K14q (ninS ne_b1_b11 nin0))
            have F20 : Fld Z T14.heap b1 "com/example/swanhall/swanhall/core/Cell" "y" "J" (.long y1_0) := ((p4_2.ext E11).keep K14q (ninS ne_b1_b11 nin0))
            have O21 : Old Z n0 T14.heap := (O13.keep K14q (allS g_b11 all0))
            have F23 : Exa Z T14.heap b1 "com/example/swanhall/swanhall/core/Cell" := ((p4_0.ext E11).keep K14q)
            obtain ⟨cq22, kq22, q22a, q22b, q22c⟩ := isOf hZ rfl F23
            obtain ⟨_, _, ⟨T22, L22, k22, n22⟩, -, X22, ⟨Lc22, hQ22, l22, y22, z22⟩, st22⟩ := X14.virtualBack hx (y := (⟨"com/example/swanhall/swanhall/core/Cell", "equals", "(Ljava/lang/Object;)Z"⟩ : MethodName)) (z := (⟨"com/example/swanhall/swanhall/core/Cell", "equals", "(Ljava/lang/Object;)Z"⟩ : MethodName)) hown (mvT hZ (hw _ (List.mem_of_getElem? (i := 18) rfl))) (mvT hZ (hw _ (List.mem_of_getElem? (i := 19) rfl))) (notFace_of_selects (args := #[]) (mvT hZ (hw _ (List.mem_of_getElem? (i := 21) rfl)))) (mvT hZ (hw _ (List.mem_of_getElem? (i := 21) rfl))) (mvT hZ (hw _ (List.mem_of_getElem? (i := 20) rfl))) (by decide) (backOf (W := 0) (rm4 l Z a0 hw [] b1 b11 y2_0 y0_0 y3_0 y1_0 T14.heap n0 O21 p14_0 p14_1 F19 p14_2 F20) hZ (hw _ (List.mem_of_getElem? (i := 22) rfl)) (hw _ (List.mem_of_getElem? (i := 2) rfl)) (by decide) (by decide)) q22a q22c (g := (mkF m 92 #[.val (.long y0_0), .second, .val (.long y1_0), .second, .val (.long y2_0), .second, .val (.long y3_0), .second, .val (.int x4_0), .val (.ref b1), .val (.long y2_0), .second, .val (.long y3_0), .second, .val (.int (((x4_0.toUInt32 >>> ((2 : Int32) &&& 31).toUInt32).toInt32) &&& (3 : Int32))), .val (.ref b11), .val (.int (1 : Int32))] [(.ref b11), (.ref b1)])) rfl (by rw [hml]; rfl) (Steps.refl _) (argsL := [(.ref b11)]) (rest := []) (lenOf pd_3 rfl) rfl (by show 2 * 0 + _ ≤ _; exact Nat.le_of_eq rfl) (hb hby at_92) (fun _ _ => ⟨rfl, rfl, (by decide : 2 + 0 ≤ _), (by decide : 4 + 0 ≤ _)⟩)
            dsimp only [Pt.U, Pt.locs, Pt.cells, Pt.slots] at X22 l22 y22 z22 st22 hQ22
            subst y22 z22
            obtain ⟨rfl, N22q, e22⟩ := hQ22
            refine own_step (fun t k => st22.trans k) ?_
            have N24 : Fr n0 L22 := by rw [l22]; exact Fr.app N15 N22q
            show own_Ends p.tables e below s _ _ _ (T22.setTop (mkF m 95 #[.val (.long y0_0), .second, .val (.long y1_0), .second, .val (.long y2_0), .second, .val (.long y3_0), .second, .val (.int x4_0), .val (.ref b1), .val (.long y2_0), .second, .val (.long y3_0), .second, .val (.int (((x4_0.toUInt32 >>> ((2 : Int32) &&& 31).toUInt32).toInt32) &&& (3 : Int32))), .val (.ref b11), .val (.int (1 : Int32))] [(.int (own_r4 y2_0 y0_0 y3_0 y1_0))]))
            refine own_step (fun t k => XS.iload X22.here hx rfl (hb hby at_95) rfl k) ?_
            show own_Ends p.tables e below s _ _ _ (T22.setTop (mkF m 97 #[.val (.long y0_0), .second, .val (.long y1_0), .second, .val (.long y2_0), .second, .val (.long y3_0), .second, .val (.int x4_0), .val (.ref b1), .val (.long y2_0), .second, .val (.long y3_0), .second, .val (.int (((x4_0.toUInt32 >>> ((2 : Int32) &&& 31).toUInt32).toInt32) &&& (3 : Int32))), .val (.ref b11), .val (.int (1 : Int32))] [(.int (1 : Int32)), (.int (own_r4 y2_0 y0_0 y3_0 y1_0))]))
            by_cases hc97_25 : (own_r4 y2_0 y0_0 y3_0 y1_0) = (1 : Int32)
            · skip
              refine own_step (fun t k => XS.icmpNo X22.here hx rfl (hb hby at_97) rfl (teq hc97_25).2 k) ?_
              show own_Ends p.tables e below s _ _ _ (T22.setTop (mkF m 100 #[.val (.long y0_0), .second, .val (.long y1_0), .second, .val (.long y2_0), .second, .val (.long y3_0), .second, .val (.int x4_0), .val (.ref b1), .val (.long y2_0), .second, .val (.long y3_0), .second, .val (.int (((x4_0.toUInt32 >>> ((2 : Int32) &&& 31).toUInt32).toInt32) &&& (3 : Int32))), .val (.ref b11), .val (.int (1 : Int32))] []))
              refine own_step (fun t k => XS.aload X22.here hx rfl (hb hby at_100) rfl rfl k) ?_
              show own_Ends p.tables e below s _ _ _ (T22.setTop (mkF m 102 #[.val (.long y0_0), .second, .val (.long y1_0), .second, .val (.long y2_0), .second, .val (.long y3_0), .second, .val (.int x4_0), .val (.ref b1), .val (.long y2_0), .second, .val (.long y3_0), .second, .val (.int (((x4_0.toUInt32 >>> ((2 : Int32) &&& 31).toUInt32).toInt32) &&& (3 : Int32))), .val (.ref b11), .val (.int (1 : Int32))] [(.ref b11)]))
              refine own_step (fun t k => XS.aload X22.here hx rfl (hb hby at_102) rfl rfl k) ?_
              show own_Ends p.tables e below s _ _ _ (T22.setTop (mkF m 104 #[.val (.long y0_0), .second, .val (.long y1_0), .second, .val (.long y2_0), .second, .val (.long y3_0), .second, .val (.int x4_0), .val (.ref b1), .val (.long y2_0), .second, .val (.long y3_0), .second, .val (.int (((x4_0.toUInt32 >>> ((2 : Int32) &&& 31).toUInt32).toInt32) &&& (3 : Int32))), .val (.ref b11), .val (.int (1 : Int32))] [(.ref b1), (.ref b11)]))
              obtain ⟨cq26, kq26, q26a, q26b, q26c⟩ := isOf hZ e22 p14_0
              obtain ⟨_, _, ⟨T26, L26, k26, n26⟩, -, X26, ⟨Lc26, hQ26, l26, y26, z26⟩, st26⟩ := X22.virtualBack hx (y := (⟨"com/example/swanhall/swanhall/core/Cell", "equals", "(Ljava/lang/Object;)Z"⟩ : MethodName)) (z := (⟨"com/example/swanhall/swanhall/core/Cell", "equals", "(Ljava/lang/Object;)Z"⟩ : MethodName)) hown (mvT hZ (hw _ (List.mem_of_getElem? (i := 18) rfl))) (mvT hZ (hw _ (List.mem_of_getElem? (i := 19) rfl))) (notFace_of_selects (args := #[]) (mvT hZ (hw _ (List.mem_of_getElem? (i := 21) rfl)))) (mvT hZ (hw _ (List.mem_of_getElem? (i := 21) rfl))) (mvT hZ (hw _ (List.mem_of_getElem? (i := 20) rfl))) (by decide) (backOf (W := 0) (rm4 l Z a0 hw [] b11 b1 y0_0 y2_0 y1_0 y3_0 T14.heap n0 O21 F23 F19 p14_1 F20 p14_2) hZ (hw _ (List.mem_of_getElem? (i := 22) rfl)) (hw _ (List.mem_of_getElem? (i := 2) rfl)) (by decide) (by decide)) q26a q26c (g := (mkF m 104 #[.val (.long y0_0), .second, .val (.long y1_0), .second, .val (.long y2_0), .second, .val (.long y3_0), .second, .val (.int x4_0), .val (.ref b1), .val (.long y2_0), .second, .val (.long y3_0), .second, .val (.int (((x4_0.toUInt32 >>> ((2 : Int32) &&& 31).toUInt32).toInt32) &&& (3 : Int32))), .val (.ref b11), .val (.int (1 : Int32))] [(.ref b1), (.ref b11)])) rfl (by rw [hml]; rfl) (Steps.refl _) (argsL := [(.ref b1)]) (rest := []) (lenOf pd_3 rfl) rfl (by show 2 * 0 + _ ≤ _; exact Nat.le_of_eq rfl) (hb hby at_104) (fun _ _ => ⟨rfl, e22, (by decide : 2 + 0 ≤ _), (by decide : 4 + 0 ≤ _)⟩)
              dsimp only [Pt.U, Pt.locs, Pt.cells, Pt.slots] at X26 l26 y26 z26 st26 hQ26
              subst y26 z26
              obtain ⟨rfl, N26q, e26⟩ := hQ26
              refine own_step (fun t k => st26.trans k) ?_
              have N27 : Fr n0 L26 := by rw [l26]; exact Fr.app N24 N26q
              show own_Ends p.tables e below s _ _ _ (T26.setTop (mkF m 107 #[.val (.long y0_0), .second, .val (.long y1_0), .second, .val (.long y2_0), .second, .val (.long y3_0), .second, .val (.int x4_0), .val (.ref b1), .val (.long y2_0), .second, .val (.long y3_0), .second, .val (.int (((x4_0.toUInt32 >>> ((2 : Int32) &&& 31).toUInt32).toInt32) &&& (3 : Int32))), .val (.ref b11), .val (.int (1 : Int32))] [(.int (own_r4 y0_0 y2_0 y1_0 y3_0))]))
              refine own_step (fun t k => XS.iload X26.here hx rfl (hb hby at_107) rfl k) ?_
              show own_Ends p.tables e below s _ _ _ (T26.setTop (mkF m 109 #[.val (.long y0_0), .second, .val (.long y1_0), .second, .val (.long y2_0), .second, .val (.long y3_0), .second, .val (.int x4_0), .val (.ref b1), .val (.long y2_0), .second, .val (.long y3_0), .second, .val (.int (((x4_0.toUInt32 >>> ((2 : Int32) &&& 31).toUInt32).toInt32) &&& (3 : Int32))), .val (.ref b11), .val (.int (1 : Int32))] [(.int (1 : Int32)), (.int (own_r4 y0_0 y2_0 y1_0 y3_0))]))
              by_cases hc109_28 : (own_r4 y0_0 y2_0 y1_0 y3_0) = (1 : Int32)
              · skip
                refine own_step (fun t k => XS.icmpNo X26.here hx rfl (hb hby at_109) rfl (teq hc109_28).2 k) ?_
                show own_Ends p.tables e below s _ _ _ (T26.setTop (mkF m 112 #[.val (.long y0_0), .second, .val (.long y1_0), .second, .val (.long y2_0), .second, .val (.long y3_0), .second, .val (.int x4_0), .val (.ref b1), .val (.long y2_0), .second, .val (.long y3_0), .second, .val (.int (((x4_0.toUInt32 >>> ((2 : Int32) &&& 31).toUInt32).toInt32) &&& (3 : Int32))), .val (.ref b11), .val (.int (1 : Int32))] []))
                refine own_step (fun t k => XS.aload X26.here hx rfl (hb hby at_112) rfl rfl k) ?_
                show own_Ends p.tables e below s _ _ _ (T26.setTop (mkF m 114 #[.val (.long y0_0), .second, .val (.long y1_0), .second, .val (.long y2_0), .second, .val (.long y3_0), .second, .val (.int x4_0), .val (.ref b1), .val (.long y2_0), .second, .val (.long y3_0), .second, .val (.int (((x4_0.toUInt32 >>> ((2 : Int32) &&& 31).toUInt32).toInt32) &&& (3 : Int32))), .val (.ref b11), .val (.int (1 : Int32))] [(.ref b1)]))
                refine own_step (fun t k => XS.aload X26.here hx rfl (hb hby at_114) rfl rfl k) ?_
                show own_Ends p.tables e below s _ _ _ (T26.setTop (mkF m 116 #[.val (.long y0_0), .second, .val (.long y1_0), .second, .val (.long y2_0), .second, .val (.long y3_0), .second, .val (.int x4_0), .val (.ref b1), .val (.long y2_0), .second, .val (.long y3_0), .second, .val (.int (((x4_0.toUInt32 >>> ((2 : Int32) &&& 31).toUInt32).toInt32) &&& (3 : Int32))), .val (.ref b11), .val (.int (1 : Int32))] [(.ref b1), (.ref b1)]))
                obtain ⟨cq29, kq29, q29a, q29b, q29c⟩ := isOf hZ e26 F23
                obtain ⟨_, _, ⟨T29, L29, k29, n29⟩, -, X29, ⟨Lc29, hQ29, l29, y29, z29⟩, st29⟩ := X26.virtualBack hx (y := (⟨"com/example/swanhall/swanhall/core/Cell", "equals", "(Ljava/lang/Object;)Z"⟩ : MethodName)) (z := (⟨"com/example/swanhall/swanhall/core/Cell", "equals", "(Ljava/lang/Object;)Z"⟩ : MethodName)) hown (mvT hZ (hw _ (List.mem_of_getElem? (i := 18) rfl))) (mvT hZ (hw _ (List.mem_of_getElem? (i := 19) rfl))) (notFace_of_selects (args := #[]) (mvT hZ (hw _ (List.mem_of_getElem? (i := 21) rfl)))) (mvT hZ (hw _ (List.mem_of_getElem? (i := 21) rfl))) (mvT hZ (hw _ (List.mem_of_getElem? (i := 20) rfl))) (by decide) (backOf (W := 0) (rm4 l Z a0 hw [] b1 b1 y0_0 y0_0 y1_0 y1_0 T14.heap n0 O21 F23 F19 F19 F20 F20) hZ (hw _ (List.mem_of_getElem? (i := 22) rfl)) (hw _ (List.mem_of_getElem? (i := 2) rfl)) (by decide) (by decide)) q29a q29c (g := (mkF m 116 #[.val (.long y0_0), .second, .val (.long y1_0), .second, .val (.long y2_0), .second, .val (.long y3_0), .second, .val (.int x4_0), .val (.ref b1), .val (.long y2_0), .second, .val (.long y3_0), .second, .val (.int (((x4_0.toUInt32 >>> ((2 : Int32) &&& 31).toUInt32).toInt32) &&& (3 : Int32))), .val (.ref b11), .val (.int (1 : Int32))] [(.ref b1), (.ref b1)])) rfl (by rw [hml]; rfl) (Steps.refl _) (argsL := [(.ref b1)]) (rest := []) (lenOf pd_3 rfl) rfl (by show 2 * 0 + _ ≤ _; exact Nat.le_of_eq rfl) (hb hby at_116) (fun _ _ => ⟨rfl, e26, (by decide : 2 + 0 ≤ _), (by decide : 4 + 0 ≤ _)⟩)
                dsimp only [Pt.U, Pt.locs, Pt.cells, Pt.slots] at X29 l29 y29 z29 st29 hQ29
                subst y29 z29
                obtain ⟨rfl, N29q, e29⟩ := hQ29
                refine own_step (fun t k => st29.trans k) ?_
                have N30 : Fr n0 L29 := by rw [l29]; exact Fr.app N27 N29q
                show own_Ends p.tables e below s _ _ _ (T29.setTop (mkF m 119 #[.val (.long y0_0), .second, .val (.long y1_0), .second, .val (.long y2_0), .second, .val (.long y3_0), .second, .val (.int x4_0), .val (.ref b1), .val (.long y2_0), .second, .val (.long y3_0), .second, .val (.int (((x4_0.toUInt32 >>> ((2 : Int32) &&& 31).toUInt32).toInt32) &&& (3 : Int32))), .val (.ref b11), .val (.int (1 : Int32))] [(.int (own_r4 y0_0 y0_0 y1_0 y1_0))]))
                by_cases hc119_31 : (own_r4 y0_0 y0_0 y1_0 y1_0) = (0 : Int32)
                · skip
                  refine own_step (fun t k => XS.ifYes X29.here hx rfl (pc0 := 119) (pc' := 126) rfl (hb hby at_119) rfl ((if0 _ _).trans (teq hc119_31).1) (by decide) (by decide) k) ?_
                  show own_Ends p.tables e below s _ _ _ (T29.setTop (mkF m 126 #[.val (.long y0_0), .second, .val (.long y1_0), .second, .val (.long y2_0), .second, .val (.long y3_0), .second, .val (.int x4_0), .val (.ref b1), .val (.long y2_0), .second, .val (.long y3_0), .second, .val (.int (((x4_0.toUInt32 >>> ((2 : Int32) &&& 31).toUInt32).toInt32) &&& (3 : Int32))), .val (.ref b11), .val (.int (1 : Int32))] []))
                  refine own_step (fun t k => XS.iconst X29.here hx rfl (hb hby at_126) k) ?_
                  show own_Ends p.tables e below s _ _ _ (T29.setTop (mkF m 127 #[.val (.long y0_0), .second, .val (.long y1_0), .second, .val (.long y2_0), .second, .val (.long y3_0), .second, .val (.int x4_0), .val (.ref b1), .val (.long y2_0), .second, .val (.long y3_0), .second, .val (.int (((x4_0.toUInt32 >>> ((2 : Int32) &&& 31).toUInt32).toInt32) &&& (3 : Int32))), .val (.ref b11), .val (.int (1 : Int32))] [(.int (0 : Int32))]))
                  exfalso
                  exact absurd hc119_31 (by rw [own_eq4]; simp)
                · skip
                  refine own_step (fun t k => XS.ifNo X29.here hx rfl (hb hby at_119) rfl ((if0 _ _).trans (feq hc119_31).1) k) ?_
                  show own_Ends p.tables e below s _ _ _ (T29.setTop (mkF m 122 #[.val (.long y0_0), .second, .val (.long y1_0), .second, .val (.long y2_0), .second, .val (.long y3_0), .second, .val (.int x4_0), .val (.ref b1), .val (.long y2_0), .second, .val (.long y3_0), .second, .val (.int (((x4_0.toUInt32 >>> ((2 : Int32) &&& 31).toUInt32).toInt32) &&& (3 : Int32))), .val (.ref b11), .val (.int (1 : Int32))] []))
                  refine own_step (fun t k => XS.iconst X29.here hx rfl (hb hby at_122) k) ?_
                  show own_Ends p.tables e below s _ _ _ (T29.setTop (mkF m 123 #[.val (.long y0_0), .second, .val (.long y1_0), .second, .val (.long y2_0), .second, .val (.long y3_0), .second, .val (.int x4_0), .val (.ref b1), .val (.long y2_0), .second, .val (.long y3_0), .second, .val (.int (((x4_0.toUInt32 >>> ((2 : Int32) &&& 31).toUInt32).toInt32) &&& (3 : Int32))), .val (.ref b11), .val (.int (1 : Int32))] [(.int (1 : Int32))]))
                  refine own_step (fun t k => XS.goto X29.here hx rfl (pc0 := 123) (pc' := 127) rfl (hb hby at_123) (by decide) (by decide) k) ?_
                  show own_Ends p.tables e below s _ _ _ (T29.setTop (mkF m 127 #[.val (.long y0_0), .second, .val (.long y1_0), .second, .val (.long y2_0), .second, .val (.long y3_0), .second, .val (.int x4_0), .val (.ref b1), .val (.long y2_0), .second, .val (.long y3_0), .second, .val (.int (((x4_0.toUInt32 >>> ((2 : Int32) &&& 31).toUInt32).toInt32) &&& (3 : Int32))), .val (.ref b11), .val (.int (1 : Int32))] [(.int (1 : Int32))]))
                  exact own_retN X29 hx (t := .boolean) Bd.returns (by simp) (hb hby at_127) hnl (by rw [e29]; exact ⟨rfl, N30⟩) (by decide) (by decide)
              · skip
                refine own_step (fun t k => XS.icmpYes X26.here hx rfl (pc0 := 109) (pc' := 126) rfl (hb hby at_109) rfl (feq hc109_28).2 (by decide) (by decide) k) ?_
                show own_Ends p.tables e below s _ _ _ (T26.setTop (mkF m 126 #[.val (.long y0_0), .second, .val (.long y1_0), .second, .val (.long y2_0), .second, .val (.long y3_0), .second, .val (.int x4_0), .val (.ref b1), .val (.long y2_0), .second, .val (.long y3_0), .second, .val (.int (((x4_0.toUInt32 >>> ((2 : Int32) &&& 31).toUInt32).toInt32) &&& (3 : Int32))), .val (.ref b11), .val (.int (1 : Int32))] []))
                refine own_step (fun t k => XS.iconst X26.here hx rfl (hb hby at_126) k) ?_
                show own_Ends p.tables e below s _ _ _ (T26.setTop (mkF m 127 #[.val (.long y0_0), .second, .val (.long y1_0), .second, .val (.long y2_0), .second, .val (.long y3_0), .second, .val (.int x4_0), .val (.ref b1), .val (.long y2_0), .second, .val (.long y3_0), .second, .val (.int (((x4_0.toUInt32 >>> ((2 : Int32) &&& 31).toUInt32).toInt32) &&& (3 : Int32))), .val (.ref b11), .val (.int (1 : Int32))] [(.int (0 : Int32))]))
                exfalso
                exact hc109_28 (by rw [own_eq4]; exact if_pos ⟨((own_lc _ _).mp hc71_17).symm, ((own_lc _ _).mp hc78_18).symm⟩)
            · skip
              refine own_step (fun t k => XS.icmpYes X22.here hx rfl (pc0 := 97) (pc' := 126) rfl (hb hby at_97) rfl (feq hc97_25).2 (by decide) (by decide) k) ?_
              show own_Ends p.tables e below s _ _ _ (T22.setTop (mkF m 126 #[.val (.long y0_0), .second, .val (.long y1_0), .second, .val (.long y2_0), .second, .val (.long y3_0), .second, .val (.int x4_0), .val (.ref b1), .val (.long y2_0), .second, .val (.long y3_0), .second, .val (.int (((x4_0.toUInt32 >>> ((2 : Int32) &&& 31).toUInt32).toInt32) &&& (3 : Int32))), .val (.ref b11), .val (.int (1 : Int32))] []))
              refine own_step (fun t k => XS.iconst X22.here hx rfl (hb hby at_126) k) ?_
              show own_Ends p.tables e below s _ _ _ (T22.setTop (mkF m 127 #[.val (.long y0_0), .second, .val (.long y1_0), .second, .val (.long y2_0), .second, .val (.long y3_0), .second, .val (.int x4_0), .val (.ref b1), .val (.long y2_0), .second, .val (.long y3_0), .second, .val (.int (((x4_0.toUInt32 >>> ((2 : Int32) &&& 31).toUInt32).toInt32) &&& (3 : Int32))), .val (.ref b11), .val (.int (1 : Int32))] [(.int (0 : Int32))]))
              exfalso
              exact hc97_25 (by rw [own_eq4]; exact if_pos ⟨((own_lc _ _).mp hc71_17), ((own_lc _ _).mp hc78_18)⟩)
          · skip
            refine own_step (fun t k => XS.ifYes X14.here hx rfl (pc0 := 78) (pc' := 85) rfl (hb hby at_78) rfl ((if0 _ _).trans (feq hc78_18).2) (by decide) (by decide) k) ?_
            show own_Ends p.tables e below s _ _ _ (T14.setTop (mkF m 85 #[.val (.long y0_0), .second, .val (.long y1_0), .second, .val (.long y2_0), .second, .val (.long y3_0), .second, .val (.int x4_0), .val (.ref b1), .val (.long y2_0), .second, .val (.long y3_0), .second, .val (.int (((x4_0.toUInt32 >>> ((2 : Int32) &&& 31).toUInt32).toInt32) &&& (3 : Int32))), .val (.ref b11), .unset] []))
            refine own_step (fun t k => XS.iconst X14.here hx rfl (hb hby at_85) k) ?_
            show own_Ends p.tables e below s _ _ _ (T14.setTop (mkF m 86 #[.val (.long y0_0), .second, .val (.long y1_0), .second, .val (.long y2_0), .second, .val (.long y3_0), .second, .val (.int x4_0), .val (.ref b1), .val (.long y2_0), .second, .val (.long y3_0), .second, .val (.int (((x4_0.toUInt32 >>> ((2 : Int32) &&& 31).toUInt32).toInt32) &&& (3 : Int32))), .val (.ref b11), .unset] [(.int (0 : Int32))]))
            refine own_step (fun t k => XS.istore X14.here hx rfl (hb hby at_86) rfl (l' := #[.val (.long y0_0), .second, .val (.long y1_0), .second, .val (.long y2_0), .second, .val (.long y3_0), .second, .val (.int x4_0), .val (.ref b1), .val (.long y2_0), .second, .val (.long y3_0), .second, .val (.int (((x4_0.toUInt32 >>> ((2 : Int32) &&& 31).toUInt32).toInt32) &&& (3 : Int32))), .val (.ref b11), .val (.int (0 : Int32))]) rfl k) ?_
            show own_Ends p.tables e below s _ _ _ (T14.setTop (mkF m 88 #[.val (.long y0_0), .second, .val (.long y1_0), .second, .val (.long y2_0), .second, .val (.long y3_0), .second, .val (.int x4_0), .val (.ref b1), .val (.long y2_0), .second, .val (.long y3_0), .second, .val (.int (((x4_0.toUInt32 >>> ((2 : Int32) &&& 31).toUInt32).toInt32) &&& (3 : Int32))), .val (.ref b11), .val (.int (0 : Int32))] []))
            refine own_step (fun t k => XS.aload X14.here hx rfl (hb hby at_88) rfl rfl k) ?_
            show own_Ends p.tables e below s _ _ _ (T14.setTop (mkF m 90 #[.val (.long y0_0), .second, .val (.long y1_0), .second, .val (.long y2_0), .second, .val (.long y3_0), .second, .val (.int x4_0), .val (.ref b1), .val (.long y2_0), .second, .val (.long y3_0), .second, .val (.int (((x4_0.toUInt32 >>> ((2 : Int32) &&& 31).toUInt32).toInt32) &&& (3 : Int32))), .val (.ref b11), .val (.int (0 : Int32))] [(.ref b1)]))
            refine own_step (fun t k => XS.aload X14.here hx rfl (hb hby at_90) rfl rfl k) ?_
            show own_Ends p.tables e below s _ _ _ (T14.setTop (mkF m 92 #[.val (.long y0_0), .second, .val (.long y1_0), .second, .val (.long y2_0), .second, .val (.long y3_0), .second, .val (.int x4_0), .val (.ref b1), .val (.long y2_0), .second, .val (.long y3_0), .second, .val (.int (((x4_0.toUInt32 >>> ((2 : Int32) &&& 31).toUInt32).toInt32) &&& (3 : Int32))), .val (.ref b11), .val (.int (0 : Int32))] [(.ref b11), (.ref b1)]))
            have F32 : Fld Z T14.heap b1 "com/example/swanhall/swanhall/core/Cell" "x" "J" (.long y0_0) := ((p4_1.ext E11).keep K14q (ninS ne_b1_b11 nin0))
            have F33 : Fld Z T14.heap b1 "com/example/swanhall/swanhall/core/Cell" "y" "J" (.long y1_0) := ((p4_2.ext E11).keep K14q (ninS ne_b1_b11 nin0))
            have O34 : Old Z n0 T14.heap := (O13.keep K14q (allS g_b11 all0))
            have F36 : Exa Z T14.heap b1 "com/example/swanhall/swanhall/core/Cell" := ((p4_0.ext E11).keep K14q)
            obtain ⟨cq35, kq35, q35a, q35b, q35c⟩ := isOf hZ rfl F36
            obtain ⟨_, _, ⟨T35, L35, k35, n35⟩, -, X35, ⟨Lc35, hQ35, l35, y35, z35⟩, st35⟩ := X14.virtualBack hx (y := (⟨"com/example/swanhall/swanhall/core/Cell", "equals", "(Ljava/lang/Object;)Z"⟩ : MethodName)) (z := (⟨"com/example/swanhall/swanhall/core/Cell", "equals", "(Ljava/lang/Object;)Z"⟩ : MethodName)) hown (mvT hZ (hw _ (List.mem_of_getElem? (i := 18) rfl))) (mvT hZ (hw _ (List.mem_of_getElem? (i := 19) rfl))) (notFace_of_selects (args := #[]) (mvT hZ (hw _ (List.mem_of_getElem? (i := 21) rfl)))) (mvT hZ (hw _ (List.mem_of_getElem? (i := 21) rfl))) (mvT hZ (hw _ (List.mem_of_getElem? (i := 20) rfl))) (by decide) (backOf (W := 0) (rm4 l Z a0 hw [] b1 b11 y2_0 y0_0 y3_0 y1_0 T14.heap n0 O34 p14_0 p14_1 F32 p14_2 F33) hZ (hw _ (List.mem_of_getElem? (i := 22) rfl)) (hw _ (List.mem_of_getElem? (i := 2) rfl)) (by decide) (by decide)) q35a q35c (g := (mkF m 92 #[.val (.long y0_0), .second, .val (.long y1_0), .second, .val (.long y2_0), .second, .val (.long y3_0), .second, .val (.int x4_0), .val (.ref b1), .val (.long y2_0), .second, .val (.long y3_0), .second, .val (.int (((x4_0.toUInt32 >>> ((2 : Int32) &&& 31).toUInt32).toInt32) &&& (3 : Int32))), .val (.ref b11), .val (.int (0 : Int32))] [(.ref b11), (.ref b1)])) rfl (by rw [hml]; rfl) (Steps.refl _) (argsL := [(.ref b11)]) (rest := []) (lenOf pd_3 rfl) rfl (by show 2 * 0 + _ ≤ _; exact Nat.le_of_eq rfl) (hb hby at_92) (fun _ _ => ⟨rfl, rfl, (by decide : 2 + 0 ≤ _), (by decide : 4 + 0 ≤ _)⟩)
            dsimp only [Pt.U, Pt.locs, Pt.cells, Pt.slots] at X35 l35 y35 z35 st35 hQ35
            subst y35 z35
            obtain ⟨rfl, N35q, e35⟩ := hQ35
            refine own_step (fun t k => st35.trans k) ?_
            have N37 : Fr n0 L35 := by rw [l35]; exact Fr.app N15 N35q
            show own_Ends p.tables e below s _ _ _ (T35.setTop (mkF m 95 #[.val (.long y0_0), .second, .val (.long y1_0), .second, .val (.long y2_0), .second, .val (.long y3_0), .second, .val (.int x4_0), .val (.ref b1), .val (.long y2_0), .second, .val (.long y3_0), .second, .val (.int (((x4_0.toUInt32 >>> ((2 : Int32) &&& 31).toUInt32).toInt32) &&& (3 : Int32))), .val (.ref b11), .val (.int (0 : Int32))] [(.int (own_r4 y2_0 y0_0 y3_0 y1_0))]))
            refine own_step (fun t k => XS.iload X35.here hx rfl (hb hby at_95) rfl k) ?_
            show own_Ends p.tables e below s _ _ _ (T35.setTop (mkF m 97 #[.val (.long y0_0), .second, .val (.long y1_0), .second, .val (.long y2_0), .second, .val (.long y3_0), .second, .val (.int x4_0), .val (.ref b1), .val (.long y2_0), .second, .val (.long y3_0), .second, .val (.int (((x4_0.toUInt32 >>> ((2 : Int32) &&& 31).toUInt32).toInt32) &&& (3 : Int32))), .val (.ref b11), .val (.int (0 : Int32))] [(.int (0 : Int32)), (.int (own_r4 y2_0 y0_0 y3_0 y1_0))]))
            by_cases hc97_38 : (own_r4 y2_0 y0_0 y3_0 y1_0) = (0 : Int32)
            · skip
              refine own_step (fun t k => XS.icmpNo X35.here hx rfl (hb hby at_97) rfl (teq hc97_38).2 k) ?_
              show own_Ends p.tables e below s _ _ _ (T35.setTop (mkF m 100 #[.val (.long y0_0), .second, .val (.long y1_0), .second, .val (.long y2_0), .second, .val (.long y3_0), .second, .val (.int x4_0), .val (.ref b1), .val (.long y2_0), .second, .val (.long y3_0), .second, .val (.int (((x4_0.toUInt32 >>> ((2 : Int32) &&& 31).toUInt32).toInt32) &&& (3 : Int32))), .val (.ref b11), .val (.int (0 : Int32))] []))
              refine own_step (fun t k => XS.aload X35.here hx rfl (hb hby at_100) rfl rfl k) ?_
              show own_Ends p.tables e below s _ _ _ (T35.setTop (mkF m 102 #[.val (.long y0_0), .second, .val (.long y1_0), .second, .val (.long y2_0), .second, .val (.long y3_0), .second, .val (.int x4_0), .val (.ref b1), .val (.long y2_0), .second, .val (.long y3_0), .second, .val (.int (((x4_0.toUInt32 >>> ((2 : Int32) &&& 31).toUInt32).toInt32) &&& (3 : Int32))), .val (.ref b11), .val (.int (0 : Int32))] [(.ref b11)]))
              refine own_step (fun t k => XS.aload X35.here hx rfl (hb hby at_102) rfl rfl k) ?_
              show own_Ends p.tables e below s _ _ _ (T35.setTop (mkF m 104 #[.val (.long y0_0), .second, .val (.long y1_0), .second, .val (.long y2_0), .second, .val (.long y3_0), .second, .val (.int x4_0), .val (.ref b1), .val (.long y2_0), .second, .val (.long y3_0), .second, .val (.int (((x4_0.toUInt32 >>> ((2 : Int32) &&& 31).toUInt32).toInt32) &&& (3 : Int32))), .val (.ref b11), .val (.int (0 : Int32))] [(.ref b1), (.ref b11)]))
              obtain ⟨cq39, kq39, q39a, q39b, q39c⟩ := isOf hZ e35 p14_0
              obtain ⟨_, _, ⟨T39, L39, k39, n39⟩, -, X39, ⟨Lc39, hQ39, l39, y39, z39⟩, st39⟩ := X35.virtualBack hx (y := (⟨"com/example/swanhall/swanhall/core/Cell", "equals", "(Ljava/lang/Object;)Z"⟩ : MethodName)) (z := (⟨"com/example/swanhall/swanhall/core/Cell", "equals", "(Ljava/lang/Object;)Z"⟩ : MethodName)) hown (mvT hZ (hw _ (List.mem_of_getElem? (i := 18) rfl))) (mvT hZ (hw _ (List.mem_of_getElem? (i := 19) rfl))) (notFace_of_selects (args := #[]) (mvT hZ (hw _ (List.mem_of_getElem? (i := 21) rfl)))) (mvT hZ (hw _ (List.mem_of_getElem? (i := 21) rfl))) (mvT hZ (hw _ (List.mem_of_getElem? (i := 20) rfl))) (by decide) (backOf (W := 0) (rm4 l Z a0 hw [] b11 b1 y0_0 y2_0 y1_0 y3_0 T14.heap n0 O34 F36 F32 p14_1 F33 p14_2) hZ (hw _ (List.mem_of_getElem? (i := 22) rfl)) (hw _ (List.mem_of_getElem? (i := 2) rfl)) (by decide) (by decide)) q39a q39c (g := (mkF m 104 #[.val (.long y0_0), .second, .val (.long y1_0), .second, .val (.long y2_0), .second, .val (.long y3_0), .second, .val (.int x4_0), .val (.ref b1), .val (.long y2_0), .second, .val (.long y3_0), .second, .val (.int (((x4_0.toUInt32 >>> ((2 : Int32) &&& 31).toUInt32).toInt32) &&& (3 : Int32))), .val (.ref b11), .val (.int (0 : Int32))] [(.ref b1), (.ref b11)])) rfl (by rw [hml]; rfl) (Steps.refl _) (argsL := [(.ref b1)]) (rest := []) (lenOf pd_3 rfl) rfl (by show 2 * 0 + _ ≤ _; exact Nat.le_of_eq rfl) (hb hby at_104) (fun _ _ => ⟨rfl, e35, (by decide : 2 + 0 ≤ _), (by decide : 4 + 0 ≤ _)⟩)
              dsimp only [Pt.U, Pt.locs, Pt.cells, Pt.slots] at X39 l39 y39 z39 st39 hQ39
              subst y39 z39
              obtain ⟨rfl, N39q, e39⟩ := hQ39
              refine own_step (fun t k => st39.trans k) ?_
              have N40 : Fr n0 L39 := by rw [l39]; exact Fr.app N37 N39q
              show own_Ends p.tables e below s _ _ _ (T39.setTop (mkF m 107 #[.val (.long y0_0), .second, .val (.long y1_0), .second, .val (.long y2_0), .second, .val (.long y3_0), .second, .val (.int x4_0), .val (.ref b1), .val (.long y2_0), .second, .val (.long y3_0), .second, .val (.int (((x4_0.toUInt32 >>> ((2 : Int32) &&& 31).toUInt32).toInt32) &&& (3 : Int32))), .val (.ref b11), .val (.int (0 : Int32))] [(.int (own_r4 y0_0 y2_0 y1_0 y3_0))]))
              refine own_step (fun t k => XS.iload X39.here hx rfl (hb hby at_107) rfl k) ?_
              show own_Ends p.tables e below s _ _ _ (T39.setTop (mkF m 109 #[.val (.long y0_0), .second, .val (.long y1_0), .second, .val (.long y2_0), .second, .val (.long y3_0), .second, .val (.int x4_0), .val (.ref b1), .val (.long y2_0), .second, .val (.long y3_0), .second, .val (.int (((x4_0.toUInt32 >>> ((2 : Int32) &&& 31).toUInt32).toInt32) &&& (3 : Int32))), .val (.ref b11), .val (.int (0 : Int32))] [(.int (0 : Int32)), (.int (own_r4 y0_0 y2_0 y1_0 y3_0))]))
              by_cases hc109_41 : (own_r4 y0_0 y2_0 y1_0 y3_0) = (0 : Int32)
              · skip
                refine own_step (fun t k => XS.icmpNo X39.here hx rfl (hb hby at_109) rfl (teq hc109_41).2 k) ?_
                show own_Ends p.tables e below s _ _ _ (T39.setTop (mkF m 112 #[.val (.long y0_0), .second, .val (.long y1_0), .second, .val (.long y2_0), .second, .val (.long y3_0), .second, .val (.int x4_0), .val (.ref b1), .val (.long y2_0), .second, .val (.long y3_0), .second, .val (.int (((x4_0.toUInt32 >>> ((2 : Int32) &&& 31).toUInt32).toInt32) &&& (3 : Int32))), .val (.ref b11), .val (.int (0 : Int32))] []))
                refine own_step (fun t k => XS.aload X39.here hx rfl (hb hby at_112) rfl rfl k) ?_
                show own_Ends p.tables e below s _ _ _ (T39.setTop (mkF m 114 #[.val (.long y0_0), .second, .val (.long y1_0), .second, .val (.long y2_0), .second, .val (.long y3_0), .second, .val (.int x4_0), .val (.ref b1), .val (.long y2_0), .second, .val (.long y3_0), .second, .val (.int (((x4_0.toUInt32 >>> ((2 : Int32) &&& 31).toUInt32).toInt32) &&& (3 : Int32))), .val (.ref b11), .val (.int (0 : Int32))] [(.ref b1)]))
                refine own_step (fun t k => XS.aload X39.here hx rfl (hb hby at_114) rfl rfl k) ?_
                show own_Ends p.tables e below s _ _ _ (T39.setTop (mkF m 116 #[.val (.long y0_0), .second, .val (.long y1_0), .second, .val (.long y2_0), .second, .val (.long y3_0), .second, .val (.int x4_0), .val (.ref b1), .val (.long y2_0), .second, .val (.long y3_0), .second, .val (.int (((x4_0.toUInt32 >>> ((2 : Int32) &&& 31).toUInt32).toInt32) &&& (3 : Int32))), .val (.ref b11), .val (.int (0 : Int32))] [(.ref b1), (.ref b1)]))
                obtain ⟨cq42, kq42, q42a, q42b, q42c⟩ := isOf hZ e39 F36
                obtain ⟨_, _, ⟨T42, L42, k42, n42⟩, -, X42, ⟨Lc42, hQ42, l42, y42, z42⟩, st42⟩ := X39.virtualBack hx (y := (⟨"com/example/swanhall/swanhall/core/Cell", "equals", "(Ljava/lang/Object;)Z"⟩ : MethodName)) (z := (⟨"com/example/swanhall/swanhall/core/Cell", "equals", "(Ljava/lang/Object;)Z"⟩ : MethodName)) hown (mvT hZ (hw _ (List.mem_of_getElem? (i := 18) rfl))) (mvT hZ (hw _ (List.mem_of_getElem? (i := 19) rfl))) (notFace_of_selects (args := #[]) (mvT hZ (hw _ (List.mem_of_getElem? (i := 21) rfl)))) (mvT hZ (hw _ (List.mem_of_getElem? (i := 21) rfl))) (mvT hZ (hw _ (List.mem_of_getElem? (i := 20) rfl))) (by decide) (backOf (W := 0) (rm4 l Z a0 hw [] b1 b1 y0_0 y0_0 y1_0 y1_0 T14.heap n0 O34 F36 F32 F32 F33 F33) hZ (hw _ (List.mem_of_getElem? (i := 22) rfl)) (hw _ (List.mem_of_getElem? (i := 2) rfl)) (by decide) (by decide)) q42a q42c (g := (mkF m 116 #[.val (.long y0_0), .second, .val (.long y1_0), .second, .val (.long y2_0), .second, .val (.long y3_0), .second, .val (.int x4_0), .val (.ref b1), .val (.long y2_0), .second, .val (.long y3_0), .second, .val (.int (((x4_0.toUInt32 >>> ((2 : Int32) &&& 31).toUInt32).toInt32) &&& (3 : Int32))), .val (.ref b11), .val (.int (0 : Int32))] [(.ref b1), (.ref b1)])) rfl (by rw [hml]; rfl) (Steps.refl _) (argsL := [(.ref b1)]) (rest := []) (lenOf pd_3 rfl) rfl (by show 2 * 0 + _ ≤ _; exact Nat.le_of_eq rfl) (hb hby at_116) (fun _ _ => ⟨rfl, e39, (by decide : 2 + 0 ≤ _), (by decide : 4 + 0 ≤ _)⟩)
                dsimp only [Pt.U, Pt.locs, Pt.cells, Pt.slots] at X42 l42 y42 z42 st42 hQ42
                subst y42 z42
                obtain ⟨rfl, N42q, e42⟩ := hQ42
                refine own_step (fun t k => st42.trans k) ?_
                have N43 : Fr n0 L42 := by rw [l42]; exact Fr.app N40 N42q
                show own_Ends p.tables e below s _ _ _ (T42.setTop (mkF m 119 #[.val (.long y0_0), .second, .val (.long y1_0), .second, .val (.long y2_0), .second, .val (.long y3_0), .second, .val (.int x4_0), .val (.ref b1), .val (.long y2_0), .second, .val (.long y3_0), .second, .val (.int (((x4_0.toUInt32 >>> ((2 : Int32) &&& 31).toUInt32).toInt32) &&& (3 : Int32))), .val (.ref b11), .val (.int (0 : Int32))] [(.int (own_r4 y0_0 y0_0 y1_0 y1_0))]))
                by_cases hc119_44 : (own_r4 y0_0 y0_0 y1_0 y1_0) = (0 : Int32)
                · skip
                  refine own_step (fun t k => XS.ifYes X42.here hx rfl (pc0 := 119) (pc' := 126) rfl (hb hby at_119) rfl ((if0 _ _).trans (teq hc119_44).1) (by decide) (by decide) k) ?_
                  show own_Ends p.tables e below s _ _ _ (T42.setTop (mkF m 126 #[.val (.long y0_0), .second, .val (.long y1_0), .second, .val (.long y2_0), .second, .val (.long y3_0), .second, .val (.int x4_0), .val (.ref b1), .val (.long y2_0), .second, .val (.long y3_0), .second, .val (.int (((x4_0.toUInt32 >>> ((2 : Int32) &&& 31).toUInt32).toInt32) &&& (3 : Int32))), .val (.ref b11), .val (.int (0 : Int32))] []))
                  refine own_step (fun t k => XS.iconst X42.here hx rfl (hb hby at_126) k) ?_
                  show own_Ends p.tables e below s _ _ _ (T42.setTop (mkF m 127 #[.val (.long y0_0), .second, .val (.long y1_0), .second, .val (.long y2_0), .second, .val (.long y3_0), .second, .val (.int x4_0), .val (.ref b1), .val (.long y2_0), .second, .val (.long y3_0), .second, .val (.int (((x4_0.toUInt32 >>> ((2 : Int32) &&& 31).toUInt32).toInt32) &&& (3 : Int32))), .val (.ref b11), .val (.int (0 : Int32))] [(.int (0 : Int32))]))
                  exfalso
                  exact absurd hc119_44 (by rw [own_eq4]; simp)
                · skip
                  refine own_step (fun t k => XS.ifNo X42.here hx rfl (hb hby at_119) rfl ((if0 _ _).trans (feq hc119_44).1) k) ?_
                  show own_Ends p.tables e below s _ _ _ (T42.setTop (mkF m 122 #[.val (.long y0_0), .second, .val (.long y1_0), .second, .val (.long y2_0), .second, .val (.long y3_0), .second, .val (.int x4_0), .val (.ref b1), .val (.long y2_0), .second, .val (.long y3_0), .second, .val (.int (((x4_0.toUInt32 >>> ((2 : Int32) &&& 31).toUInt32).toInt32) &&& (3 : Int32))), .val (.ref b11), .val (.int (0 : Int32))] []))
                  refine own_step (fun t k => XS.iconst X42.here hx rfl (hb hby at_122) k) ?_
                  show own_Ends p.tables e below s _ _ _ (T42.setTop (mkF m 123 #[.val (.long y0_0), .second, .val (.long y1_0), .second, .val (.long y2_0), .second, .val (.long y3_0), .second, .val (.int x4_0), .val (.ref b1), .val (.long y2_0), .second, .val (.long y3_0), .second, .val (.int (((x4_0.toUInt32 >>> ((2 : Int32) &&& 31).toUInt32).toInt32) &&& (3 : Int32))), .val (.ref b11), .val (.int (0 : Int32))] [(.int (1 : Int32))]))
                  refine own_step (fun t k => XS.goto X42.here hx rfl (pc0 := 123) (pc' := 127) rfl (hb hby at_123) (by decide) (by decide) k) ?_
                  show own_Ends p.tables e below s _ _ _ (T42.setTop (mkF m 127 #[.val (.long y0_0), .second, .val (.long y1_0), .second, .val (.long y2_0), .second, .val (.long y3_0), .second, .val (.int x4_0), .val (.ref b1), .val (.long y2_0), .second, .val (.long y3_0), .second, .val (.int (((x4_0.toUInt32 >>> ((2 : Int32) &&& 31).toUInt32).toInt32) &&& (3 : Int32))), .val (.ref b11), .val (.int (0 : Int32))] [(.int (1 : Int32))]))
                  exact own_retN X42 hx (t := .boolean) Bd.returns (by simp) (hb hby at_127) hnl (by rw [e42]; exact ⟨rfl, N43⟩) (by decide) (by decide)
              · skip
                refine own_step (fun t k => XS.icmpYes X39.here hx rfl (pc0 := 109) (pc' := 126) rfl (hb hby at_109) rfl (feq hc109_41).2 (by decide) (by decide) k) ?_
                show own_Ends p.tables e below s _ _ _ (T39.setTop (mkF m 126 #[.val (.long y0_0), .second, .val (.long y1_0), .second, .val (.long y2_0), .second, .val (.long y3_0), .second, .val (.int x4_0), .val (.ref b1), .val (.long y2_0), .second, .val (.long y3_0), .second, .val (.int (((x4_0.toUInt32 >>> ((2 : Int32) &&& 31).toUInt32).toInt32) &&& (3 : Int32))), .val (.ref b11), .val (.int (0 : Int32))] []))
                refine own_step (fun t k => XS.iconst X39.here hx rfl (hb hby at_126) k) ?_
                show own_Ends p.tables e below s _ _ _ (T39.setTop (mkF m 127 #[.val (.long y0_0), .second, .val (.long y1_0), .second, .val (.long y2_0), .second, .val (.long y3_0), .second, .val (.int x4_0), .val (.ref b1), .val (.long y2_0), .second, .val (.long y3_0), .second, .val (.int (((x4_0.toUInt32 >>> ((2 : Int32) &&& 31).toUInt32).toInt32) &&& (3 : Int32))), .val (.ref b11), .val (.int (0 : Int32))] [(.int (0 : Int32))]))
                exfalso
                exact hc109_41 (by rw [own_eq4]; exact if_neg (fun q => hc78_18 ((own_lc _ _).mpr q.2.symm)))
            · skip
              refine own_step (fun t k => XS.icmpYes X35.here hx rfl (pc0 := 97) (pc' := 126) rfl (hb hby at_97) rfl (feq hc97_38).2 (by decide) (by decide) k) ?_
              show own_Ends p.tables e below s _ _ _ (T35.setTop (mkF m 126 #[.val (.long y0_0), .second, .val (.long y1_0), .second, .val (.long y2_0), .second, .val (.long y3_0), .second, .val (.int x4_0), .val (.ref b1), .val (.long y2_0), .second, .val (.long y3_0), .second, .val (.int (((x4_0.toUInt32 >>> ((2 : Int32) &&& 31).toUInt32).toInt32) &&& (3 : Int32))), .val (.ref b11), .val (.int (0 : Int32))] []))
              refine own_step (fun t k => XS.iconst X35.here hx rfl (hb hby at_126) k) ?_
              show own_Ends p.tables e below s _ _ _ (T35.setTop (mkF m 127 #[.val (.long y0_0), .second, .val (.long y1_0), .second, .val (.long y2_0), .second, .val (.long y3_0), .second, .val (.int x4_0), .val (.ref b1), .val (.long y2_0), .second, .val (.long y3_0), .second, .val (.int (((x4_0.toUInt32 >>> ((2 : Int32) &&& 31).toUInt32).toInt32) &&& (3 : Int32))), .val (.ref b11), .val (.int (0 : Int32))] [(.int (0 : Int32))]))
              exfalso
              exact hc97_38 (by rw [own_eq4]; exact if_neg (fun q => hc78_18 ((own_lc _ _).mpr q.2)))
        · skip
          refine own_step (fun t k => XS.ifYes X14.here hx rfl (pc0 := 71) (pc' := 85) rfl (hb hby at_71) rfl ((if0 _ _).trans (feq hc71_17).2) (by decide) (by decide) k) ?_
          show own_Ends p.tables e below s _ _ _ (T14.setTop (mkF m 85 #[.val (.long y0_0), .second, .val (.long y1_0), .second, .val (.long y2_0), .second, .val (.long y3_0), .second, .val (.int x4_0), .val (.ref b1), .val (.long y2_0), .second, .val (.long y3_0), .second, .val (.int (((x4_0.toUInt32 >>> ((2 : Int32) &&& 31).toUInt32).toInt32) &&& (3 : Int32))), .val (.ref b11), .unset] []))
          refine own_step (fun t k => XS.iconst X14.here hx rfl (hb hby at_85) k) ?_
          show own_Ends p.tables e below s _ _ _ (T14.setTop (mkF m 86 #[.val (.long y0_0), .second, .val (.long y1_0), .second, .val (.long y2_0), .second, .val (.long y3_0), .second, .val (.int x4_0), .val (.ref b1), .val (.long y2_0), .second, .val (.long y3_0), .second, .val (.int (((x4_0.toUInt32 >>> ((2 : Int32) &&& 31).toUInt32).toInt32) &&& (3 : Int32))), .val (.ref b11), .unset] [(.int (0 : Int32))]))
          refine own_step (fun t k => XS.istore X14.here hx rfl (hb hby at_86) rfl (l' := #[.val (.long y0_0), .second, .val (.long y1_0), .second, .val (.long y2_0), .second, .val (.long y3_0), .second, .val (.int x4_0), .val (.ref b1), .val (.long y2_0), .second, .val (.long y3_0), .second, .val (.int (((x4_0.toUInt32 >>> ((2 : Int32) &&& 31).toUInt32).toInt32) &&& (3 : Int32))), .val (.ref b11), .val (.int (0 : Int32))]) rfl k) ?_
          show own_Ends p.tables e below s _ _ _ (T14.setTop (mkF m 88 #[.val (.long y0_0), .second, .val (.long y1_0), .second, .val (.long y2_0), .second, .val (.long y3_0), .second, .val (.int x4_0), .val (.ref b1), .val (.long y2_0), .second, .val (.long y3_0), .second, .val (.int (((x4_0.toUInt32 >>> ((2 : Int32) &&& 31).toUInt32).toInt32) &&& (3 : Int32))), .val (.ref b11), .val (.int (0 : Int32))] []))
          refine own_step (fun t k => XS.aload X14.here hx rfl (hb hby at_88) rfl rfl k) ?_
          show own_Ends p.tables e below s _ _ _ (T14.setTop (mkF m 90 #[.val (.long y0_0), .second, .val (.long y1_0), .second, .val (.long y2_0), .second, .val (.long y3_0), .second, .val (.int x4_0), .val (.ref b1), .val (.long y2_0), .second, .val (.long y3_0), .second, .val (.int (((x4_0.toUInt32 >>> ((2 : Int32) &&& 31).toUInt32).toInt32) &&& (3 : Int32))), .val (.ref b11), .val (.int (0 : Int32))] [(.ref b1)]))
          refine own_step (fun t k => XS.aload X14.here hx rfl (hb hby at_90) rfl rfl k) ?_
          show own_Ends p.tables e below s _ _ _ (T14.setTop (mkF m 92 #[.val (.long y0_0), .second, .val (.long y1_0), .second, .val (.long y2_0), .second, .val (.long y3_0), .second, .val (.int x4_0), .val (.ref b1), .val (.long y2_0), .second, .val (.long y3_0), .second, .val (.int (((x4_0.toUInt32 >>> ((2 : Int32) &&& 31).toUInt32).toInt32) &&& (3 : Int32))), .val (.ref b11), .val (.int (0 : Int32))] [(.ref b11), (.ref b1)]))
          have F45 : Fld Z T14.heap b1 "com/example/swanhall/swanhall/core/Cell" "x" "J" (.long y0_0) := ((p4_1.ext E11).keep K14q (ninS ne_b1_b11 nin0))
          have F46 : Fld Z T14.heap b1 "com/example/swanhall/swanhall/core/Cell" "y" "J" (.long y1_0) := ((p4_2.ext E11).keep K14q (ninS ne_b1_b11 nin0))
          have O47 : Old Z n0 T14.heap := (O13.keep K14q (allS g_b11 all0))
          have F49 : Exa Z T14.heap b1 "com/example/swanhall/swanhall/core/Cell" := ((p4_0.ext E11).keep K14q)
          obtain ⟨cq48, kq48, q48a, q48b, q48c⟩ := isOf hZ rfl F49
          obtain ⟨_, _, ⟨T48, L48, k48, n48⟩, -, X48, ⟨Lc48, hQ48, l48, y48, z48⟩, st48⟩ := X14.virtualBack hx (y := (⟨"com/example/swanhall/swanhall/core/Cell", "equals", "(Ljava/lang/Object;)Z"⟩ : MethodName)) (z := (⟨"com/example/swanhall/swanhall/core/Cell", "equals", "(Ljava/lang/Object;)Z"⟩ : MethodName)) hown (mvT hZ (hw _ (List.mem_of_getElem? (i := 18) rfl))) (mvT hZ (hw _ (List.mem_of_getElem? (i := 19) rfl))) (notFace_of_selects (args := #[]) (mvT hZ (hw _ (List.mem_of_getElem? (i := 21) rfl)))) (mvT hZ (hw _ (List.mem_of_getElem? (i := 21) rfl))) (mvT hZ (hw _ (List.mem_of_getElem? (i := 20) rfl))) (by decide) (backOf (W := 0) (rm4 l Z a0 hw [] b1 b11 y2_0 y0_0 y3_0 y1_0 T14.heap n0 O47 p14_0 p14_1 F45 p14_2 F46) hZ (hw _ (List.mem_of_getElem? (i := 22) rfl)) (hw _ (List.mem_of_getElem? (i := 2) rfl)) (by decide) (by decide)) q48a q48c (g := (mkF m 92 #[.val (.long y0_0), .second, .val (.long y1_0), .second, .val (.long y2_0), .second, .val (.long y3_0), .second, .val (.int x4_0), .val (.ref b1), .val (.long y2_0), .second, .val (.long y3_0), .second, .val (.int (((x4_0.toUInt32 >>> ((2 : Int32) &&& 31).toUInt32).toInt32) &&& (3 : Int32))), .val (.ref b11), .val (.int (0 : Int32))] [(.ref b11), (.ref b1)])) rfl (by rw [hml]; rfl) (Steps.refl _) (argsL := [(.ref b11)]) (rest := []) (lenOf pd_3 rfl) rfl (by show 2 * 0 + _ ≤ _; exact Nat.le_of_eq rfl) (hb hby at_92) (fun _ _ => ⟨rfl, rfl, (by decide : 2 + 0 ≤ _), (by decide : 4 + 0 ≤ _)⟩)
          dsimp only [Pt.U, Pt.locs, Pt.cells, Pt.slots] at X48 l48 y48 z48 st48 hQ48
          subst y48 z48
          obtain ⟨rfl, N48q, e48⟩ := hQ48
          refine own_step (fun t k => st48.trans k) ?_
          have N50 : Fr n0 L48 := by rw [l48]; exact Fr.app N15 N48q
          show own_Ends p.tables e below s _ _ _ (T48.setTop (mkF m 95 #[.val (.long y0_0), .second, .val (.long y1_0), .second, .val (.long y2_0), .second, .val (.long y3_0), .second, .val (.int x4_0), .val (.ref b1), .val (.long y2_0), .second, .val (.long y3_0), .second, .val (.int (((x4_0.toUInt32 >>> ((2 : Int32) &&& 31).toUInt32).toInt32) &&& (3 : Int32))), .val (.ref b11), .val (.int (0 : Int32))] [(.int (own_r4 y2_0 y0_0 y3_0 y1_0))]))
          refine own_step (fun t k => XS.iload X48.here hx rfl (hb hby at_95) rfl k) ?_
          show own_Ends p.tables e below s _ _ _ (T48.setTop (mkF m 97 #[.val (.long y0_0), .second, .val (.long y1_0), .second, .val (.long y2_0), .second, .val (.long y3_0), .second, .val (.int x4_0), .val (.ref b1), .val (.long y2_0), .second, .val (.long y3_0), .second, .val (.int (((x4_0.toUInt32 >>> ((2 : Int32) &&& 31).toUInt32).toInt32) &&& (3 : Int32))), .val (.ref b11), .val (.int (0 : Int32))] [(.int (0 : Int32)), (.int (own_r4 y2_0 y0_0 y3_0 y1_0))]))
          by_cases hc97_51 : (own_r4 y2_0 y0_0 y3_0 y1_0) = (0 : Int32)
          · skip
            refine own_step (fun t k => XS.icmpNo X48.here hx rfl (hb hby at_97) rfl (teq hc97_51).2 k) ?_
            show own_Ends p.tables e below s _ _ _ (T48.setTop (mkF m 100 #[.val (.long y0_0), .second, .val (.long y1_0), .second, .val (.long y2_0), .second, .val (.long y3_0), .second, .val (.int x4_0), .val (.ref b1), .val (.long y2_0), .second, .val (.long y3_0), .second, .val (.int (((x4_0.toUInt32 >>> ((2 : Int32) &&& 31).toUInt32).toInt32) &&& (3 : Int32))), .val (.ref b11), .val (.int (0 : Int32))] []))
            refine own_step (fun t k => XS.aload X48.here hx rfl (hb hby at_100) rfl rfl k) ?_
            show own_Ends p.tables e below s _ _ _ (T48.setTop (mkF m 102 #[.val (.long y0_0), .second, .val (.long y1_0), .second, .val (.long y2_0), .second, .val (.long y3_0), .second, .val (.int x4_0), .val (.ref b1), .val (.long y2_0), .second, .val (.long y3_0), .second, .val (.int (((x4_0.toUInt32 >>> ((2 : Int32) &&& 31).toUInt32).toInt32) &&& (3 : Int32))), .val (.ref b11), .val (.int (0 : Int32))] [(.ref b11)]))
            refine own_step (fun t k => XS.aload X48.here hx rfl (hb hby at_102) rfl rfl k) ?_
            show own_Ends p.tables e below s _ _ _ (T48.setTop (mkF m 104 #[.val (.long y0_0), .second, .val (.long y1_0), .second, .val (.long y2_0), .second, .val (.long y3_0), .second, .val (.int x4_0), .val (.ref b1), .val (.long y2_0), .second, .val (.long y3_0), .second, .val (.int (((x4_0.toUInt32 >>> ((2 : Int32) &&& 31).toUInt32).toInt32) &&& (3 : Int32))), .val (.ref b11), .val (.int (0 : Int32))] [(.ref b1), (.ref b11)]))
            obtain ⟨cq52, kq52, q52a, q52b, q52c⟩ := isOf hZ e48 p14_0
            obtain ⟨_, _, ⟨T52, L52, k52, n52⟩, -, X52, ⟨Lc52, hQ52, l52, y52, z52⟩, st52⟩ := X48.virtualBack hx (y := (⟨"com/example/swanhall/swanhall/core/Cell", "equals", "(Ljava/lang/Object;)Z"⟩ : MethodName)) (z := (⟨"com/example/swanhall/swanhall/core/Cell", "equals", "(Ljava/lang/Object;)Z"⟩ : MethodName)) hown (mvT hZ (hw _ (List.mem_of_getElem? (i := 18) rfl))) (mvT hZ (hw _ (List.mem_of_getElem? (i := 19) rfl))) (notFace_of_selects (args := #[]) (mvT hZ (hw _ (List.mem_of_getElem? (i := 21) rfl)))) (mvT hZ (hw _ (List.mem_of_getElem? (i := 21) rfl))) (mvT hZ (hw _ (List.mem_of_getElem? (i := 20) rfl))) (by decide) (backOf (W := 0) (rm4 l Z a0 hw [] b11 b1 y0_0 y2_0 y1_0 y3_0 T14.heap n0 O47 F49 F45 p14_1 F46 p14_2) hZ (hw _ (List.mem_of_getElem? (i := 22) rfl)) (hw _ (List.mem_of_getElem? (i := 2) rfl)) (by decide) (by decide)) q52a q52c (g := (mkF m 104 #[.val (.long y0_0), .second, .val (.long y1_0), .second, .val (.long y2_0), .second, .val (.long y3_0), .second, .val (.int x4_0), .val (.ref b1), .val (.long y2_0), .second, .val (.long y3_0), .second, .val (.int (((x4_0.toUInt32 >>> ((2 : Int32) &&& 31).toUInt32).toInt32) &&& (3 : Int32))), .val (.ref b11), .val (.int (0 : Int32))] [(.ref b1), (.ref b11)])) rfl (by rw [hml]; rfl) (Steps.refl _) (argsL := [(.ref b1)]) (rest := []) (lenOf pd_3 rfl) rfl (by show 2 * 0 + _ ≤ _; exact Nat.le_of_eq rfl) (hb hby at_104) (fun _ _ => ⟨rfl, e48, (by decide : 2 + 0 ≤ _), (by decide : 4 + 0 ≤ _)⟩)
            dsimp only [Pt.U, Pt.locs, Pt.cells, Pt.slots] at X52 l52 y52 z52 st52 hQ52
            subst y52 z52
            obtain ⟨rfl, N52q, e52⟩ := hQ52
            refine own_step (fun t k => st52.trans k) ?_
            have N53 : Fr n0 L52 := by rw [l52]; exact Fr.app N50 N52q
            show own_Ends p.tables e below s _ _ _ (T52.setTop (mkF m 107 #[.val (.long y0_0), .second, .val (.long y1_0), .second, .val (.long y2_0), .second, .val (.long y3_0), .second, .val (.int x4_0), .val (.ref b1), .val (.long y2_0), .second, .val (.long y3_0), .second, .val (.int (((x4_0.toUInt32 >>> ((2 : Int32) &&& 31).toUInt32).toInt32) &&& (3 : Int32))), .val (.ref b11), .val (.int (0 : Int32))] [(.int (own_r4 y0_0 y2_0 y1_0 y3_0))]))
            refine own_step (fun t k => XS.iload X52.here hx rfl (hb hby at_107) rfl k) ?_
            show own_Ends p.tables e below s _ _ _ (T52.setTop (mkF m 109 #[.val (.long y0_0), .second, .val (.long y1_0), .second, .val (.long y2_0), .second, .val (.long y3_0), .second, .val (.int x4_0), .val (.ref b1), .val (.long y2_0), .second, .val (.long y3_0), .second, .val (.int (((x4_0.toUInt32 >>> ((2 : Int32) &&& 31).toUInt32).toInt32) &&& (3 : Int32))), .val (.ref b11), .val (.int (0 : Int32))] [(.int (0 : Int32)), (.int (own_r4 y0_0 y2_0 y1_0 y3_0))]))
            by_cases hc109_54 : (own_r4 y0_0 y2_0 y1_0 y3_0) = (0 : Int32)
            · skip
              refine own_step (fun t k => XS.icmpNo X52.here hx rfl (hb hby at_109) rfl (teq hc109_54).2 k) ?_
              show own_Ends p.tables e below s _ _ _ (T52.setTop (mkF m 112 #[.val (.long y0_0), .second, .val (.long y1_0), .second, .val (.long y2_0), .second, .val (.long y3_0), .second, .val (.int x4_0), .val (.ref b1), .val (.long y2_0), .second, .val (.long y3_0), .second, .val (.int (((x4_0.toUInt32 >>> ((2 : Int32) &&& 31).toUInt32).toInt32) &&& (3 : Int32))), .val (.ref b11), .val (.int (0 : Int32))] []))
              refine own_step (fun t k => XS.aload X52.here hx rfl (hb hby at_112) rfl rfl k) ?_
              show own_Ends p.tables e below s _ _ _ (T52.setTop (mkF m 114 #[.val (.long y0_0), .second, .val (.long y1_0), .second, .val (.long y2_0), .second, .val (.long y3_0), .second, .val (.int x4_0), .val (.ref b1), .val (.long y2_0), .second, .val (.long y3_0), .second, .val (.int (((x4_0.toUInt32 >>> ((2 : Int32) &&& 31).toUInt32).toInt32) &&& (3 : Int32))), .val (.ref b11), .val (.int (0 : Int32))] [(.ref b1)]))
              refine own_step (fun t k => XS.aload X52.here hx rfl (hb hby at_114) rfl rfl k) ?_
              show own_Ends p.tables e below s _ _ _ (T52.setTop (mkF m 116 #[.val (.long y0_0), .second, .val (.long y1_0), .second, .val (.long y2_0), .second, .val (.long y3_0), .second, .val (.int x4_0), .val (.ref b1), .val (.long y2_0), .second, .val (.long y3_0), .second, .val (.int (((x4_0.toUInt32 >>> ((2 : Int32) &&& 31).toUInt32).toInt32) &&& (3 : Int32))), .val (.ref b11), .val (.int (0 : Int32))] [(.ref b1), (.ref b1)]))
              obtain ⟨cq55, kq55, q55a, q55b, q55c⟩ := isOf hZ e52 F49
              obtain ⟨_, _, ⟨T55, L55, k55, n55⟩, -, X55, ⟨Lc55, hQ55, l55, y55, z55⟩, st55⟩ := X52.virtualBack hx (y := (⟨"com/example/swanhall/swanhall/core/Cell", "equals", "(Ljava/lang/Object;)Z"⟩ : MethodName)) (z := (⟨"com/example/swanhall/swanhall/core/Cell", "equals", "(Ljava/lang/Object;)Z"⟩ : MethodName)) hown (mvT hZ (hw _ (List.mem_of_getElem? (i := 18) rfl))) (mvT hZ (hw _ (List.mem_of_getElem? (i := 19) rfl))) (notFace_of_selects (args := #[]) (mvT hZ (hw _ (List.mem_of_getElem? (i := 21) rfl)))) (mvT hZ (hw _ (List.mem_of_getElem? (i := 21) rfl))) (mvT hZ (hw _ (List.mem_of_getElem? (i := 20) rfl))) (by decide) (backOf (W := 0) (rm4 l Z a0 hw [] b1 b1 y0_0 y0_0 y1_0 y1_0 T14.heap n0 O47 F49 F45 F45 F46 F46) hZ (hw _ (List.mem_of_getElem? (i := 22) rfl)) (hw _ (List.mem_of_getElem? (i := 2) rfl)) (by decide) (by decide)) q55a q55c (g := (mkF m 116 #[.val (.long y0_0), .second, .val (.long y1_0), .second, .val (.long y2_0), .second, .val (.long y3_0), .second, .val (.int x4_0), .val (.ref b1), .val (.long y2_0), .second, .val (.long y3_0), .second, .val (.int (((x4_0.toUInt32 >>> ((2 : Int32) &&& 31).toUInt32).toInt32) &&& (3 : Int32))), .val (.ref b11), .val (.int (0 : Int32))] [(.ref b1), (.ref b1)])) rfl (by rw [hml]; rfl) (Steps.refl _) (argsL := [(.ref b1)]) (rest := []) (lenOf pd_3 rfl) rfl (by show 2 * 0 + _ ≤ _; exact Nat.le_of_eq rfl) (hb hby at_116) (fun _ _ => ⟨rfl, e52, (by decide : 2 + 0 ≤ _), (by decide : 4 + 0 ≤ _)⟩)
              dsimp only [Pt.U, Pt.locs, Pt.cells, Pt.slots] at X55 l55 y55 z55 st55 hQ55
              subst y55 z55
              obtain ⟨rfl, N55q, e55⟩ := hQ55
              refine own_step (fun t k => st55.trans k) ?_
              have N56 : Fr n0 L55 := by rw [l55]; exact Fr.app N53 N55q
              show own_Ends p.tables e below s _ _ _ (T55.setTop (mkF m 119 #[.val (.long y0_0), .second, .val (.long y1_0), .second, .val (.long y2_0), .second, .val (.long y3_0), .second, .val (.int x4_0), .val (.ref b1), .val (.long y2_0), .second, .val (.long y3_0), .second, .val (.int (((x4_0.toUInt32 >>> ((2 : Int32) &&& 31).toUInt32).toInt32) &&& (3 : Int32))), .val (.ref b11), .val (.int (0 : Int32))] [(.int (own_r4 y0_0 y0_0 y1_0 y1_0))]))
              by_cases hc119_57 : (own_r4 y0_0 y0_0 y1_0 y1_0) = (0 : Int32)
              · skip
                refine own_step (fun t k => XS.ifYes X55.here hx rfl (pc0 := 119) (pc' := 126) rfl (hb hby at_119) rfl ((if0 _ _).trans (teq hc119_57).1) (by decide) (by decide) k) ?_
                show own_Ends p.tables e below s _ _ _ (T55.setTop (mkF m 126 #[.val (.long y0_0), .second, .val (.long y1_0), .second, .val (.long y2_0), .second, .val (.long y3_0), .second, .val (.int x4_0), .val (.ref b1), .val (.long y2_0), .second, .val (.long y3_0), .second, .val (.int (((x4_0.toUInt32 >>> ((2 : Int32) &&& 31).toUInt32).toInt32) &&& (3 : Int32))), .val (.ref b11), .val (.int (0 : Int32))] []))
                refine own_step (fun t k => XS.iconst X55.here hx rfl (hb hby at_126) k) ?_
                show own_Ends p.tables e below s _ _ _ (T55.setTop (mkF m 127 #[.val (.long y0_0), .second, .val (.long y1_0), .second, .val (.long y2_0), .second, .val (.long y3_0), .second, .val (.int x4_0), .val (.ref b1), .val (.long y2_0), .second, .val (.long y3_0), .second, .val (.int (((x4_0.toUInt32 >>> ((2 : Int32) &&& 31).toUInt32).toInt32) &&& (3 : Int32))), .val (.ref b11), .val (.int (0 : Int32))] [(.int (0 : Int32))]))
                exfalso
                exact absurd hc119_57 (by rw [own_eq4]; simp)
              · skip
                refine own_step (fun t k => XS.ifNo X55.here hx rfl (hb hby at_119) rfl ((if0 _ _).trans (feq hc119_57).1) k) ?_
                show own_Ends p.tables e below s _ _ _ (T55.setTop (mkF m 122 #[.val (.long y0_0), .second, .val (.long y1_0), .second, .val (.long y2_0), .second, .val (.long y3_0), .second, .val (.int x4_0), .val (.ref b1), .val (.long y2_0), .second, .val (.long y3_0), .second, .val (.int (((x4_0.toUInt32 >>> ((2 : Int32) &&& 31).toUInt32).toInt32) &&& (3 : Int32))), .val (.ref b11), .val (.int (0 : Int32))] []))
                refine own_step (fun t k => XS.iconst X55.here hx rfl (hb hby at_122) k) ?_
                show own_Ends p.tables e below s _ _ _ (T55.setTop (mkF m 123 #[.val (.long y0_0), .second, .val (.long y1_0), .second, .val (.long y2_0), .second, .val (.long y3_0), .second, .val (.int x4_0), .val (.ref b1), .val (.long y2_0), .second, .val (.long y3_0), .second, .val (.int (((x4_0.toUInt32 >>> ((2 : Int32) &&& 31).toUInt32).toInt32) &&& (3 : Int32))), .val (.ref b11), .val (.int (0 : Int32))] [(.int (1 : Int32))]))
                refine own_step (fun t k => XS.goto X55.here hx rfl (pc0 := 123) (pc' := 127) rfl (hb hby at_123) (by decide) (by decide) k) ?_
                show own_Ends p.tables e below s _ _ _ (T55.setTop (mkF m 127 #[.val (.long y0_0), .second, .val (.long y1_0), .second, .val (.long y2_0), .second, .val (.long y3_0), .second, .val (.int x4_0), .val (.ref b1), .val (.long y2_0), .second, .val (.long y3_0), .second, .val (.int (((x4_0.toUInt32 >>> ((2 : Int32) &&& 31).toUInt32).toInt32) &&& (3 : Int32))), .val (.ref b11), .val (.int (0 : Int32))] [(.int (1 : Int32))]))
                exact own_retN X55 hx (t := .boolean) Bd.returns (by simp) (hb hby at_127) hnl (by rw [e55]; exact ⟨rfl, N56⟩) (by decide) (by decide)
            · skip
              refine own_step (fun t k => XS.icmpYes X52.here hx rfl (pc0 := 109) (pc' := 126) rfl (hb hby at_109) rfl (feq hc109_54).2 (by decide) (by decide) k) ?_
              show own_Ends p.tables e below s _ _ _ (T52.setTop (mkF m 126 #[.val (.long y0_0), .second, .val (.long y1_0), .second, .val (.long y2_0), .second, .val (.long y3_0), .second, .val (.int x4_0), .val (.ref b1), .val (.long y2_0), .second, .val (.long y3_0), .second, .val (.int (((x4_0.toUInt32 >>> ((2 : Int32) &&& 31).toUInt32).toInt32) &&& (3 : Int32))), .val (.ref b11), .val (.int (0 : Int32))] []))
              refine own_step (fun t k => XS.iconst X52.here hx rfl (hb hby at_126) k) ?_
              show own_Ends p.tables e below s _ _ _ (T52.setTop (mkF m 127 #[.val (.long y0_0), .second, .val (.long y1_0), .second, .val (.long y2_0), .second, .val (.long y3_0), .second, .val (.int x4_0), .val (.ref b1), .val (.long y2_0), .second, .val (.long y3_0), .second, .val (.int (((x4_0.toUInt32 >>> ((2 : Int32) &&& 31).toUInt32).toInt32) &&& (3 : Int32))), .val (.ref b11), .val (.int (0 : Int32))] [(.int (0 : Int32))]))
              exfalso
              exact hc109_54 (by rw [own_eq4]; exact if_neg (fun q => hc71_17 ((own_lc _ _).mpr q.1.symm)))
          · skip
            refine own_step (fun t k => XS.icmpYes X48.here hx rfl (pc0 := 97) (pc' := 126) rfl (hb hby at_97) rfl (feq hc97_51).2 (by decide) (by decide) k) ?_
            show own_Ends p.tables e below s _ _ _ (T48.setTop (mkF m 126 #[.val (.long y0_0), .second, .val (.long y1_0), .second, .val (.long y2_0), .second, .val (.long y3_0), .second, .val (.int x4_0), .val (.ref b1), .val (.long y2_0), .second, .val (.long y3_0), .second, .val (.int (((x4_0.toUInt32 >>> ((2 : Int32) &&& 31).toUInt32).toInt32) &&& (3 : Int32))), .val (.ref b11), .val (.int (0 : Int32))] []))
            refine own_step (fun t k => XS.iconst X48.here hx rfl (hb hby at_126) k) ?_
            show own_Ends p.tables e below s _ _ _ (T48.setTop (mkF m 127 #[.val (.long y0_0), .second, .val (.long y1_0), .second, .val (.long y2_0), .second, .val (.long y3_0), .second, .val (.int x4_0), .val (.ref b1), .val (.long y2_0), .second, .val (.long y3_0), .second, .val (.int (((x4_0.toUInt32 >>> ((2 : Int32) &&& 31).toUInt32).toInt32) &&& (3 : Int32))), .val (.ref b11), .val (.int (0 : Int32))] [(.int (0 : Int32))]))
            exfalso
            exact hc97_51 (by rw [own_eq4]; exact if_neg (fun q => hc71_17 ((own_lc _ _).mpr q.1)))
      · skip
        refine own_step (fun t k => XS.ifYes X4.here hx rfl (pc0 := 51) (pc' := 128) rfl (hb hby at_51) rfl ((if0 _ _).trans (feq hc51_9).2) (by decide) (by decide) k) ?_
        show own_Ends p.tables e below s _ _ _ (T4.setTop (mkF m 128 #[.val (.long y0_0), .second, .val (.long y1_0), .second, .val (.long y2_0), .second, .val (.long y3_0), .second, .val (.int x4_0), .val (.ref b1), .val (.long y2_0), .second, .val (.long y3_0), .second, .val (.int (((x4_0.toUInt32 >>> ((2 : Int32) &&& 31).toUInt32).toInt32) &&& (3 : Int32))), .unset, .unset] []))
        refine own_step (fun t k => XS.iload X4.here hx rfl (hb hby at_128) rfl k) ?_
        show own_Ends p.tables e below s _ _ _ (T4.setTop (mkF m 130 #[.val (.long y0_0), .second, .val (.long y1_0), .second, .val (.long y2_0), .second, .val (.long y3_0), .second, .val (.int x4_0), .val (.ref b1), .val (.long y2_0), .second, .val (.long y3_0), .second, .val (.int (((x4_0.toUInt32 >>> ((2 : Int32) &&& 31).toUInt32).toInt32) &&& (3 : Int32))), .unset, .unset] [(.int (((x4_0.toUInt32 >>> ((2 : Int32) &&& 31).toUInt32).toInt32) &&& (3 : Int32)))]))
        refine own_step (fun t k => XS.iconst X4.here hx rfl (hb hby at_130) k) ?_
        show own_Ends p.tables e below s _ _ _ (T4.setTop (mkF m 131 #[.val (.long y0_0), .second, .val (.long y1_0), .second, .val (.long y2_0), .second, .val (.long y3_0), .second, .val (.int x4_0), .val (.ref b1), .val (.long y2_0), .second, .val (.long y3_0), .second, .val (.int (((x4_0.toUInt32 >>> ((2 : Int32) &&& 31).toUInt32).toInt32) &&& (3 : Int32))), .unset, .unset] [(.int (1 : Int32)), (.int (((x4_0.toUInt32 >>> ((2 : Int32) &&& 31).toUInt32).toInt32) &&& (3 : Int32)))]))
        by_cases hc131_58 : (((x4_0.toUInt32 >>> ((2 : Int32) &&& 31).toUInt32).toInt32) &&& (3 : Int32)) = (1 : Int32)
        · skip
          refine own_step (fun t k => XS.icmpNo X4.here hx rfl (hb hby at_131) rfl (teq hc131_58).2 k) ?_
          show own_Ends p.tables e below s _ _ _ (T4.setTop (mkF m 134 #[.val (.long y0_0), .second, .val (.long y1_0), .second, .val (.long y2_0), .second, .val (.long y3_0), .second, .val (.int x4_0), .val (.ref b1), .val (.long y2_0), .second, .val (.long y3_0), .second, .val (.int (((x4_0.toUInt32 >>> ((2 : Int32) &&& 31).toUInt32).toInt32) &&& (3 : Int32))), .unset, .unset] []))
          refine own_step (fun t k => XS.aload X4.here hx rfl (hb hby at_134) rfl rfl k) ?_
          show own_Ends p.tables e below s _ _ _ (T4.setTop (mkF m 136 #[.val (.long y0_0), .second, .val (.long y1_0), .second, .val (.long y2_0), .second, .val (.long y3_0), .second, .val (.int x4_0), .val (.ref b1), .val (.long y2_0), .second, .val (.long y3_0), .second, .val (.int (((x4_0.toUInt32 >>> ((2 : Int32) &&& 31).toUInt32).toInt32) &&& (3 : Int32))), .unset, .unset] [(.ref b1)]))
          refine own_step (fun t k => XS.aconstNull X4.here hx rfl (hb hby at_136) k) ?_
          show own_Ends p.tables e below s _ _ _ (T4.setTop (mkF m 137 #[.val (.long y0_0), .second, .val (.long y1_0), .second, .val (.long y2_0), .second, .val (.long y3_0), .second, .val (.int x4_0), .val (.ref b1), .val (.long y2_0), .second, .val (.long y3_0), .second, .val (.int (((x4_0.toUInt32 >>> ((2 : Int32) &&& 31).toUInt32).toInt32) &&& (3 : Int32))), .unset, .unset] [.null, (.ref b1)]))
          have O59 : Old Z n0 T4.heap := (O3.keep K4q (allS g_b1 all0))
          obtain ⟨cq60, kq60, q60a, q60b, q60c⟩ := isOf hZ rfl p4_0
          obtain ⟨_, _, ⟨T60, L60, k60, n60⟩, -, X60, ⟨Lc60, hQ60, l60, y60, z60⟩, st60⟩ := X4.virtualBack hx (y := (⟨"com/example/swanhall/swanhall/core/Cell", "equals", "(Ljava/lang/Object;)Z"⟩ : MethodName)) (z := (⟨"com/example/swanhall/swanhall/core/Cell", "equals", "(Ljava/lang/Object;)Z"⟩ : MethodName)) hown (mvT hZ (hw _ (List.mem_of_getElem? (i := 18) rfl))) (mvT hZ (hw _ (List.mem_of_getElem? (i := 19) rfl))) (notFace_of_selects (args := #[]) (mvT hZ (hw _ (List.mem_of_getElem? (i := 21) rfl)))) (mvT hZ (hw _ (List.mem_of_getElem? (i := 21) rfl))) (mvT hZ (hw _ (List.mem_of_getElem? (i := 20) rfl))) (by decide) (backOf (W := 0) (rm4n l Z a0 hw [] b1 T4.heap n0 O59 ) hZ (hw _ (List.mem_of_getElem? (i := 22) rfl)) (hw _ (List.mem_of_getElem? (i := 2) rfl)) (by decide) (by decide)) q60a q60c (g := (mkF m 137 #[.val (.long y0_0), .second, .val (.long y1_0), .second, .val (.long y2_0), .second, .val (.long y3_0), .second, .val (.int x4_0), .val (.ref b1), .val (.long y2_0), .second, .val (.long y3_0), .second, .val (.int (((x4_0.toUInt32 >>> ((2 : Int32) &&& 31).toUInt32).toInt32) &&& (3 : Int32))), .unset, .unset] [.null, (.ref b1)])) rfl (by rw [hml]; rfl) (Steps.refl _) (argsL := [.null]) (rest := []) (lenOf pd_3 rfl) rfl (by show 2 * 0 + _ ≤ _; exact Nat.le_of_eq rfl) (hb hby at_137) (fun _ _ => ⟨rfl, rfl, (by decide : 1 + 0 ≤ _), (by decide : 2 + 0 ≤ _)⟩)
          dsimp only [Pt.U, Pt.locs, Pt.cells, Pt.slots] at X60 l60 y60 z60 st60 hQ60
          subst y60 z60
          obtain ⟨rfl, N60q, e60⟩ := hQ60
          refine own_step (fun t k => st60.trans k) ?_
          have N61 : Fr n0 L60 := by rw [l60]; exact Fr.app N5 N60q
          show own_Ends p.tables e below s _ _ _ (T60.setTop (mkF m 140 #[.val (.long y0_0), .second, .val (.long y1_0), .second, .val (.long y2_0), .second, .val (.long y3_0), .second, .val (.int x4_0), .val (.ref b1), .val (.long y2_0), .second, .val (.long y3_0), .second, .val (.int (((x4_0.toUInt32 >>> ((2 : Int32) &&& 31).toUInt32).toInt32) &&& (3 : Int32))), .unset, .unset] [(.int (0 : Int32))]))
          refine own_step (fun t k => XS.ifNo X60.here hx rfl (hb hby at_140) rfl ((if0 _ _).trans (teq (by decide : (0 : Int32) = (0 : Int32))).2) k) ?_
          show own_Ends p.tables e below s _ _ _ (T60.setTop (mkF m 143 #[.val (.long y0_0), .second, .val (.long y1_0), .second, .val (.long y2_0), .second, .val (.long y3_0), .second, .val (.int x4_0), .val (.ref b1), .val (.long y2_0), .second, .val (.long y3_0), .second, .val (.int (((x4_0.toUInt32 >>> ((2 : Int32) &&& 31).toUInt32).toInt32) &&& (3 : Int32))), .unset, .unset] []))
          refine own_step (fun t k => XS.iconst X60.here hx rfl (hb hby at_143) k) ?_
          show own_Ends p.tables e below s _ _ _ (T60.setTop (mkF m 144 #[.val (.long y0_0), .second, .val (.long y1_0), .second, .val (.long y2_0), .second, .val (.long y3_0), .second, .val (.int x4_0), .val (.ref b1), .val (.long y2_0), .second, .val (.long y3_0), .second, .val (.int (((x4_0.toUInt32 >>> ((2 : Int32) &&& 31).toUInt32).toInt32) &&& (3 : Int32))), .unset, .unset] [(.int (1 : Int32))]))
          refine own_step (fun t k => XS.goto X60.here hx rfl (pc0 := 144) (pc' := 148) rfl (hb hby at_144) (by decide) (by decide) k) ?_
          show own_Ends p.tables e below s _ _ _ (T60.setTop (mkF m 148 #[.val (.long y0_0), .second, .val (.long y1_0), .second, .val (.long y2_0), .second, .val (.long y3_0), .second, .val (.int x4_0), .val (.ref b1), .val (.long y2_0), .second, .val (.long y3_0), .second, .val (.int (((x4_0.toUInt32 >>> ((2 : Int32) &&& 31).toUInt32).toInt32) &&& (3 : Int32))), .unset, .unset] [(.int (1 : Int32))]))
          exact own_retN X60 hx (t := .boolean) Bd.returns (by simp) (hb hby at_148) hnl (by rw [e60]; exact ⟨rfl, N61⟩) (by decide) (by decide)
        · skip
          refine own_step (fun t k => XS.icmpYes X4.here hx rfl (pc0 := 131) (pc' := 149) rfl (hb hby at_131) rfl (feq hc131_58).2 (by decide) (by decide) k) ?_
          show own_Ends p.tables e below s _ _ _ (T4.setTop (mkF m 149 #[.val (.long y0_0), .second, .val (.long y1_0), .second, .val (.long y2_0), .second, .val (.long y3_0), .second, .val (.int x4_0), .val (.ref b1), .val (.long y2_0), .second, .val (.long y3_0), .second, .val (.int (((x4_0.toUInt32 >>> ((2 : Int32) &&& 31).toUInt32).toInt32) &&& (3 : Int32))), .unset, .unset] []))
          refine own_step (fun t k => XS.iload X4.here hx rfl (hb hby at_149) rfl k) ?_
          show own_Ends p.tables e below s _ _ _ (T4.setTop (mkF m 151 #[.val (.long y0_0), .second, .val (.long y1_0), .second, .val (.long y2_0), .second, .val (.long y3_0), .second, .val (.int x4_0), .val (.ref b1), .val (.long y2_0), .second, .val (.long y3_0), .second, .val (.int (((x4_0.toUInt32 >>> ((2 : Int32) &&& 31).toUInt32).toInt32) &&& (3 : Int32))), .unset, .unset] [(.int (((x4_0.toUInt32 >>> ((2 : Int32) &&& 31).toUInt32).toInt32) &&& (3 : Int32)))]))
          refine own_step (fun t k => XS.iconst X4.here hx rfl (hb hby at_151) k) ?_
          show own_Ends p.tables e below s _ _ _ (T4.setTop (mkF m 152 #[.val (.long y0_0), .second, .val (.long y1_0), .second, .val (.long y2_0), .second, .val (.long y3_0), .second, .val (.int x4_0), .val (.ref b1), .val (.long y2_0), .second, .val (.long y3_0), .second, .val (.int (((x4_0.toUInt32 >>> ((2 : Int32) &&& 31).toUInt32).toInt32) &&& (3 : Int32))), .unset, .unset] [(.int (2 : Int32)), (.int (((x4_0.toUInt32 >>> ((2 : Int32) &&& 31).toUInt32).toInt32) &&& (3 : Int32)))]))
          by_cases hc152_62 : (((x4_0.toUInt32 >>> ((2 : Int32) &&& 31).toUInt32).toInt32) &&& (3 : Int32)) = (2 : Int32)
          · skip
            refine own_step (fun t k => XS.icmpNo X4.here hx rfl (hb hby at_152) rfl (teq hc152_62).2 k) ?_
            show own_Ends p.tables e below s _ _ _ (T4.setTop (mkF m 155 #[.val (.long y0_0), .second, .val (.long y1_0), .second, .val (.long y2_0), .second, .val (.long y3_0), .second, .val (.int x4_0), .val (.ref b1), .val (.long y2_0), .second, .val (.long y3_0), .second, .val (.int (((x4_0.toUInt32 >>> ((2 : Int32) &&& 31).toUInt32).toInt32) &&& (3 : Int32))), .unset, .unset] []))
            refine own_step (fun t k => XS.aload X4.here hx rfl (hb hby at_155) rfl rfl k) ?_
            show own_Ends p.tables e below s _ _ _ (T4.setTop (mkF m 157 #[.val (.long y0_0), .second, .val (.long y1_0), .second, .val (.long y2_0), .second, .val (.long y3_0), .second, .val (.int x4_0), .val (.ref b1), .val (.long y2_0), .second, .val (.long y3_0), .second, .val (.int (((x4_0.toUInt32 >>> ((2 : Int32) &&& 31).toUInt32).toInt32) &&& (3 : Int32))), .unset, .unset] [(.ref b1)]))
            refine own_step (fun t k => XS.lloadN X4.here hx rfl (hb hby at_157) rfl k) ?_
            show own_Ends p.tables e below s _ _ _ (T4.setTop (mkF m 158 #[.val (.long y0_0), .second, .val (.long y1_0), .second, .val (.long y2_0), .second, .val (.long y3_0), .second, .val (.int x4_0), .val (.ref b1), .val (.long y2_0), .second, .val (.long y3_0), .second, .val (.int (((x4_0.toUInt32 >>> ((2 : Int32) &&& 31).toUInt32).toInt32) &&& (3 : Int32))), .unset, .unset] [(.long y0_0), (.ref b1)]))
            have O63 : Old Z n0 T4.heap := (O3.keep K4q (allS g_b1 all0))
            obtain ⟨_, _, ⟨T64, L64, k64, n64⟩, -, X64, ⟨Lc64, hQ64, l64, y64, z64⟩, st64⟩ := Jvm.LawKit.callS X4 hx (y := (⟨"java/lang/Long", "valueOf", "(J)Ljava/lang/Long;"⟩ : MethodName)) hown (mvT hZ (hw _ (List.mem_of_getElem? (i := 56) rfl))) (mvT hZ (hw _ (List.mem_of_getElem? (i := 57) rfl))) (mvT hZ (hw _ (List.mem_of_getElem? (i := 58) rfl))) (mvT hZ (hw _ (List.mem_of_getElem? (i := 59) rfl))) (by decide) (backOf (W := 1) (rm10 l Z a0 hw [] w_cache clC y0_0 T4.heap n0 O63 BXA BXS BXB S_cache) hZ (hw _ (List.mem_of_getElem? (i := 59) rfl)) (hw _ (List.mem_of_getElem? (i := 58) rfl)) (by decide) (by decide)) (g := (mkF m 158 #[.val (.long y0_0), .second, .val (.long y1_0), .second, .val (.long y2_0), .second, .val (.long y3_0), .second, .val (.int x4_0), .val (.ref b1), .val (.long y2_0), .second, .val (.long y3_0), .second, .val (.int (((x4_0.toUInt32 >>> ((2 : Int32) &&& 31).toUInt32).toInt32) &&& (3 : Int32))), .unset, .unset] [(.long y0_0), (.ref b1)])) rfl (by rw [hml]; rfl) (argsL := [(.long y0_0)]) (rest := [(.ref b1)]) (lenOf pd_4 rfl) rfl (by show 2 * 0 + _ ≤ _; exact Nat.le_of_eq rfl) (hb hby at_158) (fun _ _ => ⟨rfl, rfl, (by decide : 1 + 1 ≤ _), (by decide : 2 + 1 ≤ _)⟩)
            dsimp only [Pt.U, Pt.locs, Pt.cells, Pt.slots] at X64 l64 y64 z64 st64 hQ64
            subst y64 z64
            obtain ⟨rL_64, rfl, N64q, K64q, p64_0⟩ := hQ64
            refine own_step (fun t k => st64 _ k) ?_
            have N65 : Fr n0 L64 := by rw [l64]; exact Fr.app N5 N64q
            have K66 : Keep h0 T64.heap [] := K6.trans K64q all0
            show own_Ends p.tables e below s _ _ _ (T64.setTop (mkF m 161 #[.val (.long y0_0), .second, .val (.long y1_0), .second, .val (.long y2_0), .second, .val (.long y3_0), .second, .val (.int x4_0), .val (.ref b1), .val (.long y2_0), .second, .val (.long y3_0), .second, .val (.int (((x4_0.toUInt32 >>> ((2 : Int32) &&& 31).toUInt32).toInt32) &&& (3 : Int32))), .unset, .unset] [(.ref rL_64), (.ref b1)]))
            have O67 : Old Z n0 T64.heap := (O63.keep K64q all0)
            have F69 : Exa Z T64.heap b1 "com/example/swanhall/swanhall/core/Cell" := (p4_0.keep K64q)
            obtain ⟨cq68, kq68, q68a, q68b, q68c⟩ := isOf hZ rfl F69
            obtain ⟨_, _, ⟨T68, L68, k68, n68⟩, -, X68, ⟨Lc68, hQ68, l68, y68, z68⟩, st68⟩ := X64.virtualBack hx (y := (⟨"com/example/swanhall/swanhall/core/Cell", "equals", "(Ljava/lang/Object;)Z"⟩ : MethodName)) (z := (⟨"com/example/swanhall/swanhall/core/Cell", "equals", "(Ljava/lang/Object;)Z"⟩ : MethodName)) hown (mvT hZ (hw _ (List.mem_of_getElem? (i := 18) rfl))) (mvT hZ (hw _ (List.mem_of_getElem? (i := 19) rfl))) (notFace_of_selects (args := #[]) (mvT hZ (hw _ (List.mem_of_getElem? (i := 21) rfl)))) (mvT hZ (hw _ (List.mem_of_getElem? (i := 21) rfl))) (mvT hZ (hw _ (List.mem_of_getElem? (i := 20) rfl))) (by decide) (backOf (W := 0) (rm4l l Z a0 hw [] b1 rL_64 T64.heap n0 O67 p64_0) hZ (hw _ (List.mem_of_getElem? (i := 22) rfl)) (hw _ (List.mem_of_getElem? (i := 2) rfl)) (by decide) (by decide)) q68a q68c (g := (mkF m 161 #[.val (.long y0_0), .second, .val (.long y1_0), .second, .val (.long y2_0), .second, .val (.long y3_0), .second, .val (.int x4_0), .val (.ref b1), .val (.long y2_0), .second, .val (.long y3_0), .second, .val (.int (((x4_0.toUInt32 >>> ((2 : Int32) &&& 31).toUInt32).toInt32) &&& (3 : Int32))), .unset, .unset] [(.ref rL_64), (.ref b1)])) rfl (by rw [hml]; rfl) (Steps.refl _) (argsL := [(.ref rL_64)]) (rest := []) (lenOf pd_3 rfl) rfl (by show 2 * 0 + _ ≤ _; exact Nat.le_of_eq rfl) (hb hby at_161) (fun _ _ => ⟨rfl, rfl, (by decide : 2 + 0 ≤ _), (by decide : 3 + 0 ≤ _)⟩)
            dsimp only [Pt.U, Pt.locs, Pt.cells, Pt.slots] at X68 l68 y68 z68 st68 hQ68
            subst y68 z68
            obtain ⟨rfl, N68q, e68⟩ := hQ68
            refine own_step (fun t k => st68.trans k) ?_
            have N70 : Fr n0 L68 := by rw [l68]; exact Fr.app N65 N68q
            show own_Ends p.tables e below s _ _ _ (T68.setTop (mkF m 164 #[.val (.long y0_0), .second, .val (.long y1_0), .second, .val (.long y2_0), .second, .val (.long y3_0), .second, .val (.int x4_0), .val (.ref b1), .val (.long y2_0), .second, .val (.long y3_0), .second, .val (.int (((x4_0.toUInt32 >>> ((2 : Int32) &&& 31).toUInt32).toInt32) &&& (3 : Int32))), .unset, .unset] [(.int (0 : Int32))]))
            refine own_step (fun t k => XS.ifNo X68.here hx rfl (hb hby at_164) rfl ((if0 _ _).trans (teq (by decide : (0 : Int32) = (0 : Int32))).2) k) ?_
            show own_Ends p.tables e below s _ _ _ (T68.setTop (mkF m 167 #[.val (.long y0_0), .second, .val (.long y1_0), .second, .val (.long y2_0), .second, .val (.long y3_0), .second, .val (.int x4_0), .val (.ref b1), .val (.long y2_0), .second, .val (.long y3_0), .second, .val (.int (((x4_0.toUInt32 >>> ((2 : Int32) &&& 31).toUInt32).toInt32) &&& (3 : Int32))), .unset, .unset] []))
            refine own_step (fun t k => XS.iconst X68.here hx rfl (hb hby at_167) k) ?_
            show own_Ends p.tables e below s _ _ _ (T68.setTop (mkF m 168 #[.val (.long y0_0), .second, .val (.long y1_0), .second, .val (.long y2_0), .second, .val (.long y3_0), .second, .val (.int x4_0), .val (.ref b1), .val (.long y2_0), .second, .val (.long y3_0), .second, .val (.int (((x4_0.toUInt32 >>> ((2 : Int32) &&& 31).toUInt32).toInt32) &&& (3 : Int32))), .unset, .unset] [(.int (1 : Int32))]))
            refine own_step (fun t k => XS.goto X68.here hx rfl (pc0 := 168) (pc' := 172) rfl (hb hby at_168) (by decide) (by decide) k) ?_
            show own_Ends p.tables e below s _ _ _ (T68.setTop (mkF m 172 #[.val (.long y0_0), .second, .val (.long y1_0), .second, .val (.long y2_0), .second, .val (.long y3_0), .second, .val (.int x4_0), .val (.ref b1), .val (.long y2_0), .second, .val (.long y3_0), .second, .val (.int (((x4_0.toUInt32 >>> ((2 : Int32) &&& 31).toUInt32).toInt32) &&& (3 : Int32))), .unset, .unset] [(.int (1 : Int32))]))
            exact own_retN X68 hx (t := .boolean) Bd.returns (by simp) (hb hby at_172) hnl (by rw [e68]; exact ⟨rfl, N70⟩) (by decide) (by decide)
          · skip
            refine own_step (fun t k => XS.icmpYes X4.here hx rfl (pc0 := 152) (pc' := 173) rfl (hb hby at_152) rfl (feq hc152_62).2 (by decide) (by decide) k) ?_
            show own_Ends p.tables e below s _ _ _ (T4.setTop (mkF m 173 #[.val (.long y0_0), .second, .val (.long y1_0), .second, .val (.long y2_0), .second, .val (.long y3_0), .second, .val (.int x4_0), .val (.ref b1), .val (.long y2_0), .second, .val (.long y3_0), .second, .val (.int (((x4_0.toUInt32 >>> ((2 : Int32) &&& 31).toUInt32).toInt32) &&& (3 : Int32))), .unset, .unset] []))
            refine own_step (fun t k => XS.iconst X4.here hx rfl (hb hby at_173) k) ?_
            show own_Ends p.tables e below s _ _ _ (T4.setTop (mkF m 174 #[.val (.long y0_0), .second, .val (.long y1_0), .second, .val (.long y2_0), .second, .val (.long y3_0), .second, .val (.int x4_0), .val (.ref b1), .val (.long y2_0), .second, .val (.long y3_0), .second, .val (.int (((x4_0.toUInt32 >>> ((2 : Int32) &&& 31).toUInt32).toInt32) &&& (3 : Int32))), .unset, .unset] [(.int (1 : Int32))]))
            have O71 : Old Z n0 T4.heap := (O3.keep K4q (allS g_b1 all0))
            obtain ⟨T72, h72, k72, X72, e72, E72, A72, st72⟩ := newP X4 hx hZ (hw _ (List.mem_of_getElem? (i := 25) rfl)) rfl (g := (mkF m 174 #[.val (.long y0_0), .second, .val (.long y1_0), .second, .val (.long y2_0), .second, .val (.long y3_0), .second, .val (.int x4_0), .val (.ref b1), .val (.long y2_0), .second, .val (.long y3_0), .second, .val (.int (((x4_0.toUInt32 >>> ((2 : Int32) &&& 31).toUInt32).toInt32) &&& (3 : Int32))), .unset, .unset] [(.int (1 : Int32))])) rfl (hb hby at_174) rfl (by decide) (cap := 1) (by decide) (by decide) (by decide) (by decide)
            obtain ⟨b72, g72⟩ : ∃ z, z = T4.heap.size := ⟨_, rfl⟩
            rw [← g72] at A72 st72
            have g_b72 : n0 ≤ b72 := Nat.le_trans (Nat.le_trans (Nat.le_of_eq O71.1.symm) O71.2.1) (Nat.le_of_eq g72.symm)
            have sz_b72 : h0.size ≤ b72 := Nat.le_trans K6.1 (Nat.le_of_eq g72.symm)
            have ne_b1_b72 : b1 ≠ b72 := Nat.ne_of_lt (Nat.lt_of_lt_of_le p4_0.lt (Nat.le_of_eq g72.symm))
            have V72 : Arv Z h72 b72 k72 .char (1 : Int32) [] (.int (0 : Int32)) := Arv.new A72 (by decide)
            have V72p : Arv Z h72 b72 k72 .char (1 : Int32) [(.int (0 : Int32))] (.int (0 : Int32)) := V72.pad (pad_rep [] (.int (0 : Int32)) 1)
            refine own_step (fun t k => st72 _ k) ?_
            have K73 : Keep h0 h72 [] := K6.ext E72
            show own_Ends p.tables e below s _ _ _ (T72.setTop (mkF m 176 #[.val (.long y0_0), .second, .val (.long y1_0), .second, .val (.long y2_0), .second, .val (.long y3_0), .second, .val (.int x4_0), .val (.ref b1), .val (.long y2_0), .second, .val (.long y3_0), .second, .val (.int (((x4_0.toUInt32 >>> ((2 : Int32) &&& 31).toUInt32).toInt32) &&& (3 : Int32))), .unset, .unset] [(.ref b72)]))
            refine own_step (fun t k => XS.astore X72.here hx rfl (hb hby at_176) rfl rfl (l' := #[.val (.long y0_0), .second, .val (.long y1_0), .second, .val (.long y2_0), .second, .val (.long y3_0), .second, .val (.int x4_0), .val (.ref b1), .val (.long y2_0), .second, .val (.long y3_0), .second, .val (.int (((x4_0.toUInt32 >>> ((2 : Int32) &&& 31).toUInt32).toInt32) &&& (3 : Int32))), .val (.ref b72), .unset]) rfl k) ?_
            show own_Ends p.tables e below s _ _ _ (T72.setTop (mkF m 178 #[.val (.long y0_0), .second, .val (.long y1_0), .second, .val (.long y2_0), .second, .val (.long y3_0), .second, .val (.int x4_0), .val (.ref b1), .val (.long y2_0), .second, .val (.long y3_0), .second, .val (.int (((x4_0.toUInt32 >>> ((2 : Int32) &&& 31).toUInt32).toInt32) &&& (3 : Int32))), .val (.ref b72), .unset] []))
            refine own_step (fun t k => XS.aload X72.here hx rfl (hb hby at_178) rfl rfl k) ?_
            show own_Ends p.tables e below s _ _ _ (T72.setTop (mkF m 180 #[.val (.long y0_0), .second, .val (.long y1_0), .second, .val (.long y2_0), .second, .val (.long y3_0), .second, .val (.int x4_0), .val (.ref b1), .val (.long y2_0), .second, .val (.long y3_0), .second, .val (.int (((x4_0.toUInt32 >>> ((2 : Int32) &&& 31).toUInt32).toInt32) &&& (3 : Int32))), .val (.ref b72), .unset] [(.ref b72)]))
            refine own_step (fun t k => XS.iconst X72.here hx rfl (hb hby at_180) k) ?_
            show own_Ends p.tables e below s _ _ _ (T72.setTop (mkF m 181 #[.val (.long y0_0), .second, .val (.long y1_0), .second, .val (.long y2_0), .second, .val (.long y3_0), .second, .val (.int x4_0), .val (.ref b1), .val (.long y2_0), .second, .val (.long y3_0), .second, .val (.int (((x4_0.toUInt32 >>> ((2 : Int32) &&& 31).toUInt32).toInt32) &&& (3 : Int32))), .val (.ref b72), .unset] [(.int (0 : Int32)), (.ref b72)]))
            refine own_step (fun t k => XS.lloadN X72.here hx rfl (hb hby at_181) rfl k) ?_
            show own_Ends p.tables e below s _ _ _ (T72.setTop (mkF m 182 #[.val (.long y0_0), .second, .val (.long y1_0), .second, .val (.long y2_0), .second, .val (.long y3_0), .second, .val (.int x4_0), .val (.ref b1), .val (.long y2_0), .second, .val (.long y3_0), .second, .val (.int (((x4_0.toUInt32 >>> ((2 : Int32) &&& 31).toUInt32).toInt32) &&& (3 : Int32))), .val (.ref b72), .unset] [(.long y0_0), (.int (0 : Int32)), (.ref b72)]))
            refine own_step (fun t k => X72.ldc2Long hx hown (mvT hZ (hw _ (List.mem_of_getElem? (i := 26) rfl))) (g := (mkF m 182 #[.val (.long y0_0), .second, .val (.long y1_0), .second, .val (.long y2_0), .second, .val (.long y3_0), .second, .val (.int x4_0), .val (.ref b1), .val (.long y2_0), .second, .val (.long y3_0), .second, .val (.int (((x4_0.toUInt32 >>> ((2 : Int32) &&& 31).toUInt32).toInt32) &&& (3 : Int32))), .val (.ref b72), .unset] [(.long y0_0), (.int (0 : Int32)), (.ref b72)])) rfl (hb hby at_182) _ k) ?_
            show own_Ends p.tables e below s _ _ _ (T72.setTop (mkF m 185 #[.val (.long y0_0), .second, .val (.long y1_0), .second, .val (.long y2_0), .second, .val (.long y3_0), .second, .val (.int x4_0), .val (.ref b1), .val (.long y2_0), .second, .val (.long y3_0), .second, .val (.int (((x4_0.toUInt32 >>> ((2 : Int32) &&& 31).toUInt32).toInt32) &&& (3 : Int32))), .val (.ref b72), .unset] [(.long (255 : Int64)), (.long y0_0), (.int (0 : Int32)), (.ref b72)]))
            refine own_step (fun t k => XS.land X72.here hx rfl (hb hby at_185) rfl k) ?_
            show own_Ends p.tables e below s _ _ _ (T72.setTop (mkF m 186 #[.val (.long y0_0), .second, .val (.long y1_0), .second, .val (.long y2_0), .second, .val (.long y3_0), .second, .val (.int x4_0), .val (.ref b1), .val (.long y2_0), .second, .val (.long y3_0), .second, .val (.int (((x4_0.toUInt32 >>> ((2 : Int32) &&& 31).toUInt32).toInt32) &&& (3 : Int32))), .val (.ref b72), .unset] [(.long (y0_0 &&& (255 : Int64))), (.int (0 : Int32)), (.ref b72)]))
            refine own_step (fun t k => XS.l2i X72.here hx rfl (hb hby at_186) rfl k) ?_
            show own_Ends p.tables e below s _ _ _ (T72.setTop (mkF m 187 #[.val (.long y0_0), .second, .val (.long y1_0), .second, .val (.long y2_0), .second, .val (.long y3_0), .second, .val (.int x4_0), .val (.ref b1), .val (.long y2_0), .second, .val (.long y3_0), .second, .val (.int (((x4_0.toUInt32 >>> ((2 : Int32) &&& 31).toUInt32).toInt32) &&& (3 : Int32))), .val (.ref b72), .unset] [(.int ((y0_0 &&& (255 : Int64)).toInt32)), (.int (0 : Int32)), (.ref b72)]))
            refine own_step (fun t k => XS.i2c X72.here hx rfl (hb hby at_187) rfl k) ?_
            show own_Ends p.tables e below s _ _ _ (T72.setTop (mkF m 188 #[.val (.long y0_0), .second, .val (.long y1_0), .second, .val (.long y2_0), .second, .val (.long y3_0), .second, .val (.int x4_0), .val (.ref b1), .val (.long y2_0), .second, .val (.long y3_0), .second, .val (.int (((x4_0.toUInt32 >>> ((2 : Int32) &&& 31).toUInt32).toInt32) &&& (3 : Int32))), .val (.ref b72), .unset] [(.int (((y0_0 &&& (255 : Int64)).toInt32).toUInt32.toUInt16.toUInt32.toInt32)), (.int (0 : Int32)), (.ref b72)]))
            obtain ⟨cl74, Ar74, q74, S74, N74, H74, G74⟩ := id V72p
            have hin74 : ¬ ((0 : Int32) < 0 ∨ cl74.slots.size ≤ ((0 : Int32)).toNatClampNeg) := inb_of S74 ⟨by decide, by decide⟩
            obtain ⟨T75, h75, X75, e75, W75, st75⟩ := stC X72 hx hZ e72 Ar74 (j := (0 : Int32)) hin74 (g := (mkF m 188 #[.val (.long y0_0), .second, .val (.long y1_0), .second, .val (.long y2_0), .second, .val (.long y3_0), .second, .val (.int x4_0), .val (.ref b1), .val (.long y2_0), .second, .val (.long y3_0), .second, .val (.int (((x4_0.toUInt32 >>> ((2 : Int32) &&& 31).toUInt32).toInt32) &&& (3 : Int32))), .val (.ref b72), .unset] [(.int (((y0_0 &&& (255 : Int64)).toInt32).toUInt32.toUInt16.toUInt32.toInt32)), (.int (0 : Int32)), (.ref b72)])) rfl rfl (hb hby at_188)
            refine own_step (fun t k => st75 _ k) ?_
            have V75 : Arv Z h75 b72 k72 .char (1 : Int32) [(.int (nar .char (((y0_0 &&& (255 : Int64)).toInt32).toUInt32.toUInt16.toUInt32.toInt32)))] (.int (0 : Int32)) := Arv.set Ar74 q74 S74 N74 H74 G74 (fits_nar_char _) W75 0 rfl (Nat.le_of_ble_eq_true rfl)
            have K76 : Keep h0 h75 [] := K73.wr W75 (Or.inr sz_b72)
            have N77 := Fr.snoc X75 N5 g_b72
            show own_Ends p.tables e below s _ _ _ (T75.setTop (mkF m 189 #[.val (.long y0_0), .second, .val (.long y1_0), .second, .val (.long y2_0), .second, .val (.long y3_0), .second, .val (.int x4_0), .val (.ref b1), .val (.long y2_0), .second, .val (.long y3_0), .second, .val (.int (((x4_0.toUInt32 >>> ((2 : Int32) &&& 31).toUInt32).toInt32) &&& (3 : Int32))), .val (.ref b72), .unset] []))
            refine own_step (fun t k => XS.aload X75.here hx rfl (hb hby at_189) rfl rfl k) ?_
            show own_Ends p.tables e below s _ _ _ (T75.setTop (mkF m 191 #[.val (.long y0_0), .second, .val (.long y1_0), .second, .val (.long y2_0), .second, .val (.long y3_0), .second, .val (.int x4_0), .val (.ref b1), .val (.long y2_0), .second, .val (.long y3_0), .second, .val (.int (((x4_0.toUInt32 >>> ((2 : Int32) &&& 31).toUInt32).toInt32) &&& (3 : Int32))), .val (.ref b72), .unset] [(.ref b1)]))
            have O78 : Old Z n0 h75 := ((O71.ext E72).wr W75 g_b72)
            have F79 : Exa Z h75 b1 "com/example/swanhall/swanhall/core/Cell" := ((p4_0.ext E72).wr W75)
            obtain ⟨T80, h80, X80, e80, E80, A80, D80, -, st80⟩ := newO X75 hx hZ hown (hw _ (List.mem_of_getElem? (i := 27) rfl)) (hw _ (List.mem_of_getElem? (i := 28) rfl)) (hw _ (List.mem_of_getElem? (i := 29) rfl)) e75 (g := (mkF m 191 #[.val (.long y0_0), .second, .val (.long y1_0), .second, .val (.long y2_0), .second, .val (.long y3_0), .second, .val (.int x4_0), .val (.ref b1), .val (.long y2_0), .second, .val (.long y3_0), .second, .val (.int (((x4_0.toUInt32 >>> ((2 : Int32) &&& 31).toUInt32).toInt32) &&& (3 : Int32))), .val (.ref b72), .unset] [(.ref b1)])) rfl (hb hby at_191) (by decide) (by decide)
            obtain ⟨b80, g80⟩ : ∃ z, z = h75.size := ⟨_, rfl⟩
            rw [← g80] at A80 D80 st80
            have g_b80 : n0 ≤ b80 := Nat.le_trans (Nat.le_trans (Nat.le_of_eq O78.1.symm) O78.2.1) (Nat.le_of_eq g80.symm)
            have sz_b80 : h0.size ≤ b80 := Nat.le_trans K76.1 (Nat.le_of_eq g80.symm)
            have ne_b1_b80 : b1 ≠ b80 := Nat.ne_of_lt (Nat.lt_of_lt_of_le F79.lt (Nat.le_of_eq g80.symm))
            have ne_b72_b80 : b72 ≠ b80 := Nat.ne_of_lt (Nat.lt_of_lt_of_le V75.lt (Nat.le_of_eq g80.symm))
            have F80_coder : Fld Z h80 b80 "java/lang/String" "coder" "B" (.int (0 : Int32)) := D80 (Or.inr (hw _ (List.mem_of_getElem? (i := 51) rfl))) (ty := .byte) (by decide)
            have F80_value : Fld Z h80 b80 "java/lang/String" "value" "[B" .null := D80 (Or.inr (hw _ (List.mem_of_getElem? (i := 53) rfl))) (ty := (.array .byte)) (by decide)
            refine own_step (fun t k => st80 _ k) ?_
            have K81 : Keep h0 h80 [] := K76.ext E80
            show own_Ends p.tables e below s _ _ _ (T80.setTop (mkF m 194 #[.val (.long y0_0), .second, .val (.long y1_0), .second, .val (.long y2_0), .second, .val (.long y3_0), .second, .val (.int x4_0), .val (.ref b1), .val (.long y2_0), .second, .val (.long y3_0), .second, .val (.int (((x4_0.toUInt32 >>> ((2 : Int32) &&& 31).toUInt32).toInt32) &&& (3 : Int32))), .val (.ref b72), .unset] [(.ref b80), (.ref b1)]))
            refine own_step (fun t k => XS.dup X80.here hx rfl (hb hby at_194) rfl rfl k) ?_
            show own_Ends p.tables e below s _ _ _ (T80.setTop (mkF m 195 #[.val (.long y0_0), .second, .val (.long y1_0), .second, .val (.long y2_0), .second, .val (.long y3_0), .second, .val (.int x4_0), .val (.ref b1), .val (.long y2_0), .second, .val (.long y3_0), .second, .val (.int (((x4_0.toUInt32 >>> ((2 : Int32) &&& 31).toUInt32).toInt32) &&& (3 : Int32))), .val (.ref b72), .unset] [(.ref b80), (.ref b80), (.ref b1)]))
            refine own_step (fun t k => XS.aload X80.here hx rfl (hb hby at_195) rfl rfl k) ?_
            show own_Ends p.tables e below s _ _ _ (T80.setTop (mkF m 197 #[.val (.long y0_0), .second, .val (.long y1_0), .second, .val (.long y2_0), .second, .val (.long y3_0), .second, .val (.int x4_0), .val (.ref b1), .val (.long y2_0), .second, .val (.long y3_0), .second, .val (.int (((x4_0.toUInt32 >>> ((2 : Int32) &&& 31).toUInt32).toInt32) &&& (3 : Int32))), .val (.ref b72), .unset] [(.ref b72), (.ref b80), (.ref b80), (.ref b1)]))
            have O82 : Old Z n0 h80 := (O78.ext E80)
            have F83 : Arv Z h80 b72 k72 .char (1 : Int32) [(.int (nar .char (((y0_0 &&& (255 : Int64)).toInt32).toUInt32.toUInt16.toUInt32.toInt32)))] (.int (0 : Int32)) := (V75.ext E80)
            have hws : ∀ d ∈ StrChars.Road.words, d.before a0 Z = true := fun d hd => hw d ((by decide +kernel : ∀ d ∈ StrChars.Road.words, d ∈ tables_1) d hd)
            obtain ⟨_, _, ⟨T84, L84, k84, n84⟩, -, X84, ⟨Lc84, hQ84, l84, y84, z84⟩, st84⟩ := X80.specialBack hx (y := (⟨"java/lang/String", "<init>", "([C)V"⟩ : MethodName)) rfl hown (mvT hZ (hw _ (List.mem_of_getElem? (i := 30) rfl))) (mvT hZ (hw _ (List.mem_of_getElem? (i := 31) rfl))) (mvT hZ (hw _ (List.mem_of_getElem? (i := 32) rfl))) (by decide) (StrChars.Road.backV (W := 2) hZ hws (kI := 4) (hw _ (List.mem_of_getElem? (i := 28) rfl)) (cs := [nar .char (((y0_0 &&& (255 : Int64)).toInt32).toUInt32.toUInt16.toUInt32.toInt32)]) (bs := [(nar .char (((y0_0 &&& (255 : Int64)).toInt32).toUInt32.toUInt16.toUInt32.toInt32)).toInt8.toInt32]) (n := 1) g_b80 (Nat.le_trans (Nat.le_of_eq O82.1.symm) O82.2.1) A80 F80_value F80_coder F83 (S_COMPACT_STRINGS.ext O82.2) hcs rfl rfl (by decide) (by decide) (own_lat y0_0) rfl (by decide) (by decide)) (g := (mkF m 197 #[.val (.long y0_0), .second, .val (.long y1_0), .second, .val (.long y2_0), .second, .val (.long y3_0), .second, .val (.int x4_0), .val (.ref b1), .val (.long y2_0), .second, .val (.long y3_0), .second, .val (.int (((x4_0.toUInt32 >>> ((2 : Int32) &&& 31).toUInt32).toInt32) &&& (3 : Int32))), .val (.ref b72), .unset] [(.ref b72), (.ref b80), (.ref b80), (.ref b1)])) rfl (by rw [hml]; rfl) (Steps.refl _) (a := b80) (argsL := [(.ref b72)]) (rest := [(.ref b80), (.ref b1)]) (lenOf pd_5 rfl) rfl (by show 2 * 0 + _ ≤ _; exact Nat.le_of_eq rfl) (hb hby at_197) (fun _ _ => ⟨rfl, e80, (by decide : 3 + 1 ≤ _), (by decide : 7 + 1 ≤ _)⟩)
            dsimp only [Pt.U, Pt.locs, Pt.cells, Pt.slots] at X84 l84 y84 z84 st84 hQ84
            subst y84 z84
            obtain ⟨rfl, N84q, K84q, -⟩ := hQ84
            refine own_step (fun t k => st84.trans k) ?_
            have N85 : Fr n0 L84 := by rw [l84]; exact Fr.app N77 N84q
            have K86 : Keep h0 T84.heap [] := K81.trans K84q (allS (Or.inr sz_b80) all0)
            show own_Ends p.tables e below s _ _ _ (T84.setTop (mkF m 200 #[.val (.long y0_0), .second, .val (.long y1_0), .second, .val (.long y2_0), .second, .val (.long y3_0), .second, .val (.int x4_0), .val (.ref b1), .val (.long y2_0), .second, .val (.long y3_0), .second, .val (.int (((x4_0.toUInt32 >>> ((2 : Int32) &&& 31).toUInt32).toInt32) &&& (3 : Int32))), .val (.ref b72), .unset] [(.ref b80), (.ref b1)]))
            have F87 : Exa Z T84.heap b80 "java/lang/String" := (A80.keep K84q)
            have O88 : Old Z n0 T84.heap := (O82.keep K84q (allS g_b80 all0))
            have F90 : Exa Z T84.heap b1 "com/example/swanhall/swanhall/core/Cell" := ((F79.ext E80).keep K84q)
            obtain ⟨cq89, kq89, q89a, q89b, q89c⟩ := isOf hZ rfl F90
            obtain ⟨_, _, ⟨T89, L89, k89, n89⟩, -, X89, ⟨Lc89, hQ89, l89, y89, z89⟩, st89⟩ := X84.virtualBack hx (y := (⟨"com/example/swanhall/swanhall/core/Cell", "equals", "(Ljava/lang/Object;)Z"⟩ : MethodName)) (z := (⟨"com/example/swanhall/swanhall/core/Cell", "equals", "(Ljava/lang/Object;)Z"⟩ : MethodName)) hown (mvT hZ (hw _ (List.mem_of_getElem? (i := 18) rfl))) (mvT hZ (hw _ (List.mem_of_getElem? (i := 19) rfl))) (notFace_of_selects (args := #[]) (mvT hZ (hw _ (List.mem_of_getElem? (i := 21) rfl)))) (mvT hZ (hw _ (List.mem_of_getElem? (i := 21) rfl))) (mvT hZ (hw _ (List.mem_of_getElem? (i := 20) rfl))) (by decide) (backOf (W := 0) (rm4s l Z a0 hw [] b1 b80 T84.heap n0 O88 F87) hZ (hw _ (List.mem_of_getElem? (i := 22) rfl)) (hw _ (List.mem_of_getElem? (i := 2) rfl)) (by decide) (by decide)) q89a q89c (g := (mkF m 200 #[.val (.long y0_0), .second, .val (.long y1_0), .second, .val (.long y2_0), .second, .val (.long y3_0), .second, .val (.int x4_0), .val (.ref b1), .val (.long y2_0), .second, .val (.long y3_0), .second, .val (.int (((x4_0.toUInt32 >>> ((2 : Int32) &&& 31).toUInt32).toInt32) &&& (3 : Int32))), .val (.ref b72), .unset] [(.ref b80), (.ref b1)])) rfl (by rw [hml]; rfl) (Steps.refl _) (argsL := [(.ref b80)]) (rest := []) (lenOf pd_3 rfl) rfl (by show 2 * 0 + _ ≤ _; exact Nat.le_of_eq rfl) (hb hby at_200) (fun _ _ => ⟨rfl, rfl, (by decide : 4 + 0 ≤ _), (by decide : 8 + 0 ≤ _)⟩)
            dsimp only [Pt.U, Pt.locs, Pt.cells, Pt.slots] at X89 l89 y89 z89 st89 hQ89
            subst y89 z89
            obtain ⟨rfl, N89q, e89⟩ := hQ89
            refine own_step (fun t k => st89.trans k) ?_
            have N91 : Fr n0 L89 := by rw [l89]; exact Fr.app N85 N89q
            show own_Ends p.tables e below s _ _ _ (T89.setTop (mkF m 203 #[.val (.long y0_0), .second, .val (.long y1_0), .second, .val (.long y2_0), .second, .val (.long y3_0), .second, .val (.int x4_0), .val (.ref b1), .val (.long y2_0), .second, .val (.long y3_0), .second, .val (.int (((x4_0.toUInt32 >>> ((2 : Int32) &&& 31).toUInt32).toInt32) &&& (3 : Int32))), .val (.ref b72), .unset] [(.int (0 : Int32))]))
            refine own_step (fun t k => XS.ifNo X89.here hx rfl (hb hby at_203) rfl ((if0 _ _).trans (teq (by decide : (0 : Int32) = (0 : Int32))).2) k) ?_
            show own_Ends p.tables e below s _ _ _ (T89.setTop (mkF m 206 #[.val (.long y0_0), .second, .val (.long y1_0), .second, .val (.long y2_0), .second, .val (.long y3_0), .second, .val (.int x4_0), .val (.ref b1), .val (.long y2_0), .second, .val (.long y3_0), .second, .val (.int (((x4_0.toUInt32 >>> ((2 : Int32) &&& 31).toUInt32).toInt32) &&& (3 : Int32))), .val (.ref b72), .unset] []))
            refine own_step (fun t k => XS.iconst X89.here hx rfl (hb hby at_206) k) ?_
            show own_Ends p.tables e below s _ _ _ (T89.setTop (mkF m 207 #[.val (.long y0_0), .second, .val (.long y1_0), .second, .val (.long y2_0), .second, .val (.long y3_0), .second, .val (.int x4_0), .val (.ref b1), .val (.long y2_0), .second, .val (.long y3_0), .second, .val (.int (((x4_0.toUInt32 >>> ((2 : Int32) &&& 31).toUInt32).toInt32) &&& (3 : Int32))), .val (.ref b72), .unset] [(.int (1 : Int32))]))
            refine own_step (fun t k => XS.goto X89.here hx rfl (pc0 := 207) (pc' := 211) rfl (hb hby at_207) (by decide) (by decide) k) ?_
            show own_Ends p.tables e below s _ _ _ (T89.setTop (mkF m 211 #[.val (.long y0_0), .second, .val (.long y1_0), .second, .val (.long y2_0), .second, .val (.long y3_0), .second, .val (.int x4_0), .val (.ref b1), .val (.long y2_0), .second, .val (.long y3_0), .second, .val (.int (((x4_0.toUInt32 >>> ((2 : Int32) &&& 31).toUInt32).toInt32) &&& (3 : Int32))), .val (.ref b72), .unset] [(.int (1 : Int32))]))
            exact own_retN X89 hx (t := .boolean) Bd.returns (by simp) (hb hby at_211) hnl (by rw [e89]; exact ⟨rfl, N91⟩) (by decide) (by decide)
    · skip
      refine own_step (fun t k => XS.ifNo X4.here hx rfl (hb hby at_30) rfl ((if0 _ _).trans (feq hc30_8).1) k) ?_
      show own_Ends p.tables e below s _ _ _ (T4.setTop (mkF m 33 #[.val (.long y0_0), .second, .val (.long y1_0), .second, .val (.long y2_0), .second, .val (.long y3_0), .second, .val (.int x4_0), .val (.ref b1), .val (.long y2_0), .second, .unset, .unset, .unset, .unset, .unset] []))
      refine own_step (fun t k => XS.lloadN X4.here hx rfl (hb hby at_33) rfl k) ?_
      show own_Ends p.tables e below s _ _ _ (T4.setTop (mkF m 34 #[.val (.long y0_0), .second, .val (.long y1_0), .second, .val (.long y2_0), .second, .val (.long y3_0), .second, .val (.int x4_0), .val (.ref b1), .val (.long y2_0), .second, .unset, .unset, .unset, .unset, .unset] [(.long y1_0)]))
      refine own_step (fun t k => XS.goto X4.here hx rfl (pc0 := 34) (pc' := 39) rfl (hb hby at_34) (by decide) (by decide) k) ?_
      show own_Ends p.tables e below s _ _ _ (T4.setTop (mkF m 39 #[.val (.long y0_0), .second, .val (.long y1_0), .second, .val (.long y2_0), .second, .val (.long y3_0), .second, .val (.int x4_0), .val (.ref b1), .val (.long y2_0), .second, .unset, .unset, .unset, .unset, .unset] [(.long y1_0)]))
      refine own_step (fun t k => XS.lstore X4.here hx rfl (hb hby at_39) rfl (l' := #[.val (.long y0_0), .second, .val (.long y1_0), .second, .val (.long y2_0), .second, .val (.long y3_0), .second, .val (.int x4_0), .val (.ref b1), .val (.long y2_0), .second, .val (.long y1_0), .second, .unset, .unset, .unset]) rfl k) ?_
      show own_Ends p.tables e below s _ _ _ (T4.setTop (mkF m 41 #[.val (.long y0_0), .second, .val (.long y1_0), .second, .val (.long y2_0), .second, .val (.long y3_0), .second, .val (.int x4_0), .val (.ref b1), .val (.long y2_0), .second, .val (.long y1_0), .second, .unset, .unset, .unset] []))
      refine own_step (fun t k => XS.iload X4.here hx rfl (hb hby at_41) rfl k) ?_
      show own_Ends p.tables e below s _ _ _ (T4.setTop (mkF m 43 #[.val (.long y0_0), .second, .val (.long y1_0), .second, .val (.long y2_0), .second, .val (.long y3_0), .second, .val (.int x4_0), .val (.ref b1), .val (.long y2_0), .second, .val (.long y1_0), .second, .unset, .unset, .unset] [(.int x4_0)]))
      refine own_step (fun t k => XS.iconst X4.here hx rfl (hb hby at_43) k) ?_
      show own_Ends p.tables e below s _ _ _ (T4.setTop (mkF m 44 #[.val (.long y0_0), .second, .val (.long y1_0), .second, .val (.long y2_0), .second, .val (.long y3_0), .second, .val (.int x4_0), .val (.ref b1), .val (.long y2_0), .second, .val (.long y1_0), .second, .unset, .unset, .unset] [(.int (2 : Int32)), (.int x4_0)]))
      refine own_step (fun t k => XS.iushr X4.here hx rfl (hb hby at_44) rfl k) ?_
      show own_Ends p.tables e below s _ _ _ (T4.setTop (mkF m 45 #[.val (.long y0_0), .second, .val (.long y1_0), .second, .val (.long y2_0), .second, .val (.long y3_0), .second, .val (.int x4_0), .val (.ref b1), .val (.long y2_0), .second, .val (.long y1_0), .second, .unset, .unset, .unset] [(.int ((x4_0.toUInt32 >>> ((2 : Int32) &&& 31).toUInt32).toInt32))]))
      refine own_step (fun t k => XS.iconst X4.here hx rfl (hb hby at_45) k) ?_
      show own_Ends p.tables e below s _ _ _ (T4.setTop (mkF m 46 #[.val (.long y0_0), .second, .val (.long y1_0), .second, .val (.long y2_0), .second, .val (.long y3_0), .second, .val (.int x4_0), .val (.ref b1), .val (.long y2_0), .second, .val (.long y1_0), .second, .unset, .unset, .unset] [(.int (3 : Int32)), (.int ((x4_0.toUInt32 >>> ((2 : Int32) &&& 31).toUInt32).toInt32))]))
      refine own_step (fun t k => XS.iand X4.here hx rfl (hb hby at_46) rfl k) ?_
      show own_Ends p.tables e below s _ _ _ (T4.setTop (mkF m 47 #[.val (.long y0_0), .second, .val (.long y1_0), .second, .val (.long y2_0), .second, .val (.long y3_0), .second, .val (.int x4_0), .val (.ref b1), .val (.long y2_0), .second, .val (.long y1_0), .second, .unset, .unset, .unset] [(.int (((x4_0.toUInt32 >>> ((2 : Int32) &&& 31).toUInt32).toInt32) &&& (3 : Int32)))]))
      refine own_step (fun t k => XS.istore X4.here hx rfl (hb hby at_47) rfl (l' := #[.val (.long y0_0), .second, .val (.long y1_0), .second, .val (.long y2_0), .second, .val (.long y3_0), .second, .val (.int x4_0), .val (.ref b1), .val (.long y2_0), .second, .val (.long y1_0), .second, .val (.int (((x4_0.toUInt32 >>> ((2 : Int32) &&& 31).toUInt32).toInt32) &&& (3 : Int32))), .unset, .unset]) rfl k) ?_
      show own_Ends p.tables e below s _ _ _ (T4.setTop (mkF m 49 #[.val (.long y0_0), .second, .val (.long y1_0), .second, .val (.long y2_0), .second, .val (.long y3_0), .second, .val (.int x4_0), .val (.ref b1), .val (.long y2_0), .second, .val (.long y1_0), .second, .val (.int (((x4_0.toUInt32 >>> ((2 : Int32) &&& 31).toUInt32).toInt32) &&& (3 : Int32))), .unset, .unset] []))
      refine own_step (fun t k => XS.iload X4.here hx rfl (hb hby at_49) rfl k) ?_
      show own_Ends p.tables e below s _ _ _ (T4.setTop (mkF m 51 #[.val (.long y0_0), .second, .val (.long y1_0), .second, .val (.long y2_0), .second, .val (.long y3_0), .second, .val (.int x4_0), .val (.ref b1), .val (.long y2_0), .second, .val (.long y1_0), .second, .val (.int (((x4_0.toUInt32 >>> ((2 : Int32) &&& 31).toUInt32).toInt32) &&& (3 : Int32))), .unset, .unset] [(.int (((x4_0.toUInt32 >>> ((2 : Int32) &&& 31).toUInt32).toInt32) &&& (3 : Int32)))]))
      by_cases hc51_92 : (((x4_0.toUInt32 >>> ((2 : Int32) &&& 31).toUInt32).toInt32) &&& (3 : Int32)) = (0 : Int32)
      · skip
        refine own_step (fun t k => XS.ifNo X4.here hx rfl (hb hby at_51) rfl ((if0 _ _).trans (teq hc51_92).2) k) ?_
        show own_Ends p.tables e below s _ _ _ (T4.setTop (mkF m 54 #[.val (.long y0_0), .second, .val (.long y1_0), .second, .val (.long y2_0), .second, .val (.long y3_0), .second, .val (.int x4_0), .val (.ref b1), .val (.long y2_0), .second, .val (.long y1_0), .second, .val (.int (((x4_0.toUInt32 >>> ((2 : Int32) &&& 31).toUInt32).toInt32) &&& (3 : Int32))), .unset, .unset] []))
        have O93 : Old Z n0 T4.heap := (O3.keep K4q (allS g_b1 all0))
        obtain ⟨T94, h94, X94, e94, E94, A94, D94, -, st94⟩ := newO X4 hx hZ hown (hw _ (List.mem_of_getElem? (i := 0) rfl)) (hw _ (List.mem_of_getElem? (i := 1) rfl)) (hw _ (List.mem_of_getElem? (i := 2) rfl)) rfl (g := (mkF m 54 #[.val (.long y0_0), .second, .val (.long y1_0), .second, .val (.long y2_0), .second, .val (.long y3_0), .second, .val (.int x4_0), .val (.ref b1), .val (.long y2_0), .second, .val (.long y1_0), .second, .val (.int (((x4_0.toUInt32 >>> ((2 : Int32) &&& 31).toUInt32).toInt32) &&& (3 : Int32))), .unset, .unset] [])) rfl (hb hby at_54) (by decide) (by decide)
        obtain ⟨b94, g94⟩ : ∃ z, z = T4.heap.size := ⟨_, rfl⟩
        rw [← g94] at A94 D94 st94
        have g_b94 : n0 ≤ b94 := Nat.le_trans (Nat.le_trans (Nat.le_of_eq O93.1.symm) O93.2.1) (Nat.le_of_eq g94.symm)
        have sz_b94 : h0.size ≤ b94 := Nat.le_trans K6.1 (Nat.le_of_eq g94.symm)
        have ne_b1_b94 : b1 ≠ b94 := Nat.ne_of_lt (Nat.lt_of_lt_of_le p4_0.lt (Nat.le_of_eq g94.symm))
        have F94_x : Fld Z h94 b94 "com/example/swanhall/swanhall/core/Cell" "x" "J" (.long (0 : Int64)) := D94 (Or.inr (hw _ (List.mem_of_getElem? (i := 15) rfl))) (ty := .long) (by decide)
        have F94_y : Fld Z h94 b94 "com/example/swanhall/swanhall/core/Cell" "y" "J" (.long (0 : Int64)) := D94 (Or.inr (hw _ (List.mem_of_getElem? (i := 17) rfl))) (ty := .long) (by decide)
        refine own_step (fun t k => st94 _ k) ?_
        have K95 : Keep h0 h94 [] := K6.ext E94
        show own_Ends p.tables e below s _ _ _ (T94.setTop (mkF m 57 #[.val (.long y0_0), .second, .val (.long y1_0), .second, .val (.long y2_0), .second, .val (.long y3_0), .second, .val (.int x4_0), .val (.ref b1), .val (.long y2_0), .second, .val (.long y1_0), .second, .val (.int (((x4_0.toUInt32 >>> ((2 : Int32) &&& 31).toUInt32).toInt32) &&& (3 : Int32))), .unset, .unset] [(.ref b94)]))
        refine own_step (fun t k => XS.dup X94.here hx rfl (hb hby at_57) rfl rfl k) ?_
        show own_Ends p.tables e below s _ _ _ (T94.setTop (mkF m 58 #[.val (.long y0_0), .second, .val (.long y1_0), .second, .val (.long y2_0), .second, .val (.long y3_0), .second, .val (.int x4_0), .val (.ref b1), .val (.long y2_0), .second, .val (.long y1_0), .second, .val (.int (((x4_0.toUInt32 >>> ((2 : Int32) &&& 31).toUInt32).toInt32) &&& (3 : Int32))), .unset, .unset] [(.ref b94), (.ref b94)]))
        refine own_step (fun t k => XS.lload X94.here hx rfl (hb hby at_58) rfl k) ?_
        show own_Ends p.tables e below s _ _ _ (T94.setTop (mkF m 60 #[.val (.long y0_0), .second, .val (.long y1_0), .second, .val (.long y2_0), .second, .val (.long y3_0), .second, .val (.int x4_0), .val (.ref b1), .val (.long y2_0), .second, .val (.long y1_0), .second, .val (.int (((x4_0.toUInt32 >>> ((2 : Int32) &&& 31).toUInt32).toInt32) &&& (3 : Int32))), .unset, .unset] [(.long y2_0), (.ref b94), (.ref b94)]))
        refine own_step (fun t k => XS.lload X94.here hx rfl (hb hby at_60) rfl k) ?_
        show own_Ends p.tables e below s _ _ _ (T94.setTop (mkF m 62 #[.val (.long y0_0), .second, .val (.long y1_0), .second, .val (.long y2_0), .second, .val (.long y3_0), .second, .val (.int x4_0), .val (.ref b1), .val (.long y2_0), .second, .val (.long y1_0), .second, .val (.int (((x4_0.toUInt32 >>> ((2 : Int32) &&& 31).toUInt32).toInt32) &&& (3 : Int32))), .unset, .unset] [(.long y1_0), (.long y2_0), (.ref b94), (.ref b94)]))
        have O96 : Old Z n0 h94 := (O93.ext E94)
        obtain ⟨_, _, ⟨T97, L97, k97, n97⟩, -, X97, ⟨Lc97, hQ97, l97, y97, z97⟩, st97⟩ := X94.specialBack hx (y := (⟨"com/example/swanhall/swanhall/core/Cell", "<init>", "(JJ)V"⟩ : MethodName)) rfl hown (mvT hZ (hw _ (List.mem_of_getElem? (i := 3) rfl))) (mvT hZ (hw _ (List.mem_of_getElem? (i := 4) rfl))) (mvT hZ (hw _ (List.mem_of_getElem? (i := 5) rfl))) (by decide) (backOf (W := 1) (rm1 l Z a0 hw [] b94 y2_0 y1_0 (.long (0 : Int64)) (.long (0 : Int64)) h94 n0 O96 A94 F94_x g_b94 F94_y) hZ (hw _ (List.mem_of_getElem? (i := 5) rfl)) (hw _ (List.mem_of_getElem? (i := 2) rfl)) (by decide) (by decide)) (g := (mkF m 62 #[.val (.long y0_0), .second, .val (.long y1_0), .second, .val (.long y2_0), .second, .val (.long y3_0), .second, .val (.int x4_0), .val (.ref b1), .val (.long y2_0), .second, .val (.long y1_0), .second, .val (.int (((x4_0.toUInt32 >>> ((2 : Int32) &&& 31).toUInt32).toInt32) &&& (3 : Int32))), .unset, .unset] [(.long y1_0), (.long y2_0), (.ref b94), (.ref b94)])) rfl (by rw [hml]; rfl) (Steps.refl _) (a := b94) (argsL := [(.long y2_0), (.long y1_0)]) (rest := [(.ref b94)]) (lenOf pd_2 rfl) rfl (by show 2 * 0 + _ ≤ _; exact Nat.le_of_eq rfl) (hb hby at_62) (fun _ _ => ⟨rfl, e94, (by decide : 2 + 0 ≤ _), (by decide : 4 + 0 ≤ _)⟩)
        dsimp only [Pt.U, Pt.locs, Pt.cells, Pt.slots] at X97 l97 y97 z97 st97 hQ97
        subst y97 z97
        obtain ⟨rfl, N97q, K97q, p97_0, p97_1, p97_2⟩ := hQ97
        refine own_step (fun t k => st97.trans k) ?_
        have N98 : Fr n0 L97 := by rw [l97]; exact Fr.app N5 N97q
        have K99 : Keep h0 T97.heap [] := K95.trans K97q (allS (Or.inr sz_b94) all0)
        show own_Ends p.tables e below s _ _ _ (T97.setTop (mkF m 65 #[.val (.long y0_0), .second, .val (.long y1_0), .second, .val (.long y2_0), .second, .val (.long y3_0), .second, .val (.int x4_0), .val (.ref b1), .val (.long y2_0), .second, .val (.long y1_0), .second, .val (.int (((x4_0.toUInt32 >>> ((2 : Int32) &&& 31).toUInt32).toInt32) &&& (3 : Int32))), .unset, .unset] [(.ref b94)]))
        refine own_step (fun t k => XS.astore X97.here hx rfl (hb hby at_65) rfl rfl (l' := #[.val (.long y0_0), .second, .val (.long y1_0), .second, .val (.long y2_0), .second, .val (.long y3_0), .second, .val (.int x4_0), .val (.ref b1), .val (.long y2_0), .second, .val (.long y1_0), .second, .val (.int (((x4_0.toUInt32 >>> ((2 : Int32) &&& 31).toUInt32).toInt32) &&& (3 : Int32))), .val (.ref b94), .unset]) rfl k) ?_
        show own_Ends p.tables e below s _ _ _ (T97.setTop (mkF m 67 #[.val (.long y0_0), .second, .val (.long y1_0), .second, .val (.long y2_0), .second, .val (.long y3_0), .second, .val (.int x4_0), .val (.ref b1), .val (.long y2_0), .second, .val (.long y1_0), .second, .val (.int (((x4_0.toUInt32 >>> ((2 : Int32) &&& 31).toUInt32).toInt32) &&& (3 : Int32))), .val (.ref b94), .unset] []))
        refine own_step (fun t k => XS.lload X97.here hx rfl (hb hby at_67) rfl k) ?_
        show own_Ends p.tables e below s _ _ _ (T97.setTop (mkF m 69 #[.val (.long y0_0), .second, .val (.long y1_0), .second, .val (.long y2_0), .second, .val (.long y3_0), .second, .val (.int x4_0), .val (.ref b1), .val (.long y2_0), .second, .val (.long y1_0), .second, .val (.int (((x4_0.toUInt32 >>> ((2 : Int32) &&& 31).toUInt32).toInt32) &&& (3 : Int32))), .val (.ref b94), .unset] [(.long y2_0)]))
        refine own_step (fun t k => XS.lloadN X97.here hx rfl (hb hby at_69) rfl k) ?_
        show own_Ends p.tables e below s _ _ _ (T97.setTop (mkF m 70 #[.val (.long y0_0), .second, .val (.long y1_0), .second, .val (.long y2_0), .second, .val (.long y3_0), .second, .val (.int x4_0), .val (.ref b1), .val (.long y2_0), .second, .val (.long y1_0), .second, .val (.int (((x4_0.toUInt32 >>> ((2 : Int32) &&& 31).toUInt32).toInt32) &&& (3 : Int32))), .val (.ref b94), .unset] [(.long y0_0), (.long y2_0)]))
        refine own_step (fun t k => XS.lcmp X97.here hx rfl (hb hby at_70) rfl k) ?_
        show own_Ends p.tables e below s _ _ _ (T97.setTop (mkF m 71 #[.val (.long y0_0), .second, .val (.long y1_0), .second, .val (.long y2_0), .second, .val (.long y3_0), .second, .val (.int x4_0), .val (.ref b1), .val (.long y2_0), .second, .val (.long y1_0), .second, .val (.int (((x4_0.toUInt32 >>> ((2 : Int32) &&& 31).toUInt32).toInt32) &&& (3 : Int32))), .val (.ref b94), .unset] [(.int (lcmpW y2_0 y0_0))]))
        by_cases hc71_100 : (lcmpW y2_0 y0_0) = (0 : Int32)
        · skip
          refine own_step (fun t k => XS.ifNo X97.here hx rfl (hb hby at_71) rfl ((if0 _ _).trans (teq hc71_100).2) k) ?_
          show own_Ends p.tables e below s _ _ _ (T97.setTop (mkF m 74 #[.val (.long y0_0), .second, .val (.long y1_0), .second, .val (.long y2_0), .second, .val (.long y3_0), .second, .val (.int x4_0), .val (.ref b1), .val (.long y2_0), .second, .val (.long y1_0), .second, .val (.int (((x4_0.toUInt32 >>> ((2 : Int32) &&& 31).toUInt32).toInt32) &&& (3 : Int32))), .val (.ref b94), .unset] []))
          refine own_step (fun t k => XS.lload X97.here hx rfl (hb hby at_74) rfl k) ?_
          show own_Ends p.tables e below s _ _ _ (T97.setTop (mkF m 76 #[.val (.long y0_0), .second, .val (.long y1_0), .second, .val (.long y2_0), .second, .val (.long y3_0), .second, .val (.int x4_0), .val (.ref b1), .val (.long y2_0), .second, .val (.long y1_0), .second, .val (.int (((x4_0.toUInt32 >>> ((2 : Int32) &&& 31).toUInt32).toInt32) &&& (3 : Int32))), .val (.ref b94), .unset] [(.long y1_0)]))
          refine own_step (fun t k => XS.lloadN X97.here hx rfl (hb hby at_76) rfl k) ?_
          show own_Ends p.tables e below s _ _ _ (T97.setTop (mkF m 77 #[.val (.long y0_0), .second, .val (.long y1_0), .second, .val (.long y2_0), .second, .val (.long y3_0), .second, .val (.int x4_0), .val (.ref b1), .val (.long y2_0), .second, .val (.long y1_0), .second, .val (.int (((x4_0.toUInt32 >>> ((2 : Int32) &&& 31).toUInt32).toInt32) &&& (3 : Int32))), .val (.ref b94), .unset] [(.long y1_0), (.long y1_0)]))
          refine own_step (fun t k => XS.lcmp X97.here hx rfl (hb hby at_77) rfl k) ?_
          show own_Ends p.tables e below s _ _ _ (T97.setTop (mkF m 78 #[.val (.long y0_0), .second, .val (.long y1_0), .second, .val (.long y2_0), .second, .val (.long y3_0), .second, .val (.int x4_0), .val (.ref b1), .val (.long y2_0), .second, .val (.long y1_0), .second, .val (.int (((x4_0.toUInt32 >>> ((2 : Int32) &&& 31).toUInt32).toInt32) &&& (3 : Int32))), .val (.ref b94), .unset] [(.int (lcmpW y1_0 y1_0))]))
          by_cases hc78_101 : (lcmpW y1_0 y1_0) = (0 : Int32)
          · skip
            refine own_step (fun t k => XS.ifNo X97.here hx rfl (hb hby at_78) rfl ((if0 _ _).trans (teq hc78_101).2) k) ?_
            show own_Ends p.tables e below s _ _ _ (T97.setTop (mkF m 81 #[.val (.long y0_0), .second, .val (.long y1_0), .second, .val (.long y2_0), .second, .val (.long y3_0), .second, .val (.int x4_0), .val (.ref b1), .val (.long y2_0), .second, .val (.long y1_0), .second, .val (.int (((x4_0.toUInt32 >>> ((2 : Int32) &&& 31).toUInt32).toInt32) &&& (3 : Int32))), .val (.ref b94), .unset] []))
            refine own_step (fun t k => XS.iconst X97.here hx rfl (hb hby at_81) k) ?_
            show own_Ends p.tables e below s _ _ _ (T97.setTop (mkF m 82 #[.val (.long y0_0), .second, .val (.long y1_0), .second, .val (.long y2_0), .second, .val (.long y3_0), .second, .val (.int x4_0), .val (.ref b1), .val (.long y2_0), .second, .val (.long y1_0), .second, .val (.int (((x4_0.toUInt32 >>> ((2 : Int32) &&& 31).toUInt32).toInt32) &&& (3 : Int32))), .val (.ref b94), .unset] [(.int (1 : Int32))]))
            refine own_step (fun t k => XS.goto X97.here hx rfl (pc0 := 82) (pc' := 86) rfl (hb hby at_82) (by decide) (by decide) k) ?_
            show own_Ends p.tables e below s _ _ _ (T97.setTop (mkF m 86 #[.val (.long y0_0), .second, .val (.long y1_0), .second, .val (.long y2_0), .second, .val (.long y3_0), .second, .val (.int x4_0), .val (.ref b1), .val (.long y2_0), .second, .val (.long y1_0), .second, .val (.int (((x4_0.toUInt32 >>> ((2 : Int32) &&& 31).toUInt32).toInt32) &&& (3 : Int32))), .val (.ref b94), .unset] [(.int (1 : Int32))]))
            refine own_step (fun t k => XS.istore X97.here hx rfl (hb hby at_86) rfl (l' := #[.val (.long y0_0), .second, .val (.long y1_0), .second, .val (.long y2_0), .second, .val (.long y3_0), .second, .val (.int x4_0), .val (.ref b1), .val (.long y2_0), .second, .val (.long y1_0), .second, .val (.int (((x4_0.toUInt32 >>> ((2 : Int32) &&& 31).toUInt32).toInt32) &&& (3 : Int32))), .val (.ref b94), .val (.int (1 : Int32))]) rfl k) ?_
            show own_Ends p.tables e below s _ _ _ (T97.setTop (mkF m 88 #[.val (.long y0_0), .second, .val (.long y1_0), .second, .val (.long y2_0), .second, .val (.long y3_0), .second, .val (.int x4_0), .val (.ref b1), .val (.long y2_0), .second, .val (.long y1_0), .second, .val (.int (((x4_0.toUInt32 >>> ((2 : Int32) &&& 31).toUInt32).toInt32) &&& (3 : Int32))), .val (.ref b94), .val (.int (1 : Int32))] []))
            refine own_step (fun t k => XS.aload X97.here hx rfl (hb hby at_88) rfl rfl k) ?_
            show own_Ends p.tables e below s _ _ _ (T97.setTop (mkF m 90 #[.val (.long y0_0), .second, .val (.long y1_0), .second, .val (.long y2_0), .second, .val (.long y3_0), .second, .val (.int x4_0), .val (.ref b1), .val (.long y2_0), .second, .val (.long y1_0), .second, .val (.int (((x4_0.toUInt32 >>> ((2 : Int32) &&& 31).toUInt32).toInt32) &&& (3 : Int32))), .val (.ref b94), .val (.int (1 : Int32))] [(.ref b1)]))
            refine own_step (fun t k => XS.aload X97.here hx rfl (hb hby at_90) rfl rfl k) ?_
            show own_Ends p.tables e below s _ _ _ (T97.setTop (mkF m 92 #[.val (.long y0_0), .second, .val (.long y1_0), .second, .val (.long y2_0), .second, .val (.long y3_0), .second, .val (.int x4_0), .val (.ref b1), .val (.long y2_0), .second, .val (.long y1_0), .second, .val (.int (((x4_0.toUInt32 >>> ((2 : Int32) &&& 31).toUInt32).toInt32) &&& (3 : Int32))), .val (.ref b94), .val (.int (1 : Int32))] [(.ref b94), (.ref b1)]))
            have F102 : Fld Z T97.heap b1 "com/example/swanhall/swanhall/core/Cell" "x" "J" (.long y0_0) := ((p4_1.ext E94).keep K97q (ninS ne_b1_b94 nin0))
            have F103 : Fld Z T97.heap b1 "com/example/swanhall/swanhall/core/Cell" "y" "J" (.long y1_0) := ((p4_2.ext E94).keep K97q (ninS ne_b1_b94 nin0))
            have O104 : Old Z n0 T97.heap := (O96.keep K97q (allS g_b94 all0))
            have F106 : Exa Z T97.heap b1 "com/example/swanhall/swanhall/core/Cell" := ((p4_0.ext E94).keep K97q)
            obtain ⟨cq105, kq105, q105a, q105b, q105c⟩ := isOf hZ rfl F106
            obtain ⟨_, _, ⟨T105, L105, k105, n105⟩, -, X105, ⟨Lc105, hQ105, l105, y105, z105⟩, st105⟩ := X97.virtualBack hx (y := (⟨"com/example/swanhall/swanhall/core/Cell", "equals", "(Ljava/lang/Object;)Z"⟩ : MethodName)) (z := (⟨"com/example/swanhall/swanhall/core/Cell", "equals", "(Ljava/lang/Object;)Z"⟩ : MethodName)) hown (mvT hZ (hw _ (List.mem_of_getElem? (i := 18) rfl))) (mvT hZ (hw _ (List.mem_of_getElem? (i := 19) rfl))) (notFace_of_selects (args := #[]) (mvT hZ (hw _ (List.mem_of_getElem? (i := 21) rfl)))) (mvT hZ (hw _ (List.mem_of_getElem? (i := 21) rfl))) (mvT hZ (hw _ (List.mem_of_getElem? (i := 20) rfl))) (by decide) (backOf (W := 0) (rm4 l Z a0 hw [] b1 b94 y2_0 y0_0 y1_0 y1_0 T97.heap n0 O104 p97_0 p97_1 F102 p97_2 F103) hZ (hw _ (List.mem_of_getElem? (i := 22) rfl)) (hw _ (List.mem_of_getElem? (i := 2) rfl)) (by decide) (by decide)) q105a q105c (g := (mkF m 92 #[.val (.long y0_0), .second, .val (.long y1_0), .second, .val (.long y2_0), .second, .val (.long y3_0), .second, .val (.int x4_0), .val (.ref b1), .val (.long y2_0), .second, .val (.long y1_0), .second, .val (.int (((x4_0.toUInt32 >>> ((2 : Int32) &&& 31).toUInt32).toInt32) &&& (3 : Int32))), .val (.ref b94), .val (.int (1 : Int32))] [(.ref b94), (.ref b1)])) rfl (by rw [hml]; rfl) (Steps.refl _) (argsL := [(.ref b94)]) (rest := []) (lenOf pd_3 rfl) rfl (by show 2 * 0 + _ ≤ _; exact Nat.le_of_eq rfl) (hb hby at_92) (fun _ _ => ⟨rfl, rfl, (by decide : 2 + 0 ≤ _), (by decide : 4 + 0 ≤ _)⟩)
            dsimp only [Pt.U, Pt.locs, Pt.cells, Pt.slots] at X105 l105 y105 z105 st105 hQ105
            subst y105 z105
            obtain ⟨rfl, N105q, e105⟩ := hQ105
            refine own_step (fun t k => st105.trans k) ?_
            have N107 : Fr n0 L105 := by rw [l105]; exact Fr.app N98 N105q
            show own_Ends p.tables e below s _ _ _ (T105.setTop (mkF m 95 #[.val (.long y0_0), .second, .val (.long y1_0), .second, .val (.long y2_0), .second, .val (.long y3_0), .second, .val (.int x4_0), .val (.ref b1), .val (.long y2_0), .second, .val (.long y1_0), .second, .val (.int (((x4_0.toUInt32 >>> ((2 : Int32) &&& 31).toUInt32).toInt32) &&& (3 : Int32))), .val (.ref b94), .val (.int (1 : Int32))] [(.int (own_r4 y2_0 y0_0 y1_0 y1_0))]))
            refine own_step (fun t k => XS.iload X105.here hx rfl (hb hby at_95) rfl k) ?_
            show own_Ends p.tables e below s _ _ _ (T105.setTop (mkF m 97 #[.val (.long y0_0), .second, .val (.long y1_0), .second, .val (.long y2_0), .second, .val (.long y3_0), .second, .val (.int x4_0), .val (.ref b1), .val (.long y2_0), .second, .val (.long y1_0), .second, .val (.int (((x4_0.toUInt32 >>> ((2 : Int32) &&& 31).toUInt32).toInt32) &&& (3 : Int32))), .val (.ref b94), .val (.int (1 : Int32))] [(.int (1 : Int32)), (.int (own_r4 y2_0 y0_0 y1_0 y1_0))]))
            by_cases hc97_108 : (own_r4 y2_0 y0_0 y1_0 y1_0) = (1 : Int32)
            · skip
              refine own_step (fun t k => XS.icmpNo X105.here hx rfl (hb hby at_97) rfl (teq hc97_108).2 k) ?_
              show own_Ends p.tables e below s _ _ _ (T105.setTop (mkF m 100 #[.val (.long y0_0), .second, .val (.long y1_0), .second, .val (.long y2_0), .second, .val (.long y3_0), .second, .val (.int x4_0), .val (.ref b1), .val (.long y2_0), .second, .val (.long y1_0), .second, .val (.int (((x4_0.toUInt32 >>> ((2 : Int32) &&& 31).toUInt32).toInt32) &&& (3 : Int32))), .val (.ref b94), .val (.int (1 : Int32))] []))
              refine own_step (fun t k => XS.aload X105.here hx rfl (hb hby at_100) rfl rfl k) ?_
              show own_Ends p.tables e below s _ _ _ (T105.setTop (mkF m 102 #[.val (.long y0_0), .second, .val (.long y1_0), .second, .val (.long y2_0), .second, .val (.long y3_0), .second, .val (.int x4_0), .val (.ref b1), .val (.long y2_0), .second, .val (.long y1_0), .second, .val (.int (((x4_0.toUInt32 >>> ((2 : Int32) &&& 31).toUInt32).toInt32) &&& (3 : Int32))), .val (.ref b94), .val (.int (1 : Int32))] [(.ref b94)]))
              refine own_step (fun t k => XS.aload X105.here hx rfl (hb hby at_102) rfl rfl k) ?_
              show own_Ends p.tables e below s _ _ _ (T105.setTop (mkF m 104 #[.val (.long y0_0), .second, .val (.long y1_0), .second, .val (.long y2_0), .second, .val (.long y3_0), .second, .val (.int x4_0), .val (.ref b1), .val (.long y2_0), .second, .val (.long y1_0), .second, .val (.int (((x4_0.toUInt32 >>> ((2 : Int32) &&& 31).toUInt32).toInt32) &&& (3 : Int32))), .val (.ref b94), .val (.int (1 : Int32))] [(.ref b1), (.ref b94)]))
              obtain ⟨cq109, kq109, q109a, q109b, q109c⟩ := isOf hZ e105 p97_0
              obtain ⟨_, _, ⟨T109, L109, k109, n109⟩, -, X109, ⟨Lc109, hQ109, l109, y109, z109⟩, st109⟩ := X105.virtualBack hx (y := (⟨"com/example/swanhall/swanhall/core/Cell", "equals", "(Ljava/lang/Object;)Z"⟩ : MethodName)) (z := (⟨"com/example/swanhall/swanhall/core/Cell", "equals", "(Ljava/lang/Object;)Z"⟩ : MethodName)) hown (mvT hZ (hw _ (List.mem_of_getElem? (i := 18) rfl))) (mvT hZ (hw _ (List.mem_of_getElem? (i := 19) rfl))) (notFace_of_selects (args := #[]) (mvT hZ (hw _ (List.mem_of_getElem? (i := 21) rfl)))) (mvT hZ (hw _ (List.mem_of_getElem? (i := 21) rfl))) (mvT hZ (hw _ (List.mem_of_getElem? (i := 20) rfl))) (by decide) (backOf (W := 0) (rm4 l Z a0 hw [] b94 b1 y0_0 y2_0 y1_0 y1_0 T97.heap n0 O104 F106 F102 p97_1 F103 p97_2) hZ (hw _ (List.mem_of_getElem? (i := 22) rfl)) (hw _ (List.mem_of_getElem? (i := 2) rfl)) (by decide) (by decide)) q109a q109c (g := (mkF m 104 #[.val (.long y0_0), .second, .val (.long y1_0), .second, .val (.long y2_0), .second, .val (.long y3_0), .second, .val (.int x4_0), .val (.ref b1), .val (.long y2_0), .second, .val (.long y1_0), .second, .val (.int (((x4_0.toUInt32 >>> ((2 : Int32) &&& 31).toUInt32).toInt32) &&& (3 : Int32))), .val (.ref b94), .val (.int (1 : Int32))] [(.ref b1), (.ref b94)])) rfl (by rw [hml]; rfl) (Steps.refl _) (argsL := [(.ref b1)]) (rest := []) (lenOf pd_3 rfl) rfl (by show 2 * 0 + _ ≤ _; exact Nat.le_of_eq rfl) (hb hby at_104) (fun _ _ => ⟨rfl, e105, (by decide : 2 + 0 ≤ _), (by decide : 4 + 0 ≤ _)⟩)
              dsimp only [Pt.U, Pt.locs, Pt.cells, Pt.slots] at X109 l109 y109 z109 st109 hQ109
              subst y109 z109
              obtain ⟨rfl, N109q, e109⟩ := hQ109
              refine own_step (fun t k => st109.trans k) ?_
              have N110 : Fr n0 L109 := by rw [l109]; exact Fr.app N107 N109q
              show own_Ends p.tables e below s _ _ _ (T109.setTop (mkF m 107 #[.val (.long y0_0), .second, .val (.long y1_0), .second, .val (.long y2_0), .second, .val (.long y3_0), .second, .val (.int x4_0), .val (.ref b1), .val (.long y2_0), .second, .val (.long y1_0), .second, .val (.int (((x4_0.toUInt32 >>> ((2 : Int32) &&& 31).toUInt32).toInt32) &&& (3 : Int32))), .val (.ref b94), .val (.int (1 : Int32))] [(.int (own_r4 y0_0 y2_0 y1_0 y1_0))]))
              refine own_step (fun t k => XS.iload X109.here hx rfl (hb hby at_107) rfl k) ?_
              show own_Ends p.tables e below s _ _ _ (T109.setTop (mkF m 109 #[.val (.long y0_0), .second, .val (.long y1_0), .second, .val (.long y2_0), .second, .val (.long y3_0), .second, .val (.int x4_0), .val (.ref b1), .val (.long y2_0), .second, .val (.long y1_0), .second, .val (.int (((x4_0.toUInt32 >>> ((2 : Int32) &&& 31).toUInt32).toInt32) &&& (3 : Int32))), .val (.ref b94), .val (.int (1 : Int32))] [(.int (1 : Int32)), (.int (own_r4 y0_0 y2_0 y1_0 y1_0))]))
              by_cases hc109_111 : (own_r4 y0_0 y2_0 y1_0 y1_0) = (1 : Int32)
              · skip
                refine own_step (fun t k => XS.icmpNo X109.here hx rfl (hb hby at_109) rfl (teq hc109_111).2 k) ?_
                show own_Ends p.tables e below s _ _ _ (T109.setTop (mkF m 112 #[.val (.long y0_0), .second, .val (.long y1_0), .second, .val (.long y2_0), .second, .val (.long y3_0), .second, .val (.int x4_0), .val (.ref b1), .val (.long y2_0), .second, .val (.long y1_0), .second, .val (.int (((x4_0.toUInt32 >>> ((2 : Int32) &&& 31).toUInt32).toInt32) &&& (3 : Int32))), .val (.ref b94), .val (.int (1 : Int32))] []))
                refine own_step (fun t k => XS.aload X109.here hx rfl (hb hby at_112) rfl rfl k) ?_
                show own_Ends p.tables e below s _ _ _ (T109.setTop (mkF m 114 #[.val (.long y0_0), .second, .val (.long y1_0), .second, .val (.long y2_0), .second, .val (.long y3_0), .second, .val (.int x4_0), .val (.ref b1), .val (.long y2_0), .second, .val (.long y1_0), .second, .val (.int (((x4_0.toUInt32 >>> ((2 : Int32) &&& 31).toUInt32).toInt32) &&& (3 : Int32))), .val (.ref b94), .val (.int (1 : Int32))] [(.ref b1)]))
                refine own_step (fun t k => XS.aload X109.here hx rfl (hb hby at_114) rfl rfl k) ?_
                show own_Ends p.tables e below s _ _ _ (T109.setTop (mkF m 116 #[.val (.long y0_0), .second, .val (.long y1_0), .second, .val (.long y2_0), .second, .val (.long y3_0), .second, .val (.int x4_0), .val (.ref b1), .val (.long y2_0), .second, .val (.long y1_0), .second, .val (.int (((x4_0.toUInt32 >>> ((2 : Int32) &&& 31).toUInt32).toInt32) &&& (3 : Int32))), .val (.ref b94), .val (.int (1 : Int32))] [(.ref b1), (.ref b1)]))
                obtain ⟨cq112, kq112, q112a, q112b, q112c⟩ := isOf hZ e109 F106
                obtain ⟨_, _, ⟨T112, L112, k112, n112⟩, -, X112, ⟨Lc112, hQ112, l112, y112, z112⟩, st112⟩ := X109.virtualBack hx (y := (⟨"com/example/swanhall/swanhall/core/Cell", "equals", "(Ljava/lang/Object;)Z"⟩ : MethodName)) (z := (⟨"com/example/swanhall/swanhall/core/Cell", "equals", "(Ljava/lang/Object;)Z"⟩ : MethodName)) hown (mvT hZ (hw _ (List.mem_of_getElem? (i := 18) rfl))) (mvT hZ (hw _ (List.mem_of_getElem? (i := 19) rfl))) (notFace_of_selects (args := #[]) (mvT hZ (hw _ (List.mem_of_getElem? (i := 21) rfl)))) (mvT hZ (hw _ (List.mem_of_getElem? (i := 21) rfl))) (mvT hZ (hw _ (List.mem_of_getElem? (i := 20) rfl))) (by decide) (backOf (W := 0) (rm4 l Z a0 hw [] b1 b1 y0_0 y0_0 y1_0 y1_0 T97.heap n0 O104 F106 F102 F102 F103 F103) hZ (hw _ (List.mem_of_getElem? (i := 22) rfl)) (hw _ (List.mem_of_getElem? (i := 2) rfl)) (by decide) (by decide)) q112a q112c (g := (mkF m 116 #[.val (.long y0_0), .second, .val (.long y1_0), .second, .val (.long y2_0), .second, .val (.long y3_0), .second, .val (.int x4_0), .val (.ref b1), .val (.long y2_0), .second, .val (.long y1_0), .second, .val (.int (((x4_0.toUInt32 >>> ((2 : Int32) &&& 31).toUInt32).toInt32) &&& (3 : Int32))), .val (.ref b94), .val (.int (1 : Int32))] [(.ref b1), (.ref b1)])) rfl (by rw [hml]; rfl) (Steps.refl _) (argsL := [(.ref b1)]) (rest := []) (lenOf pd_3 rfl) rfl (by show 2 * 0 + _ ≤ _; exact Nat.le_of_eq rfl) (hb hby at_116) (fun _ _ => ⟨rfl, e109, (by decide : 2 + 0 ≤ _), (by decide : 4 + 0 ≤ _)⟩)
                dsimp only [Pt.U, Pt.locs, Pt.cells, Pt.slots] at X112 l112 y112 z112 st112 hQ112
                subst y112 z112
                obtain ⟨rfl, N112q, e112⟩ := hQ112
                refine own_step (fun t k => st112.trans k) ?_
                have N113 : Fr n0 L112 := by rw [l112]; exact Fr.app N110 N112q
                show own_Ends p.tables e below s _ _ _ (T112.setTop (mkF m 119 #[.val (.long y0_0), .second, .val (.long y1_0), .second, .val (.long y2_0), .second, .val (.long y3_0), .second, .val (.int x4_0), .val (.ref b1), .val (.long y2_0), .second, .val (.long y1_0), .second, .val (.int (((x4_0.toUInt32 >>> ((2 : Int32) &&& 31).toUInt32).toInt32) &&& (3 : Int32))), .val (.ref b94), .val (.int (1 : Int32))] [(.int (own_r4 y0_0 y0_0 y1_0 y1_0))]))
                by_cases hc119_114 : (own_r4 y0_0 y0_0 y1_0 y1_0) = (0 : Int32)
                · skip
                  refine own_step (fun t k => XS.ifYes X112.here hx rfl (pc0 := 119) (pc' := 126) rfl (hb hby at_119) rfl ((if0 _ _).trans (teq hc119_114).1) (by decide) (by decide) k) ?_
                  show own_Ends p.tables e below s _ _ _ (T112.setTop (mkF m 126 #[.val (.long y0_0), .second, .val (.long y1_0), .second, .val (.long y2_0), .second, .val (.long y3_0), .second, .val (.int x4_0), .val (.ref b1), .val (.long y2_0), .second, .val (.long y1_0), .second, .val (.int (((x4_0.toUInt32 >>> ((2 : Int32) &&& 31).toUInt32).toInt32) &&& (3 : Int32))), .val (.ref b94), .val (.int (1 : Int32))] []))
                  refine own_step (fun t k => XS.iconst X112.here hx rfl (hb hby at_126) k) ?_
                  show own_Ends p.tables e below s _ _ _ (T112.setTop (mkF m 127 #[.val (.long y0_0), .second, .val (.long y1_0), .second, .val (.long y2_0), .second, .val (.long y3_0), .second, .val (.int x4_0), .val (.ref b1), .val (.long y2_0), .second, .val (.long y1_0), .second, .val (.int (((x4_0.toUInt32 >>> ((2 : Int32) &&& 31).toUInt32).toInt32) &&& (3 : Int32))), .val (.ref b94), .val (.int (1 : Int32))] [(.int (0 : Int32))]))
                  exfalso
                  exact absurd hc119_114 (by rw [own_eq4]; simp)
                · skip
                  refine own_step (fun t k => XS.ifNo X112.here hx rfl (hb hby at_119) rfl ((if0 _ _).trans (feq hc119_114).1) k) ?_
                  show own_Ends p.tables e below s _ _ _ (T112.setTop (mkF m 122 #[.val (.long y0_0), .second, .val (.long y1_0), .second, .val (.long y2_0), .second, .val (.long y3_0), .second, .val (.int x4_0), .val (.ref b1), .val (.long y2_0), .second, .val (.long y1_0), .second, .val (.int (((x4_0.toUInt32 >>> ((2 : Int32) &&& 31).toUInt32).toInt32) &&& (3 : Int32))), .val (.ref b94), .val (.int (1 : Int32))] []))
                  refine own_step (fun t k => XS.iconst X112.here hx rfl (hb hby at_122) k) ?_
                  show own_Ends p.tables e below s _ _ _ (T112.setTop (mkF m 123 #[.val (.long y0_0), .second, .val (.long y1_0), .second, .val (.long y2_0), .second, .val (.long y3_0), .second, .val (.int x4_0), .val (.ref b1), .val (.long y2_0), .second, .val (.long y1_0), .second, .val (.int (((x4_0.toUInt32 >>> ((2 : Int32) &&& 31).toUInt32).toInt32) &&& (3 : Int32))), .val (.ref b94), .val (.int (1 : Int32))] [(.int (1 : Int32))]))
                  refine own_step (fun t k => XS.goto X112.here hx rfl (pc0 := 123) (pc' := 127) rfl (hb hby at_123) (by decide) (by decide) k) ?_
                  show own_Ends p.tables e below s _ _ _ (T112.setTop (mkF m 127 #[.val (.long y0_0), .second, .val (.long y1_0), .second, .val (.long y2_0), .second, .val (.long y3_0), .second, .val (.int x4_0), .val (.ref b1), .val (.long y2_0), .second, .val (.long y1_0), .second, .val (.int (((x4_0.toUInt32 >>> ((2 : Int32) &&& 31).toUInt32).toInt32) &&& (3 : Int32))), .val (.ref b94), .val (.int (1 : Int32))] [(.int (1 : Int32))]))
                  exact own_retN X112 hx (t := .boolean) Bd.returns (by simp) (hb hby at_127) hnl (by rw [e112]; exact ⟨rfl, N113⟩) (by decide) (by decide)
              · skip
                refine own_step (fun t k => XS.icmpYes X109.here hx rfl (pc0 := 109) (pc' := 126) rfl (hb hby at_109) rfl (feq hc109_111).2 (by decide) (by decide) k) ?_
                show own_Ends p.tables e below s _ _ _ (T109.setTop (mkF m 126 #[.val (.long y0_0), .second, .val (.long y1_0), .second, .val (.long y2_0), .second, .val (.long y3_0), .second, .val (.int x4_0), .val (.ref b1), .val (.long y2_0), .second, .val (.long y1_0), .second, .val (.int (((x4_0.toUInt32 >>> ((2 : Int32) &&& 31).toUInt32).toInt32) &&& (3 : Int32))), .val (.ref b94), .val (.int (1 : Int32))] []))
                refine own_step (fun t k => XS.iconst X109.here hx rfl (hb hby at_126) k) ?_
                show own_Ends p.tables e below s _ _ _ (T109.setTop (mkF m 127 #[.val (.long y0_0), .second, .val (.long y1_0), .second, .val (.long y2_0), .second, .val (.long y3_0), .second, .val (.int x4_0), .val (.ref b1), .val (.long y2_0), .second, .val (.long y1_0), .second, .val (.int (((x4_0.toUInt32 >>> ((2 : Int32) &&& 31).toUInt32).toInt32) &&& (3 : Int32))), .val (.ref b94), .val (.int (1 : Int32))] [(.int (0 : Int32))]))
                exfalso
                exact hc109_111 (by rw [own_eq4]; exact if_pos ⟨((own_lc _ _).mp hc71_100).symm, ((own_lc _ _).mp hc78_101)⟩)
            · skip
              refine own_step (fun t k => XS.icmpYes X105.here hx rfl (pc0 := 97) (pc' := 126) rfl (hb hby at_97) rfl (feq hc97_108).2 (by decide) (by decide) k) ?_
              show own_Ends p.tables e below s _ _ _ (T105.setTop (mkF m 126 #[.val (.long y0_0), .second, .val (.long y1_0), .second, .val (.long y2_0), .second, .val (.long y3_0), .second, .val (.int x4_0), .val (.ref b1), .val (.long y2_0), .second, .val (.long y1_0), .second, .val (.int (((x4_0.toUInt32 >>> ((2 : Int32) &&& 31).toUInt32).toInt32) &&& (3 : Int32))), .val (.ref b94), .val (.int (1 : Int32))] []))
              refine own_step (fun t k => XS.iconst X105.here hx rfl (hb hby at_126) k) ?_
              show own_Ends p.tables e below s _ _ _ (T105.setTop (mkF m 127 #[.val (.long y0_0), .second, .val (.long y1_0), .second, .val (.long y2_0), .second, .val (.long y3_0), .second, .val (.int x4_0), .val (.ref b1), .val (.long y2_0), .second, .val (.long y1_0), .second, .val (.int (((x4_0.toUInt32 >>> ((2 : Int32) &&& 31).toUInt32).toInt32) &&& (3 : Int32))), .val (.ref b94), .val (.int (1 : Int32))] [(.int (0 : Int32))]))
              exfalso
              exact hc97_108 (by rw [own_eq4]; exact if_pos ⟨((own_lc _ _).mp hc71_100), ((own_lc _ _).mp hc78_101)⟩)
          · skip
            refine own_step (fun t k => XS.ifYes X97.here hx rfl (pc0 := 78) (pc' := 85) rfl (hb hby at_78) rfl ((if0 _ _).trans (feq hc78_101).2) (by decide) (by decide) k) ?_
            show own_Ends p.tables e below s _ _ _ (T97.setTop (mkF m 85 #[.val (.long y0_0), .second, .val (.long y1_0), .second, .val (.long y2_0), .second, .val (.long y3_0), .second, .val (.int x4_0), .val (.ref b1), .val (.long y2_0), .second, .val (.long y1_0), .second, .val (.int (((x4_0.toUInt32 >>> ((2 : Int32) &&& 31).toUInt32).toInt32) &&& (3 : Int32))), .val (.ref b94), .unset] []))
            refine own_step (fun t k => XS.iconst X97.here hx rfl (hb hby at_85) k) ?_
            show own_Ends p.tables e below s _ _ _ (T97.setTop (mkF m 86 #[.val (.long y0_0), .second, .val (.long y1_0), .second, .val (.long y2_0), .second, .val (.long y3_0), .second, .val (.int x4_0), .val (.ref b1), .val (.long y2_0), .second, .val (.long y1_0), .second, .val (.int (((x4_0.toUInt32 >>> ((2 : Int32) &&& 31).toUInt32).toInt32) &&& (3 : Int32))), .val (.ref b94), .unset] [(.int (0 : Int32))]))
            refine own_step (fun t k => XS.istore X97.here hx rfl (hb hby at_86) rfl (l' := #[.val (.long y0_0), .second, .val (.long y1_0), .second, .val (.long y2_0), .second, .val (.long y3_0), .second, .val (.int x4_0), .val (.ref b1), .val (.long y2_0), .second, .val (.long y1_0), .second, .val (.int (((x4_0.toUInt32 >>> ((2 : Int32) &&& 31).toUInt32).toInt32) &&& (3 : Int32))), .val (.ref b94), .val (.int (0 : Int32))]) rfl k) ?_
            show own_Ends p.tables e below s _ _ _ (T97.setTop (mkF m 88 #[.val (.long y0_0), .second, .val (.long y1_0), .second, .val (.long y2_0), .second, .val (.long y3_0), .second, .val (.int x4_0), .val (.ref b1), .val (.long y2_0), .second, .val (.long y1_0), .second, .val (.int (((x4_0.toUInt32 >>> ((2 : Int32) &&& 31).toUInt32).toInt32) &&& (3 : Int32))), .val (.ref b94), .val (.int (0 : Int32))] []))
            refine own_step (fun t k => XS.aload X97.here hx rfl (hb hby at_88) rfl rfl k) ?_
            show own_Ends p.tables e below s _ _ _ (T97.setTop (mkF m 90 #[.val (.long y0_0), .second, .val (.long y1_0), .second, .val (.long y2_0), .second, .val (.long y3_0), .second, .val (.int x4_0), .val (.ref b1), .val (.long y2_0), .second, .val (.long y1_0), .second, .val (.int (((x4_0.toUInt32 >>> ((2 : Int32) &&& 31).toUInt32).toInt32) &&& (3 : Int32))), .val (.ref b94), .val (.int (0 : Int32))] [(.ref b1)]))
            refine own_step (fun t k => XS.aload X97.here hx rfl (hb hby at_90) rfl rfl k) ?_
            show own_Ends p.tables e below s _ _ _ (T97.setTop (mkF m 92 #[.val (.long y0_0), .second, .val (.long y1_0), .second, .val (.long y2_0), .second, .val (.long y3_0), .second, .val (.int x4_0), .val (.ref b1), .val (.long y2_0), .second, .val (.long y1_0), .second, .val (.int (((x4_0.toUInt32 >>> ((2 : Int32) &&& 31).toUInt32).toInt32) &&& (3 : Int32))), .val (.ref b94), .val (.int (0 : Int32))] [(.ref b94), (.ref b1)]))
            have F115 : Fld Z T97.heap b1 "com/example/swanhall/swanhall/core/Cell" "x" "J" (.long y0_0) := ((p4_1.ext E94).keep K97q (ninS ne_b1_b94 nin0))
            have F116 : Fld Z T97.heap b1 "com/example/swanhall/swanhall/core/Cell" "y" "J" (.long y1_0) := ((p4_2.ext E94).keep K97q (ninS ne_b1_b94 nin0))
            have O117 : Old Z n0 T97.heap := (O96.keep K97q (allS g_b94 all0))
            have F119 : Exa Z T97.heap b1 "com/example/swanhall/swanhall/core/Cell" := ((p4_0.ext E94).keep K97q)
            obtain ⟨cq118, kq118, q118a, q118b, q118c⟩ := isOf hZ rfl F119
            obtain ⟨_, _, ⟨T118, L118, k118, n118⟩, -, X118, ⟨Lc118, hQ118, l118, y118, z118⟩, st118⟩ := X97.virtualBack hx (y := (⟨"com/example/swanhall/swanhall/core/Cell", "equals", "(Ljava/lang/Object;)Z"⟩ : MethodName)) (z := (⟨"com/example/swanhall/swanhall/core/Cell", "equals", "(Ljava/lang/Object;)Z"⟩ : MethodName)) hown (mvT hZ (hw _ (List.mem_of_getElem? (i := 18) rfl))) (mvT hZ (hw _ (List.mem_of_getElem? (i := 19) rfl))) (notFace_of_selects (args := #[]) (mvT hZ (hw _ (List.mem_of_getElem? (i := 21) rfl)))) (mvT hZ (hw _ (List.mem_of_getElem? (i := 21) rfl))) (mvT hZ (hw _ (List.mem_of_getElem? (i := 20) rfl))) (by decide) (backOf (W := 0) (rm4 l Z a0 hw [] b1 b94 y2_0 y0_0 y1_0 y1_0 T97.heap n0 O117 p97_0 p97_1 F115 p97_2 F116) hZ (hw _ (List.mem_of_getElem? (i := 22) rfl)) (hw _ (List.mem_of_getElem? (i := 2) rfl)) (by decide) (by decide)) q118a q118c (g := (mkF m 92 #[.val (.long y0_0), .second, .val (.long y1_0), .second, .val (.long y2_0), .second, .val (.long y3_0), .second, .val (.int x4_0), .val (.ref b1), .val (.long y2_0), .second, .val (.long y1_0), .second, .val (.int (((x4_0.toUInt32 >>> ((2 : Int32) &&& 31).toUInt32).toInt32) &&& (3 : Int32))), .val (.ref b94), .val (.int (0 : Int32))] [(.ref b94), (.ref b1)])) rfl (by rw [hml]; rfl) (Steps.refl _) (argsL := [(.ref b94)]) (rest := []) (lenOf pd_3 rfl) rfl (by show 2 * 0 + _ ≤ _; exact Nat.le_of_eq rfl) (hb hby at_92) (fun _ _ => ⟨rfl, rfl, (by decide : 2 + 0 ≤ _), (by decide : 4 + 0 ≤ _)⟩)
            dsimp only [Pt.U, Pt.locs, Pt.cells, Pt.slots] at X118 l118 y118 z118 st118 hQ118
            subst y118 z118
            obtain ⟨rfl, N118q, e118⟩ := hQ118
            refine own_step (fun t k => st118.trans k) ?_
            have N120 : Fr n0 L118 := by rw [l118]; exact Fr.app N98 N118q
            show own_Ends p.tables e below s _ _ _ (T118.setTop (mkF m 95 #[.val (.long y0_0), .second, .val (.long y1_0), .second, .val (.long y2_0), .second, .val (.long y3_0), .second, .val (.int x4_0), .val (.ref b1), .val (.long y2_0), .second, .val (.long y1_0), .second, .val (.int (((x4_0.toUInt32 >>> ((2 : Int32) &&& 31).toUInt32).toInt32) &&& (3 : Int32))), .val (.ref b94), .val (.int (0 : Int32))] [(.int (own_r4 y2_0 y0_0 y1_0 y1_0))]))
            refine own_step (fun t k => XS.iload X118.here hx rfl (hb hby at_95) rfl k) ?_
            show own_Ends p.tables e below s _ _ _ (T118.setTop (mkF m 97 #[.val (.long y0_0), .second, .val (.long y1_0), .second, .val (.long y2_0), .second, .val (.long y3_0), .second, .val (.int x4_0), .val (.ref b1), .val (.long y2_0), .second, .val (.long y1_0), .second, .val (.int (((x4_0.toUInt32 >>> ((2 : Int32) &&& 31).toUInt32).toInt32) &&& (3 : Int32))), .val (.ref b94), .val (.int (0 : Int32))] [(.int (0 : Int32)), (.int (own_r4 y2_0 y0_0 y1_0 y1_0))]))
            by_cases hc97_121 : (own_r4 y2_0 y0_0 y1_0 y1_0) = (0 : Int32)
            · skip
              refine own_step (fun t k => XS.icmpNo X118.here hx rfl (hb hby at_97) rfl (teq hc97_121).2 k) ?_
              show own_Ends p.tables e below s _ _ _ (T118.setTop (mkF m 100 #[.val (.long y0_0), .second, .val (.long y1_0), .second, .val (.long y2_0), .second, .val (.long y3_0), .second, .val (.int x4_0), .val (.ref b1), .val (.long y2_0), .second, .val (.long y1_0), .second, .val (.int (((x4_0.toUInt32 >>> ((2 : Int32) &&& 31).toUInt32).toInt32) &&& (3 : Int32))), .val (.ref b94), .val (.int (0 : Int32))] []))
              refine own_step (fun t k => XS.aload X118.here hx rfl (hb hby at_100) rfl rfl k) ?_
              show own_Ends p.tables e below s _ _ _ (T118.setTop (mkF m 102 #[.val (.long y0_0), .second, .val (.long y1_0), .second, .val (.long y2_0), .second, .val (.long y3_0), .second, .val (.int x4_0), .val (.ref b1), .val (.long y2_0), .second, .val (.long y1_0), .second, .val (.int (((x4_0.toUInt32 >>> ((2 : Int32) &&& 31).toUInt32).toInt32) &&& (3 : Int32))), .val (.ref b94), .val (.int (0 : Int32))] [(.ref b94)]))
              refine own_step (fun t k => XS.aload X118.here hx rfl (hb hby at_102) rfl rfl k) ?_
              show own_Ends p.tables e below s _ _ _ (T118.setTop (mkF m 104 #[.val (.long y0_0), .second, .val (.long y1_0), .second, .val (.long y2_0), .second, .val (.long y3_0), .second, .val (.int x4_0), .val (.ref b1), .val (.long y2_0), .second, .val (.long y1_0), .second, .val (.int (((x4_0.toUInt32 >>> ((2 : Int32) &&& 31).toUInt32).toInt32) &&& (3 : Int32))), .val (.ref b94), .val (.int (0 : Int32))] [(.ref b1), (.ref b94)]))
              obtain ⟨cq122, kq122, q122a, q122b, q122c⟩ := isOf hZ e118 p97_0
              obtain ⟨_, _, ⟨T122, L122, k122, n122⟩, -, X122, ⟨Lc122, hQ122, l122, y122, z122⟩, st122⟩ := X118.virtualBack hx (y := (⟨"com/example/swanhall/swanhall/core/Cell", "equals", "(Ljava/lang/Object;)Z"⟩ : MethodName)) (z := (⟨"com/example/swanhall/swanhall/core/Cell", "equals", "(Ljava/lang/Object;)Z"⟩ : MethodName)) hown (mvT hZ (hw _ (List.mem_of_getElem? (i := 18) rfl))) (mvT hZ (hw _ (List.mem_of_getElem? (i := 19) rfl))) (notFace_of_selects (args := #[]) (mvT hZ (hw _ (List.mem_of_getElem? (i := 21) rfl)))) (mvT hZ (hw _ (List.mem_of_getElem? (i := 21) rfl))) (mvT hZ (hw _ (List.mem_of_getElem? (i := 20) rfl))) (by decide) (backOf (W := 0) (rm4 l Z a0 hw [] b94 b1 y0_0 y2_0 y1_0 y1_0 T97.heap n0 O117 F119 F115 p97_1 F116 p97_2) hZ (hw _ (List.mem_of_getElem? (i := 22) rfl)) (hw _ (List.mem_of_getElem? (i := 2) rfl)) (by decide) (by decide)) q122a q122c (g := (mkF m 104 #[.val (.long y0_0), .second, .val (.long y1_0), .second, .val (.long y2_0), .second, .val (.long y3_0), .second, .val (.int x4_0), .val (.ref b1), .val (.long y2_0), .second, .val (.long y1_0), .second, .val (.int (((x4_0.toUInt32 >>> ((2 : Int32) &&& 31).toUInt32).toInt32) &&& (3 : Int32))), .val (.ref b94), .val (.int (0 : Int32))] [(.ref b1), (.ref b94)])) rfl (by rw [hml]; rfl) (Steps.refl _) (argsL := [(.ref b1)]) (rest := []) (lenOf pd_3 rfl) rfl (by show 2 * 0 + _ ≤ _; exact Nat.le_of_eq rfl) (hb hby at_104) (fun _ _ => ⟨rfl, e118, (by decide : 2 + 0 ≤ _), (by decide : 4 + 0 ≤ _)⟩)
              dsimp only [Pt.U, Pt.locs, Pt.cells, Pt.slots] at X122 l122 y122 z122 st122 hQ122
              subst y122 z122
              obtain ⟨rfl, N122q, e122⟩ := hQ122
              refine own_step (fun t k => st122.trans k) ?_
              have N123 : Fr n0 L122 := by rw [l122]; exact Fr.app N120 N122q
              show own_Ends p.tables e below s _ _ _ (T122.setTop (mkF m 107 #[.val (.long y0_0), .second, .val (.long y1_0), .second, .val (.long y2_0), .second, .val (.long y3_0), .second, .val (.int x4_0), .val (.ref b1), .val (.long y2_0), .second, .val (.long y1_0), .second, .val (.int (((x4_0.toUInt32 >>> ((2 : Int32) &&& 31).toUInt32).toInt32) &&& (3 : Int32))), .val (.ref b94), .val (.int (0 : Int32))] [(.int (own_r4 y0_0 y2_0 y1_0 y1_0))]))
              refine own_step (fun t k => XS.iload X122.here hx rfl (hb hby at_107) rfl k) ?_
              show own_Ends p.tables e below s _ _ _ (T122.setTop (mkF m 109 #[.val (.long y0_0), .second, .val (.long y1_0), .second, .val (.long y2_0), .second, .val (.long y3_0), .second, .val (.int x4_0), .val (.ref b1), .val (.long y2_0), .second, .val (.long y1_0), .second, .val (.int (((x4_0.toUInt32 >>> ((2 : Int32) &&& 31).toUInt32).toInt32) &&& (3 : Int32))), .val (.ref b94), .val (.int (0 : Int32))] [(.int (0 : Int32)), (.int (own_r4 y0_0 y2_0 y1_0 y1_0))]))
              by_cases hc109_124 : (own_r4 y0_0 y2_0 y1_0 y1_0) = (0 : Int32)
              · skip
                refine own_step (fun t k => XS.icmpNo X122.here hx rfl (hb hby at_109) rfl (teq hc109_124).2 k) ?_
                show own_Ends p.tables e below s _ _ _ (T122.setTop (mkF m 112 #[.val (.long y0_0), .second, .val (.long y1_0), .second, .val (.long y2_0), .second, .val (.long y3_0), .second, .val (.int x4_0), .val (.ref b1), .val (.long y2_0), .second, .val (.long y1_0), .second, .val (.int (((x4_0.toUInt32 >>> ((2 : Int32) &&& 31).toUInt32).toInt32) &&& (3 : Int32))), .val (.ref b94), .val (.int (0 : Int32))] []))
                refine own_step (fun t k => XS.aload X122.here hx rfl (hb hby at_112) rfl rfl k) ?_
                show own_Ends p.tables e below s _ _ _ (T122.setTop (mkF m 114 #[.val (.long y0_0), .second, .val (.long y1_0), .second, .val (.long y2_0), .second, .val (.long y3_0), .second, .val (.int x4_0), .val (.ref b1), .val (.long y2_0), .second, .val (.long y1_0), .second, .val (.int (((x4_0.toUInt32 >>> ((2 : Int32) &&& 31).toUInt32).toInt32) &&& (3 : Int32))), .val (.ref b94), .val (.int (0 : Int32))] [(.ref b1)]))
                refine own_step (fun t k => XS.aload X122.here hx rfl (hb hby at_114) rfl rfl k) ?_
                show own_Ends p.tables e below s _ _ _ (T122.setTop (mkF m 116 #[.val (.long y0_0), .second, .val (.long y1_0), .second, .val (.long y2_0), .second, .val (.long y3_0), .second, .val (.int x4_0), .val (.ref b1), .val (.long y2_0), .second, .val (.long y1_0), .second, .val (.int (((x4_0.toUInt32 >>> ((2 : Int32) &&& 31).toUInt32).toInt32) &&& (3 : Int32))), .val (.ref b94), .val (.int (0 : Int32))] [(.ref b1), (.ref b1)]))
                obtain ⟨cq125, kq125, q125a, q125b, q125c⟩ := isOf hZ e122 F119
                obtain ⟨_, _, ⟨T125, L125, k125, n125⟩, -, X125, ⟨Lc125, hQ125, l125, y125, z125⟩, st125⟩ := X122.virtualBack hx (y := (⟨"com/example/swanhall/swanhall/core/Cell", "equals", "(Ljava/lang/Object;)Z"⟩ : MethodName)) (z := (⟨"com/example/swanhall/swanhall/core/Cell", "equals", "(Ljava/lang/Object;)Z"⟩ : MethodName)) hown (mvT hZ (hw _ (List.mem_of_getElem? (i := 18) rfl))) (mvT hZ (hw _ (List.mem_of_getElem? (i := 19) rfl))) (notFace_of_selects (args := #[]) (mvT hZ (hw _ (List.mem_of_getElem? (i := 21) rfl)))) (mvT hZ (hw _ (List.mem_of_getElem? (i := 21) rfl))) (mvT hZ (hw _ (List.mem_of_getElem? (i := 20) rfl))) (by decide) (backOf (W := 0) (rm4 l Z a0 hw [] b1 b1 y0_0 y0_0 y1_0 y1_0 T97.heap n0 O117 F119 F115 F115 F116 F116) hZ (hw _ (List.mem_of_getElem? (i := 22) rfl)) (hw _ (List.mem_of_getElem? (i := 2) rfl)) (by decide) (by decide)) q125a q125c (g := (mkF m 116 #[.val (.long y0_0), .second, .val (.long y1_0), .second, .val (.long y2_0), .second, .val (.long y3_0), .second, .val (.int x4_0), .val (.ref b1), .val (.long y2_0), .second, .val (.long y1_0), .second, .val (.int (((x4_0.toUInt32 >>> ((2 : Int32) &&& 31).toUInt32).toInt32) &&& (3 : Int32))), .val (.ref b94), .val (.int (0 : Int32))] [(.ref b1), (.ref b1)])) rfl (by rw [hml]; rfl) (Steps.refl _) (argsL := [(.ref b1)]) (rest := []) (lenOf pd_3 rfl) rfl (by show 2 * 0 + _ ≤ _; exact Nat.le_of_eq rfl) (hb hby at_116) (fun _ _ => ⟨rfl, e122, (by decide : 2 + 0 ≤ _), (by decide : 4 + 0 ≤ _)⟩)
                dsimp only [Pt.U, Pt.locs, Pt.cells, Pt.slots] at X125 l125 y125 z125 st125 hQ125
                subst y125 z125
                obtain ⟨rfl, N125q, e125⟩ := hQ125
                refine own_step (fun t k => st125.trans k) ?_
                have N126 : Fr n0 L125 := by rw [l125]; exact Fr.app N123 N125q
                show own_Ends p.tables e below s _ _ _ (T125.setTop (mkF m 119 #[.val (.long y0_0), .second, .val (.long y1_0), .second, .val (.long y2_0), .second, .val (.long y3_0), .second, .val (.int x4_0), .val (.ref b1), .val (.long y2_0), .second, .val (.long y1_0), .second, .val (.int (((x4_0.toUInt32 >>> ((2 : Int32) &&& 31).toUInt32).toInt32) &&& (3 : Int32))), .val (.ref b94), .val (.int (0 : Int32))] [(.int (own_r4 y0_0 y0_0 y1_0 y1_0))]))
                by_cases hc119_127 : (own_r4 y0_0 y0_0 y1_0 y1_0) = (0 : Int32)
                · skip
                  refine own_step (fun t k => XS.ifYes X125.here hx rfl (pc0 := 119) (pc' := 126) rfl (hb hby at_119) rfl ((if0 _ _).trans (teq hc119_127).1) (by decide) (by decide) k) ?_
                  show own_Ends p.tables e below s _ _ _ (T125.setTop (mkF m 126 #[.val (.long y0_0), .second, .val (.long y1_0), .second, .val (.long y2_0), .second, .val (.long y3_0), .second, .val (.int x4_0), .val (.ref b1), .val (.long y2_0), .second, .val (.long y1_0), .second, .val (.int (((x4_0.toUInt32 >>> ((2 : Int32) &&& 31).toUInt32).toInt32) &&& (3 : Int32))), .val (.ref b94), .val (.int (0 : Int32))] []))
                  refine own_step (fun t k => XS.iconst X125.here hx rfl (hb hby at_126) k) ?_
                  show own_Ends p.tables e below s _ _ _ (T125.setTop (mkF m 127 #[.val (.long y0_0), .second, .val (.long y1_0), .second, .val (.long y2_0), .second, .val (.long y3_0), .second, .val (.int x4_0), .val (.ref b1), .val (.long y2_0), .second, .val (.long y1_0), .second, .val (.int (((x4_0.toUInt32 >>> ((2 : Int32) &&& 31).toUInt32).toInt32) &&& (3 : Int32))), .val (.ref b94), .val (.int (0 : Int32))] [(.int (0 : Int32))]))
                  exfalso
                  exact absurd hc119_127 (by rw [own_eq4]; simp)
                · skip
                  refine own_step (fun t k => XS.ifNo X125.here hx rfl (hb hby at_119) rfl ((if0 _ _).trans (feq hc119_127).1) k) ?_
                  show own_Ends p.tables e below s _ _ _ (T125.setTop (mkF m 122 #[.val (.long y0_0), .second, .val (.long y1_0), .second, .val (.long y2_0), .second, .val (.long y3_0), .second, .val (.int x4_0), .val (.ref b1), .val (.long y2_0), .second, .val (.long y1_0), .second, .val (.int (((x4_0.toUInt32 >>> ((2 : Int32) &&& 31).toUInt32).toInt32) &&& (3 : Int32))), .val (.ref b94), .val (.int (0 : Int32))] []))
                  refine own_step (fun t k => XS.iconst X125.here hx rfl (hb hby at_122) k) ?_
                  show own_Ends p.tables e below s _ _ _ (T125.setTop (mkF m 123 #[.val (.long y0_0), .second, .val (.long y1_0), .second, .val (.long y2_0), .second, .val (.long y3_0), .second, .val (.int x4_0), .val (.ref b1), .val (.long y2_0), .second, .val (.long y1_0), .second, .val (.int (((x4_0.toUInt32 >>> ((2 : Int32) &&& 31).toUInt32).toInt32) &&& (3 : Int32))), .val (.ref b94), .val (.int (0 : Int32))] [(.int (1 : Int32))]))
                  refine own_step (fun t k => XS.goto X125.here hx rfl (pc0 := 123) (pc' := 127) rfl (hb hby at_123) (by decide) (by decide) k) ?_
                  show own_Ends p.tables e below s _ _ _ (T125.setTop (mkF m 127 #[.val (.long y0_0), .second, .val (.long y1_0), .second, .val (.long y2_0), .second, .val (.long y3_0), .second, .val (.int x4_0), .val (.ref b1), .val (.long y2_0), .second, .val (.long y1_0), .second, .val (.int (((x4_0.toUInt32 >>> ((2 : Int32) &&& 31).toUInt32).toInt32) &&& (3 : Int32))), .val (.ref b94), .val (.int (0 : Int32))] [(.int (1 : Int32))]))
                  exact own_retN X125 hx (t := .boolean) Bd.returns (by simp) (hb hby at_127) hnl (by rw [e125]; exact ⟨rfl, N126⟩) (by decide) (by decide)
              · skip
                refine own_step (fun t k => XS.icmpYes X122.here hx rfl (pc0 := 109) (pc' := 126) rfl (hb hby at_109) rfl (feq hc109_124).2 (by decide) (by decide) k) ?_
                show own_Ends p.tables e below s _ _ _ (T122.setTop (mkF m 126 #[.val (.long y0_0), .second, .val (.long y1_0), .second, .val (.long y2_0), .second, .val (.long y3_0), .second, .val (.int x4_0), .val (.ref b1), .val (.long y2_0), .second, .val (.long y1_0), .second, .val (.int (((x4_0.toUInt32 >>> ((2 : Int32) &&& 31).toUInt32).toInt32) &&& (3 : Int32))), .val (.ref b94), .val (.int (0 : Int32))] []))
                refine own_step (fun t k => XS.iconst X122.here hx rfl (hb hby at_126) k) ?_
                show own_Ends p.tables e below s _ _ _ (T122.setTop (mkF m 127 #[.val (.long y0_0), .second, .val (.long y1_0), .second, .val (.long y2_0), .second, .val (.long y3_0), .second, .val (.int x4_0), .val (.ref b1), .val (.long y2_0), .second, .val (.long y1_0), .second, .val (.int (((x4_0.toUInt32 >>> ((2 : Int32) &&& 31).toUInt32).toInt32) &&& (3 : Int32))), .val (.ref b94), .val (.int (0 : Int32))] [(.int (0 : Int32))]))
                exfalso
                exact hc109_124 (by rw [own_eq4]; exact if_neg (fun q => hc78_101 ((own_lc _ _).mpr q.2)))
            · skip
              refine own_step (fun t k => XS.icmpYes X118.here hx rfl (pc0 := 97) (pc' := 126) rfl (hb hby at_97) rfl (feq hc97_121).2 (by decide) (by decide) k) ?_
              show own_Ends p.tables e below s _ _ _ (T118.setTop (mkF m 126 #[.val (.long y0_0), .second, .val (.long y1_0), .second, .val (.long y2_0), .second, .val (.long y3_0), .second, .val (.int x4_0), .val (.ref b1), .val (.long y2_0), .second, .val (.long y1_0), .second, .val (.int (((x4_0.toUInt32 >>> ((2 : Int32) &&& 31).toUInt32).toInt32) &&& (3 : Int32))), .val (.ref b94), .val (.int (0 : Int32))] []))
              refine own_step (fun t k => XS.iconst X118.here hx rfl (hb hby at_126) k) ?_
              show own_Ends p.tables e below s _ _ _ (T118.setTop (mkF m 127 #[.val (.long y0_0), .second, .val (.long y1_0), .second, .val (.long y2_0), .second, .val (.long y3_0), .second, .val (.int x4_0), .val (.ref b1), .val (.long y2_0), .second, .val (.long y1_0), .second, .val (.int (((x4_0.toUInt32 >>> ((2 : Int32) &&& 31).toUInt32).toInt32) &&& (3 : Int32))), .val (.ref b94), .val (.int (0 : Int32))] [(.int (0 : Int32))]))
              exfalso
              exact hc97_121 (by rw [own_eq4]; exact if_neg (fun q => hc78_101 ((own_lc _ _).mpr q.2)))
        · skip
          refine own_step (fun t k => XS.ifYes X97.here hx rfl (pc0 := 71) (pc' := 85) rfl (hb hby at_71) rfl ((if0 _ _).trans (feq hc71_100).2) (by decide) (by decide) k) ?_
          show own_Ends p.tables e below s _ _ _ (T97.setTop (mkF m 85 #[.val (.long y0_0), .second, .val (.long y1_0), .second, .val (.long y2_0), .second, .val (.long y3_0), .second, .val (.int x4_0), .val (.ref b1), .val (.long y2_0), .second, .val (.long y1_0), .second, .val (.int (((x4_0.toUInt32 >>> ((2 : Int32) &&& 31).toUInt32).toInt32) &&& (3 : Int32))), .val (.ref b94), .unset] []))
          refine own_step (fun t k => XS.iconst X97.here hx rfl (hb hby at_85) k) ?_
          show own_Ends p.tables e below s _ _ _ (T97.setTop (mkF m 86 #[.val (.long y0_0), .second, .val (.long y1_0), .second, .val (.long y2_0), .second, .val (.long y3_0), .second, .val (.int x4_0), .val (.ref b1), .val (.long y2_0), .second, .val (.long y1_0), .second, .val (.int (((x4_0.toUInt32 >>> ((2 : Int32) &&& 31).toUInt32).toInt32) &&& (3 : Int32))), .val (.ref b94), .unset] [(.int (0 : Int32))]))
          refine own_step (fun t k => XS.istore X97.here hx rfl (hb hby at_86) rfl (l' := #[.val (.long y0_0), .second, .val (.long y1_0), .second, .val (.long y2_0), .second, .val (.long y3_0), .second, .val (.int x4_0), .val (.ref b1), .val (.long y2_0), .second, .val (.long y1_0), .second, .val (.int (((x4_0.toUInt32 >>> ((2 : Int32) &&& 31).toUInt32).toInt32) &&& (3 : Int32))), .val (.ref b94), .val (.int (0 : Int32))]) rfl k) ?_
          show own_Ends p.tables e below s _ _ _ (T97.setTop (mkF m 88 #[.val (.long y0_0), .second, .val (.long y1_0), .second, .val (.long y2_0), .second, .val (.long y3_0), .second, .val (.int x4_0), .val (.ref b1), .val (.long y2_0), .second, .val (.long y1_0), .second, .val (.int (((x4_0.toUInt32 >>> ((2 : Int32) &&& 31).toUInt32).toInt32) &&& (3 : Int32))), .val (.ref b94), .val (.int (0 : Int32))] []))
          refine own_step (fun t k => XS.aload X97.here hx rfl (hb hby at_88) rfl rfl k) ?_
          show own_Ends p.tables e below s _ _ _ (T97.setTop (mkF m 90 #[.val (.long y0_0), .second, .val (.long y1_0), .second, .val (.long y2_0), .second, .val (.long y3_0), .second, .val (.int x4_0), .val (.ref b1), .val (.long y2_0), .second, .val (.long y1_0), .second, .val (.int (((x4_0.toUInt32 >>> ((2 : Int32) &&& 31).toUInt32).toInt32) &&& (3 : Int32))), .val (.ref b94), .val (.int (0 : Int32))] [(.ref b1)]))
          refine own_step (fun t k => XS.aload X97.here hx rfl (hb hby at_90) rfl rfl k) ?_
          show own_Ends p.tables e below s _ _ _ (T97.setTop (mkF m 92 #[.val (.long y0_0), .second, .val (.long y1_0), .second, .val (.long y2_0), .second, .val (.long y3_0), .second, .val (.int x4_0), .val (.ref b1), .val (.long y2_0), .second, .val (.long y1_0), .second, .val (.int (((x4_0.toUInt32 >>> ((2 : Int32) &&& 31).toUInt32).toInt32) &&& (3 : Int32))), .val (.ref b94), .val (.int (0 : Int32))] [(.ref b94), (.ref b1)]))
          have F128 : Fld Z T97.heap b1 "com/example/swanhall/swanhall/core/Cell" "x" "J" (.long y0_0) := ((p4_1.ext E94).keep K97q (ninS ne_b1_b94 nin0))
          have F129 : Fld Z T97.heap b1 "com/example/swanhall/swanhall/core/Cell" "y" "J" (.long y1_0) := ((p4_2.ext E94).keep K97q (ninS ne_b1_b94 nin0))
          have O130 : Old Z n0 T97.heap := (O96.keep K97q (allS g_b94 all0))
          have F132 : Exa Z T97.heap b1 "com/example/swanhall/swanhall/core/Cell" := ((p4_0.ext E94).keep K97q)
          obtain ⟨cq131, kq131, q131a, q131b, q131c⟩ := isOf hZ rfl F132
          obtain ⟨_, _, ⟨T131, L131, k131, n131⟩, -, X131, ⟨Lc131, hQ131, l131, y131, z131⟩, st131⟩ := X97.virtualBack hx (y := (⟨"com/example/swanhall/swanhall/core/Cell", "equals", "(Ljava/lang/Object;)Z"⟩ : MethodName)) (z := (⟨"com/example/swanhall/swanhall/core/Cell", "equals", "(Ljava/lang/Object;)Z"⟩ : MethodName)) hown (mvT hZ (hw _ (List.mem_of_getElem? (i := 18) rfl))) (mvT hZ (hw _ (List.mem_of_getElem? (i := 19) rfl))) (notFace_of_selects (args := #[]) (mvT hZ (hw _ (List.mem_of_getElem? (i := 21) rfl)))) (mvT hZ (hw _ (List.mem_of_getElem? (i := 21) rfl))) (mvT hZ (hw _ (List.mem_of_getElem? (i := 20) rfl))) (by decide) (backOf (W := 0) (rm4 l Z a0 hw [] b1 b94 y2_0 y0_0 y1_0 y1_0 T97.heap n0 O130 p97_0 p97_1 F128 p97_2 F129) hZ (hw _ (List.mem_of_getElem? (i := 22) rfl)) (hw _ (List.mem_of_getElem? (i := 2) rfl)) (by decide) (by decide)) q131a q131c (g := (mkF m 92 #[.val (.long y0_0), .second, .val (.long y1_0), .second, .val (.long y2_0), .second, .val (.long y3_0), .second, .val (.int x4_0), .val (.ref b1), .val (.long y2_0), .second, .val (.long y1_0), .second, .val (.int (((x4_0.toUInt32 >>> ((2 : Int32) &&& 31).toUInt32).toInt32) &&& (3 : Int32))), .val (.ref b94), .val (.int (0 : Int32))] [(.ref b94), (.ref b1)])) rfl (by rw [hml]; rfl) (Steps.refl _) (argsL := [(.ref b94)]) (rest := []) (lenOf pd_3 rfl) rfl (by show 2 * 0 + _ ≤ _; exact Nat.le_of_eq rfl) (hb hby at_92) (fun _ _ => ⟨rfl, rfl, (by decide : 2 + 0 ≤ _), (by decide : 4 + 0 ≤ _)⟩)
          dsimp only [Pt.U, Pt.locs, Pt.cells, Pt.slots] at X131 l131 y131 z131 st131 hQ131
          subst y131 z131
          obtain ⟨rfl, N131q, e131⟩ := hQ131
          refine own_step (fun t k => st131.trans k) ?_
          have N133 : Fr n0 L131 := by rw [l131]; exact Fr.app N98 N131q
          show own_Ends p.tables e below s _ _ _ (T131.setTop (mkF m 95 #[.val (.long y0_0), .second, .val (.long y1_0), .second, .val (.long y2_0), .second, .val (.long y3_0), .second, .val (.int x4_0), .val (.ref b1), .val (.long y2_0), .second, .val (.long y1_0), .second, .val (.int (((x4_0.toUInt32 >>> ((2 : Int32) &&& 31).toUInt32).toInt32) &&& (3 : Int32))), .val (.ref b94), .val (.int (0 : Int32))] [(.int (own_r4 y2_0 y0_0 y1_0 y1_0))]))
          refine own_step (fun t k => XS.iload X131.here hx rfl (hb hby at_95) rfl k) ?_
          show own_Ends p.tables e below s _ _ _ (T131.setTop (mkF m 97 #[.val (.long y0_0), .second, .val (.long y1_0), .second, .val (.long y2_0), .second, .val (.long y3_0), .second, .val (.int x4_0), .val (.ref b1), .val (.long y2_0), .second, .val (.long y1_0), .second, .val (.int (((x4_0.toUInt32 >>> ((2 : Int32) &&& 31).toUInt32).toInt32) &&& (3 : Int32))), .val (.ref b94), .val (.int (0 : Int32))] [(.int (0 : Int32)), (.int (own_r4 y2_0 y0_0 y1_0 y1_0))]))
          by_cases hc97_134 : (own_r4 y2_0 y0_0 y1_0 y1_0) = (0 : Int32)
          · skip
            refine own_step (fun t k => XS.icmpNo X131.here hx rfl (hb hby at_97) rfl (teq hc97_134).2 k) ?_
            show own_Ends p.tables e below s _ _ _ (T131.setTop (mkF m 100 #[.val (.long y0_0), .second, .val (.long y1_0), .second, .val (.long y2_0), .second, .val (.long y3_0), .second, .val (.int x4_0), .val (.ref b1), .val (.long y2_0), .second, .val (.long y1_0), .second, .val (.int (((x4_0.toUInt32 >>> ((2 : Int32) &&& 31).toUInt32).toInt32) &&& (3 : Int32))), .val (.ref b94), .val (.int (0 : Int32))] []))
            refine own_step (fun t k => XS.aload X131.here hx rfl (hb hby at_100) rfl rfl k) ?_
            show own_Ends p.tables e below s _ _ _ (T131.setTop (mkF m 102 #[.val (.long y0_0), .second, .val (.long y1_0), .second, .val (.long y2_0), .second, .val (.long y3_0), .second, .val (.int x4_0), .val (.ref b1), .val (.long y2_0), .second, .val (.long y1_0), .second, .val (.int (((x4_0.toUInt32 >>> ((2 : Int32) &&& 31).toUInt32).toInt32) &&& (3 : Int32))), .val (.ref b94), .val (.int (0 : Int32))] [(.ref b94)]))
            refine own_step (fun t k => XS.aload X131.here hx rfl (hb hby at_102) rfl rfl k) ?_
            show own_Ends p.tables e below s _ _ _ (T131.setTop (mkF m 104 #[.val (.long y0_0), .second, .val (.long y1_0), .second, .val (.long y2_0), .second, .val (.long y3_0), .second, .val (.int x4_0), .val (.ref b1), .val (.long y2_0), .second, .val (.long y1_0), .second, .val (.int (((x4_0.toUInt32 >>> ((2 : Int32) &&& 31).toUInt32).toInt32) &&& (3 : Int32))), .val (.ref b94), .val (.int (0 : Int32))] [(.ref b1), (.ref b94)]))
            obtain ⟨cq135, kq135, q135a, q135b, q135c⟩ := isOf hZ e131 p97_0
            obtain ⟨_, _, ⟨T135, L135, k135, n135⟩, -, X135, ⟨Lc135, hQ135, l135, y135, z135⟩, st135⟩ := X131.virtualBack hx (y := (⟨"com/example/swanhall/swanhall/core/Cell", "equals", "(Ljava/lang/Object;)Z"⟩ : MethodName)) (z := (⟨"com/example/swanhall/swanhall/core/Cell", "equals", "(Ljava/lang/Object;)Z"⟩ : MethodName)) hown (mvT hZ (hw _ (List.mem_of_getElem? (i := 18) rfl))) (mvT hZ (hw _ (List.mem_of_getElem? (i := 19) rfl))) (notFace_of_selects (args := #[]) (mvT hZ (hw _ (List.mem_of_getElem? (i := 21) rfl)))) (mvT hZ (hw _ (List.mem_of_getElem? (i := 21) rfl))) (mvT hZ (hw _ (List.mem_of_getElem? (i := 20) rfl))) (by decide) (backOf (W := 0) (rm4 l Z a0 hw [] b94 b1 y0_0 y2_0 y1_0 y1_0 T97.heap n0 O130 F132 F128 p97_1 F129 p97_2) hZ (hw _ (List.mem_of_getElem? (i := 22) rfl)) (hw _ (List.mem_of_getElem? (i := 2) rfl)) (by decide) (by decide)) q135a q135c (g := (mkF m 104 #[.val (.long y0_0), .second, .val (.long y1_0), .second, .val (.long y2_0), .second, .val (.long y3_0), .second, .val (.int x4_0), .val (.ref b1), .val (.long y2_0), .second, .val (.long y1_0), .second, .val (.int (((x4_0.toUInt32 >>> ((2 : Int32) &&& 31).toUInt32).toInt32) &&& (3 : Int32))), .val (.ref b94), .val (.int (0 : Int32))] [(.ref b1), (.ref b94)])) rfl (by rw [hml]; rfl) (Steps.refl _) (argsL := [(.ref b1)]) (rest := []) (lenOf pd_3 rfl) rfl (by show 2 * 0 + _ ≤ _; exact Nat.le_of_eq rfl) (hb hby at_104) (fun _ _ => ⟨rfl, e131, (by decide : 2 + 0 ≤ _), (by decide : 4 + 0 ≤ _)⟩)
            dsimp only [Pt.U, Pt.locs, Pt.cells, Pt.slots] at X135 l135 y135 z135 st135 hQ135
            subst y135 z135
            obtain ⟨rfl, N135q, e135⟩ := hQ135
            refine own_step (fun t k => st135.trans k) ?_
            have N136 : Fr n0 L135 := by rw [l135]; exact Fr.app N133 N135q
            show own_Ends p.tables e below s _ _ _ (T135.setTop (mkF m 107 #[.val (.long y0_0), .second, .val (.long y1_0), .second, .val (.long y2_0), .second, .val (.long y3_0), .second, .val (.int x4_0), .val (.ref b1), .val (.long y2_0), .second, .val (.long y1_0), .second, .val (.int (((x4_0.toUInt32 >>> ((2 : Int32) &&& 31).toUInt32).toInt32) &&& (3 : Int32))), .val (.ref b94), .val (.int (0 : Int32))] [(.int (own_r4 y0_0 y2_0 y1_0 y1_0))]))
            refine own_step (fun t k => XS.iload X135.here hx rfl (hb hby at_107) rfl k) ?_
            show own_Ends p.tables e below s _ _ _ (T135.setTop (mkF m 109 #[.val (.long y0_0), .second, .val (.long y1_0), .second, .val (.long y2_0), .second, .val (.long y3_0), .second, .val (.int x4_0), .val (.ref b1), .val (.long y2_0), .second, .val (.long y1_0), .second, .val (.int (((x4_0.toUInt32 >>> ((2 : Int32) &&& 31).toUInt32).toInt32) &&& (3 : Int32))), .val (.ref b94), .val (.int (0 : Int32))] [(.int (0 : Int32)), (.int (own_r4 y0_0 y2_0 y1_0 y1_0))]))
            by_cases hc109_137 : (own_r4 y0_0 y2_0 y1_0 y1_0) = (0 : Int32)
            · skip
              refine own_step (fun t k => XS.icmpNo X135.here hx rfl (hb hby at_109) rfl (teq hc109_137).2 k) ?_
              show own_Ends p.tables e below s _ _ _ (T135.setTop (mkF m 112 #[.val (.long y0_0), .second, .val (.long y1_0), .second, .val (.long y2_0), .second, .val (.long y3_0), .second, .val (.int x4_0), .val (.ref b1), .val (.long y2_0), .second, .val (.long y1_0), .second, .val (.int (((x4_0.toUInt32 >>> ((2 : Int32) &&& 31).toUInt32).toInt32) &&& (3 : Int32))), .val (.ref b94), .val (.int (0 : Int32))] []))
              refine own_step (fun t k => XS.aload X135.here hx rfl (hb hby at_112) rfl rfl k) ?_
              show own_Ends p.tables e below s _ _ _ (T135.setTop (mkF m 114 #[.val (.long y0_0), .second, .val (.long y1_0), .second, .val (.long y2_0), .second, .val (.long y3_0), .second, .val (.int x4_0), .val (.ref b1), .val (.long y2_0), .second, .val (.long y1_0), .second, .val (.int (((x4_0.toUInt32 >>> ((2 : Int32) &&& 31).toUInt32).toInt32) &&& (3 : Int32))), .val (.ref b94), .val (.int (0 : Int32))] [(.ref b1)]))
              refine own_step (fun t k => XS.aload X135.here hx rfl (hb hby at_114) rfl rfl k) ?_
              show own_Ends p.tables e below s _ _ _ (T135.setTop (mkF m 116 #[.val (.long y0_0), .second, .val (.long y1_0), .second, .val (.long y2_0), .second, .val (.long y3_0), .second, .val (.int x4_0), .val (.ref b1), .val (.long y2_0), .second, .val (.long y1_0), .second, .val (.int (((x4_0.toUInt32 >>> ((2 : Int32) &&& 31).toUInt32).toInt32) &&& (3 : Int32))), .val (.ref b94), .val (.int (0 : Int32))] [(.ref b1), (.ref b1)]))
              obtain ⟨cq138, kq138, q138a, q138b, q138c⟩ := isOf hZ e135 F132
              obtain ⟨_, _, ⟨T138, L138, k138, n138⟩, -, X138, ⟨Lc138, hQ138, l138, y138, z138⟩, st138⟩ := X135.virtualBack hx (y := (⟨"com/example/swanhall/swanhall/core/Cell", "equals", "(Ljava/lang/Object;)Z"⟩ : MethodName)) (z := (⟨"com/example/swanhall/swanhall/core/Cell", "equals", "(Ljava/lang/Object;)Z"⟩ : MethodName)) hown (mvT hZ (hw _ (List.mem_of_getElem? (i := 18) rfl))) (mvT hZ (hw _ (List.mem_of_getElem? (i := 19) rfl))) (notFace_of_selects (args := #[]) (mvT hZ (hw _ (List.mem_of_getElem? (i := 21) rfl)))) (mvT hZ (hw _ (List.mem_of_getElem? (i := 21) rfl))) (mvT hZ (hw _ (List.mem_of_getElem? (i := 20) rfl))) (by decide) (backOf (W := 0) (rm4 l Z a0 hw [] b1 b1 y0_0 y0_0 y1_0 y1_0 T97.heap n0 O130 F132 F128 F128 F129 F129) hZ (hw _ (List.mem_of_getElem? (i := 22) rfl)) (hw _ (List.mem_of_getElem? (i := 2) rfl)) (by decide) (by decide)) q138a q138c (g := (mkF m 116 #[.val (.long y0_0), .second, .val (.long y1_0), .second, .val (.long y2_0), .second, .val (.long y3_0), .second, .val (.int x4_0), .val (.ref b1), .val (.long y2_0), .second, .val (.long y1_0), .second, .val (.int (((x4_0.toUInt32 >>> ((2 : Int32) &&& 31).toUInt32).toInt32) &&& (3 : Int32))), .val (.ref b94), .val (.int (0 : Int32))] [(.ref b1), (.ref b1)])) rfl (by rw [hml]; rfl) (Steps.refl _) (argsL := [(.ref b1)]) (rest := []) (lenOf pd_3 rfl) rfl (by show 2 * 0 + _ ≤ _; exact Nat.le_of_eq rfl) (hb hby at_116) (fun _ _ => ⟨rfl, e135, (by decide : 2 + 0 ≤ _), (by decide : 4 + 0 ≤ _)⟩)
              dsimp only [Pt.U, Pt.locs, Pt.cells, Pt.slots] at X138 l138 y138 z138 st138 hQ138
              subst y138 z138
              obtain ⟨rfl, N138q, e138⟩ := hQ138
              refine own_step (fun t k => st138.trans k) ?_
              have N139 : Fr n0 L138 := by rw [l138]; exact Fr.app N136 N138q
              show own_Ends p.tables e below s _ _ _ (T138.setTop (mkF m 119 #[.val (.long y0_0), .second, .val (.long y1_0), .second, .val (.long y2_0), .second, .val (.long y3_0), .second, .val (.int x4_0), .val (.ref b1), .val (.long y2_0), .second, .val (.long y1_0), .second, .val (.int (((x4_0.toUInt32 >>> ((2 : Int32) &&& 31).toUInt32).toInt32) &&& (3 : Int32))), .val (.ref b94), .val (.int (0 : Int32))] [(.int (own_r4 y0_0 y0_0 y1_0 y1_0))]))
              by_cases hc119_140 : (own_r4 y0_0 y0_0 y1_0 y1_0) = (0 : Int32)
              · skip
                refine own_step (fun t k => XS.ifYes X138.here hx rfl (pc0 := 119) (pc' := 126) rfl (hb hby at_119) rfl ((if0 _ _).trans (teq hc119_140).1) (by decide) (by decide) k) ?_
                show own_Ends p.tables e below s _ _ _ (T138.setTop (mkF m 126 #[.val (.long y0_0), .second, .val (.long y1_0), .second, .val (.long y2_0), .second, .val (.long y3_0), .second, .val (.int x4_0), .val (.ref b1), .val (.long y2_0), .second, .val (.long y1_0), .second, .val (.int (((x4_0.toUInt32 >>> ((2 : Int32) &&& 31).toUInt32).toInt32) &&& (3 : Int32))), .val (.ref b94), .val (.int (0 : Int32))] []))
                refine own_step (fun t k => XS.iconst X138.here hx rfl (hb hby at_126) k) ?_
                show own_Ends p.tables e below s _ _ _ (T138.setTop (mkF m 127 #[.val (.long y0_0), .second, .val (.long y1_0), .second, .val (.long y2_0), .second, .val (.long y3_0), .second, .val (.int x4_0), .val (.ref b1), .val (.long y2_0), .second, .val (.long y1_0), .second, .val (.int (((x4_0.toUInt32 >>> ((2 : Int32) &&& 31).toUInt32).toInt32) &&& (3 : Int32))), .val (.ref b94), .val (.int (0 : Int32))] [(.int (0 : Int32))]))
                exfalso
                exact absurd hc119_140 (by rw [own_eq4]; simp)
              · skip
                refine own_step (fun t k => XS.ifNo X138.here hx rfl (hb hby at_119) rfl ((if0 _ _).trans (feq hc119_140).1) k) ?_
                show own_Ends p.tables e below s _ _ _ (T138.setTop (mkF m 122 #[.val (.long y0_0), .second, .val (.long y1_0), .second, .val (.long y2_0), .second, .val (.long y3_0), .second, .val (.int x4_0), .val (.ref b1), .val (.long y2_0), .second, .val (.long y1_0), .second, .val (.int (((x4_0.toUInt32 >>> ((2 : Int32) &&& 31).toUInt32).toInt32) &&& (3 : Int32))), .val (.ref b94), .val (.int (0 : Int32))] []))
                refine own_step (fun t k => XS.iconst X138.here hx rfl (hb hby at_122) k) ?_
                show own_Ends p.tables e below s _ _ _ (T138.setTop (mkF m 123 #[.val (.long y0_0), .second, .val (.long y1_0), .second, .val (.long y2_0), .second, .val (.long y3_0), .second, .val (.int x4_0), .val (.ref b1), .val (.long y2_0), .second, .val (.long y1_0), .second, .val (.int (((x4_0.toUInt32 >>> ((2 : Int32) &&& 31).toUInt32).toInt32) &&& (3 : Int32))), .val (.ref b94), .val (.int (0 : Int32))] [(.int (1 : Int32))]))
                refine own_step (fun t k => XS.goto X138.here hx rfl (pc0 := 123) (pc' := 127) rfl (hb hby at_123) (by decide) (by decide) k) ?_
                show own_Ends p.tables e below s _ _ _ (T138.setTop (mkF m 127 #[.val (.long y0_0), .second, .val (.long y1_0), .second, .val (.long y2_0), .second, .val (.long y3_0), .second, .val (.int x4_0), .val (.ref b1), .val (.long y2_0), .second, .val (.long y1_0), .second, .val (.int (((x4_0.toUInt32 >>> ((2 : Int32) &&& 31).toUInt32).toInt32) &&& (3 : Int32))), .val (.ref b94), .val (.int (0 : Int32))] [(.int (1 : Int32))]))
                exact own_retN X138 hx (t := .boolean) Bd.returns (by simp) (hb hby at_127) hnl (by rw [e138]; exact ⟨rfl, N139⟩) (by decide) (by decide)
            · skip
              refine own_step (fun t k => XS.icmpYes X135.here hx rfl (pc0 := 109) (pc' := 126) rfl (hb hby at_109) rfl (feq hc109_137).2 (by decide) (by decide) k) ?_
              show own_Ends p.tables e below s _ _ _ (T135.setTop (mkF m 126 #[.val (.long y0_0), .second, .val (.long y1_0), .second, .val (.long y2_0), .second, .val (.long y3_0), .second, .val (.int x4_0), .val (.ref b1), .val (.long y2_0), .second, .val (.long y1_0), .second, .val (.int (((x4_0.toUInt32 >>> ((2 : Int32) &&& 31).toUInt32).toInt32) &&& (3 : Int32))), .val (.ref b94), .val (.int (0 : Int32))] []))
              refine own_step (fun t k => XS.iconst X135.here hx rfl (hb hby at_126) k) ?_
              show own_Ends p.tables e below s _ _ _ (T135.setTop (mkF m 127 #[.val (.long y0_0), .second, .val (.long y1_0), .second, .val (.long y2_0), .second, .val (.long y3_0), .second, .val (.int x4_0), .val (.ref b1), .val (.long y2_0), .second, .val (.long y1_0), .second, .val (.int (((x4_0.toUInt32 >>> ((2 : Int32) &&& 31).toUInt32).toInt32) &&& (3 : Int32))), .val (.ref b94), .val (.int (0 : Int32))] [(.int (0 : Int32))]))
              exfalso
              exact hc109_137 (by rw [own_eq4]; exact if_neg (fun q => hc71_100 ((own_lc _ _).mpr q.1.symm)))
          · skip
            refine own_step (fun t k => XS.icmpYes X131.here hx rfl (pc0 := 97) (pc' := 126) rfl (hb hby at_97) rfl (feq hc97_134).2 (by decide) (by decide) k) ?_
            show own_Ends p.tables e below s _ _ _ (T131.setTop (mkF m 126 #[.val (.long y0_0), .second, .val (.long y1_0), .second, .val (.long y2_0), .second, .val (.long y3_0), .second, .val (.int x4_0), .val (.ref b1), .val (.long y2_0), .second, .val (.long y1_0), .second, .val (.int (((x4_0.toUInt32 >>> ((2 : Int32) &&& 31).toUInt32).toInt32) &&& (3 : Int32))), .val (.ref b94), .val (.int (0 : Int32))] []))
            refine own_step (fun t k => XS.iconst X131.here hx rfl (hb hby at_126) k) ?_
            show own_Ends p.tables e below s _ _ _ (T131.setTop (mkF m 127 #[.val (.long y0_0), .second, .val (.long y1_0), .second, .val (.long y2_0), .second, .val (.long y3_0), .second, .val (.int x4_0), .val (.ref b1), .val (.long y2_0), .second, .val (.long y1_0), .second, .val (.int (((x4_0.toUInt32 >>> ((2 : Int32) &&& 31).toUInt32).toInt32) &&& (3 : Int32))), .val (.ref b94), .val (.int (0 : Int32))] [(.int (0 : Int32))]))
            exfalso
            exact hc97_134 (by rw [own_eq4]; exact if_neg (fun q => hc71_100 ((own_lc _ _).mpr q.1)))
      · skip
        refine own_step (fun t k => XS.ifYes X4.here hx rfl (pc0 := 51) (pc' := 128) rfl (hb hby at_51) rfl ((if0 _ _).trans (feq hc51_92).2) (by decide) (by decide) k) ?_
        show own_Ends p.tables e below s _ _ _ (T4.setTop (mkF m 128 #[.val (.long y0_0), .second, .val (.long y1_0), .second, .val (.long y2_0), .second, .val (.long y3_0), .second, .val (.int x4_0), .val (.ref b1), .val (.long y2_0), .second, .val (.long y1_0), .second, .val (.int (((x4_0.toUInt32 >>> ((2 : Int32) &&& 31).toUInt32).toInt32) &&& (3 : Int32))), .unset, .unset] []))
        refine own_step (fun t k => XS.iload X4.here hx rfl (hb hby at_128) rfl k) ?_
        show own_Ends p.tables e below s _ _ _ (T4.setTop (mkF m 130 #[.val (.long y0_0), .second, .val (.long y1_0), .second, .val (.long y2_0), .second, .val (.long y3_0), .second, .val (.int x4_0), .val (.ref b1), .val (.long y2_0), .second, .val (.long y1_0), .second, .val (.int (((x4_0.toUInt32 >>> ((2 : Int32) &&& 31).toUInt32).toInt32) &&& (3 : Int32))), .unset, .unset] [(.int (((x4_0.toUInt32 >>> ((2 : Int32) &&& 31).toUInt32).toInt32) &&& (3 : Int32)))]))
        refine own_step (fun t k => XS.iconst X4.here hx rfl (hb hby at_130) k) ?_
        show own_Ends p.tables e below s _ _ _ (T4.setTop (mkF m 131 #[.val (.long y0_0), .second, .val (.long y1_0), .second, .val (.long y2_0), .second, .val (.long y3_0), .second, .val (.int x4_0), .val (.ref b1), .val (.long y2_0), .second, .val (.long y1_0), .second, .val (.int (((x4_0.toUInt32 >>> ((2 : Int32) &&& 31).toUInt32).toInt32) &&& (3 : Int32))), .unset, .unset] [(.int (1 : Int32)), (.int (((x4_0.toUInt32 >>> ((2 : Int32) &&& 31).toUInt32).toInt32) &&& (3 : Int32)))]))
        by_cases hc131_141 : (((x4_0.toUInt32 >>> ((2 : Int32) &&& 31).toUInt32).toInt32) &&& (3 : Int32)) = (1 : Int32)
        · skip
          refine own_step (fun t k => XS.icmpNo X4.here hx rfl (hb hby at_131) rfl (teq hc131_141).2 k) ?_
          show own_Ends p.tables e below s _ _ _ (T4.setTop (mkF m 134 #[.val (.long y0_0), .second, .val (.long y1_0), .second, .val (.long y2_0), .second, .val (.long y3_0), .second, .val (.int x4_0), .val (.ref b1), .val (.long y2_0), .second, .val (.long y1_0), .second, .val (.int (((x4_0.toUInt32 >>> ((2 : Int32) &&& 31).toUInt32).toInt32) &&& (3 : Int32))), .unset, .unset] []))
          refine own_step (fun t k => XS.aload X4.here hx rfl (hb hby at_134) rfl rfl k) ?_
          show own_Ends p.tables e below s _ _ _ (T4.setTop (mkF m 136 #[.val (.long y0_0), .second, .val (.long y1_0), .second, .val (.long y2_0), .second, .val (.long y3_0), .second, .val (.int x4_0), .val (.ref b1), .val (.long y2_0), .second, .val (.long y1_0), .second, .val (.int (((x4_0.toUInt32 >>> ((2 : Int32) &&& 31).toUInt32).toInt32) &&& (3 : Int32))), .unset, .unset] [(.ref b1)]))
          refine own_step (fun t k => XS.aconstNull X4.here hx rfl (hb hby at_136) k) ?_
          show own_Ends p.tables e below s _ _ _ (T4.setTop (mkF m 137 #[.val (.long y0_0), .second, .val (.long y1_0), .second, .val (.long y2_0), .second, .val (.long y3_0), .second, .val (.int x4_0), .val (.ref b1), .val (.long y2_0), .second, .val (.long y1_0), .second, .val (.int (((x4_0.toUInt32 >>> ((2 : Int32) &&& 31).toUInt32).toInt32) &&& (3 : Int32))), .unset, .unset] [.null, (.ref b1)]))
          have O142 : Old Z n0 T4.heap := (O3.keep K4q (allS g_b1 all0))
          obtain ⟨cq143, kq143, q143a, q143b, q143c⟩ := isOf hZ rfl p4_0
          obtain ⟨_, _, ⟨T143, L143, k143, n143⟩, -, X143, ⟨Lc143, hQ143, l143, y143, z143⟩, st143⟩ := X4.virtualBack hx (y := (⟨"com/example/swanhall/swanhall/core/Cell", "equals", "(Ljava/lang/Object;)Z"⟩ : MethodName)) (z := (⟨"com/example/swanhall/swanhall/core/Cell", "equals", "(Ljava/lang/Object;)Z"⟩ : MethodName)) hown (mvT hZ (hw _ (List.mem_of_getElem? (i := 18) rfl))) (mvT hZ (hw _ (List.mem_of_getElem? (i := 19) rfl))) (notFace_of_selects (args := #[]) (mvT hZ (hw _ (List.mem_of_getElem? (i := 21) rfl)))) (mvT hZ (hw _ (List.mem_of_getElem? (i := 21) rfl))) (mvT hZ (hw _ (List.mem_of_getElem? (i := 20) rfl))) (by decide) (backOf (W := 0) (rm4n l Z a0 hw [] b1 T4.heap n0 O142 ) hZ (hw _ (List.mem_of_getElem? (i := 22) rfl)) (hw _ (List.mem_of_getElem? (i := 2) rfl)) (by decide) (by decide)) q143a q143c (g := (mkF m 137 #[.val (.long y0_0), .second, .val (.long y1_0), .second, .val (.long y2_0), .second, .val (.long y3_0), .second, .val (.int x4_0), .val (.ref b1), .val (.long y2_0), .second, .val (.long y1_0), .second, .val (.int (((x4_0.toUInt32 >>> ((2 : Int32) &&& 31).toUInt32).toInt32) &&& (3 : Int32))), .unset, .unset] [.null, (.ref b1)])) rfl (by rw [hml]; rfl) (Steps.refl _) (argsL := [.null]) (rest := []) (lenOf pd_3 rfl) rfl (by show 2 * 0 + _ ≤ _; exact Nat.le_of_eq rfl) (hb hby at_137) (fun _ _ => ⟨rfl, rfl, (by decide : 1 + 0 ≤ _), (by decide : 2 + 0 ≤ _)⟩)
          dsimp only [Pt.U, Pt.locs, Pt.cells, Pt.slots] at X143 l143 y143 z143 st143 hQ143
          subst y143 z143
          obtain ⟨rfl, N143q, e143⟩ := hQ143
          refine own_step (fun t k => st143.trans k) ?_
          have N144 : Fr n0 L143 := by rw [l143]; exact Fr.app N5 N143q
          show own_Ends p.tables e below s _ _ _ (T143.setTop (mkF m 140 #[.val (.long y0_0), .second, .val (.long y1_0), .second, .val (.long y2_0), .second, .val (.long y3_0), .second, .val (.int x4_0), .val (.ref b1), .val (.long y2_0), .second, .val (.long y1_0), .second, .val (.int (((x4_0.toUInt32 >>> ((2 : Int32) &&& 31).toUInt32).toInt32) &&& (3 : Int32))), .unset, .unset] [(.int (0 : Int32))]))
          refine own_step (fun t k => XS.ifNo X143.here hx rfl (hb hby at_140) rfl ((if0 _ _).trans (teq (by decide : (0 : Int32) = (0 : Int32))).2) k) ?_
          show own_Ends p.tables e below s _ _ _ (T143.setTop (mkF m 143 #[.val (.long y0_0), .second, .val (.long y1_0), .second, .val (.long y2_0), .second, .val (.long y3_0), .second, .val (.int x4_0), .val (.ref b1), .val (.long y2_0), .second, .val (.long y1_0), .second, .val (.int (((x4_0.toUInt32 >>> ((2 : Int32) &&& 31).toUInt32).toInt32) &&& (3 : Int32))), .unset, .unset] []))
          refine own_step (fun t k => XS.iconst X143.here hx rfl (hb hby at_143) k) ?_
          show own_Ends p.tables e below s _ _ _ (T143.setTop (mkF m 144 #[.val (.long y0_0), .second, .val (.long y1_0), .second, .val (.long y2_0), .second, .val (.long y3_0), .second, .val (.int x4_0), .val (.ref b1), .val (.long y2_0), .second, .val (.long y1_0), .second, .val (.int (((x4_0.toUInt32 >>> ((2 : Int32) &&& 31).toUInt32).toInt32) &&& (3 : Int32))), .unset, .unset] [(.int (1 : Int32))]))
          refine own_step (fun t k => XS.goto X143.here hx rfl (pc0 := 144) (pc' := 148) rfl (hb hby at_144) (by decide) (by decide) k) ?_
          show own_Ends p.tables e below s _ _ _ (T143.setTop (mkF m 148 #[.val (.long y0_0), .second, .val (.long y1_0), .second, .val (.long y2_0), .second, .val (.long y3_0), .second, .val (.int x4_0), .val (.ref b1), .val (.long y2_0), .second, .val (.long y1_0), .second, .val (.int (((x4_0.toUInt32 >>> ((2 : Int32) &&& 31).toUInt32).toInt32) &&& (3 : Int32))), .unset, .unset] [(.int (1 : Int32))]))
          exact own_retN X143 hx (t := .boolean) Bd.returns (by simp) (hb hby at_148) hnl (by rw [e143]; exact ⟨rfl, N144⟩) (by decide) (by decide)
        · skip
          refine own_step (fun t k => XS.icmpYes X4.here hx rfl (pc0 := 131) (pc' := 149) rfl (hb hby at_131) rfl (feq hc131_141).2 (by decide) (by decide) k) ?_
          show own_Ends p.tables e below s _ _ _ (T4.setTop (mkF m 149 #[.val (.long y0_0), .second, .val (.long y1_0), .second, .val (.long y2_0), .second, .val (.long y3_0), .second, .val (.int x4_0), .val (.ref b1), .val (.long y2_0), .second, .val (.long y1_0), .second, .val (.int (((x4_0.toUInt32 >>> ((2 : Int32) &&& 31).toUInt32).toInt32) &&& (3 : Int32))), .unset, .unset] []))
          refine own_step (fun t k => XS.iload X4.here hx rfl (hb hby at_149) rfl k) ?_
          show own_Ends p.tables e below s _ _ _ (T4.setTop (mkF m 151 #[.val (.long y0_0), .second, .val (.long y1_0), .second, .val (.long y2_0), .second, .val (.long y3_0), .second, .val (.int x4_0), .val (.ref b1), .val (.long y2_0), .second, .val (.long y1_0), .second, .val (.int (((x4_0.toUInt32 >>> ((2 : Int32) &&& 31).toUInt32).toInt32) &&& (3 : Int32))), .unset, .unset] [(.int (((x4_0.toUInt32 >>> ((2 : Int32) &&& 31).toUInt32).toInt32) &&& (3 : Int32)))]))
          refine own_step (fun t k => XS.iconst X4.here hx rfl (hb hby at_151) k) ?_
          show own_Ends p.tables e below s _ _ _ (T4.setTop (mkF m 152 #[.val (.long y0_0), .second, .val (.long y1_0), .second, .val (.long y2_0), .second, .val (.long y3_0), .second, .val (.int x4_0), .val (.ref b1), .val (.long y2_0), .second, .val (.long y1_0), .second, .val (.int (((x4_0.toUInt32 >>> ((2 : Int32) &&& 31).toUInt32).toInt32) &&& (3 : Int32))), .unset, .unset] [(.int (2 : Int32)), (.int (((x4_0.toUInt32 >>> ((2 : Int32) &&& 31).toUInt32).toInt32) &&& (3 : Int32)))]))
          by_cases hc152_145 : (((x4_0.toUInt32 >>> ((2 : Int32) &&& 31).toUInt32).toInt32) &&& (3 : Int32)) = (2 : Int32)
          · skip
            refine own_step (fun t k => XS.icmpNo X4.here hx rfl (hb hby at_152) rfl (teq hc152_145).2 k) ?_
            show own_Ends p.tables e below s _ _ _ (T4.setTop (mkF m 155 #[.val (.long y0_0), .second, .val (.long y1_0), .second, .val (.long y2_0), .second, .val (.long y3_0), .second, .val (.int x4_0), .val (.ref b1), .val (.long y2_0), .second, .val (.long y1_0), .second, .val (.int (((x4_0.toUInt32 >>> ((2 : Int32) &&& 31).toUInt32).toInt32) &&& (3 : Int32))), .unset, .unset] []))
            refine own_step (fun t k => XS.aload X4.here hx rfl (hb hby at_155) rfl rfl k) ?_
            show own_Ends p.tables e below s _ _ _ (T4.setTop (mkF m 157 #[.val (.long y0_0), .second, .val (.long y1_0), .second, .val (.long y2_0), .second, .val (.long y3_0), .second, .val (.int x4_0), .val (.ref b1), .val (.long y2_0), .second, .val (.long y1_0), .second, .val (.int (((x4_0.toUInt32 >>> ((2 : Int32) &&& 31).toUInt32).toInt32) &&& (3 : Int32))), .unset, .unset] [(.ref b1)]))
            refine own_step (fun t k => XS.lloadN X4.here hx rfl (hb hby at_157) rfl k) ?_
            show own_Ends p.tables e below s _ _ _ (T4.setTop (mkF m 158 #[.val (.long y0_0), .second, .val (.long y1_0), .second, .val (.long y2_0), .second, .val (.long y3_0), .second, .val (.int x4_0), .val (.ref b1), .val (.long y2_0), .second, .val (.long y1_0), .second, .val (.int (((x4_0.toUInt32 >>> ((2 : Int32) &&& 31).toUInt32).toInt32) &&& (3 : Int32))), .unset, .unset] [(.long y0_0), (.ref b1)]))
            have O146 : Old Z n0 T4.heap := (O3.keep K4q (allS g_b1 all0))
            obtain ⟨_, _, ⟨T147, L147, k147, n147⟩, -, X147, ⟨Lc147, hQ147, l147, y147, z147⟩, st147⟩ := Jvm.LawKit.callS X4 hx (y := (⟨"java/lang/Long", "valueOf", "(J)Ljava/lang/Long;"⟩ : MethodName)) hown (mvT hZ (hw _ (List.mem_of_getElem? (i := 56) rfl))) (mvT hZ (hw _ (List.mem_of_getElem? (i := 57) rfl))) (mvT hZ (hw _ (List.mem_of_getElem? (i := 58) rfl))) (mvT hZ (hw _ (List.mem_of_getElem? (i := 59) rfl))) (by decide) (backOf (W := 1) (rm10 l Z a0 hw [] w_cache clC y0_0 T4.heap n0 O146 BXA BXS BXB S_cache) hZ (hw _ (List.mem_of_getElem? (i := 59) rfl)) (hw _ (List.mem_of_getElem? (i := 58) rfl)) (by decide) (by decide)) (g := (mkF m 158 #[.val (.long y0_0), .second, .val (.long y1_0), .second, .val (.long y2_0), .second, .val (.long y3_0), .second, .val (.int x4_0), .val (.ref b1), .val (.long y2_0), .second, .val (.long y1_0), .second, .val (.int (((x4_0.toUInt32 >>> ((2 : Int32) &&& 31).toUInt32).toInt32) &&& (3 : Int32))), .unset, .unset] [(.long y0_0), (.ref b1)])) rfl (by rw [hml]; rfl) (argsL := [(.long y0_0)]) (rest := [(.ref b1)]) (lenOf pd_4 rfl) rfl (by show 2 * 0 + _ ≤ _; exact Nat.le_of_eq rfl) (hb hby at_158) (fun _ _ => ⟨rfl, rfl, (by decide : 1 + 1 ≤ _), (by decide : 2 + 1 ≤ _)⟩)
            dsimp only [Pt.U, Pt.locs, Pt.cells, Pt.slots] at X147 l147 y147 z147 st147 hQ147
            subst y147 z147
            obtain ⟨rL_147, rfl, N147q, K147q, p147_0⟩ := hQ147
            refine own_step (fun t k => st147 _ k) ?_
            have N148 : Fr n0 L147 := by rw [l147]; exact Fr.app N5 N147q
            have K149 : Keep h0 T147.heap [] := K6.trans K147q all0
            show own_Ends p.tables e below s _ _ _ (T147.setTop (mkF m 161 #[.val (.long y0_0), .second, .val (.long y1_0), .second, .val (.long y2_0), .second, .val (.long y3_0), .second, .val (.int x4_0), .val (.ref b1), .val (.long y2_0), .second, .val (.long y1_0), .second, .val (.int (((x4_0.toUInt32 >>> ((2 : Int32) &&& 31).toUInt32).toInt32) &&& (3 : Int32))), .unset, .unset] [(.ref rL_147), (.ref b1)]))
            have O150 : Old Z n0 T147.heap := (O146.keep K147q all0)
            have F152 : Exa Z T147.heap b1 "com/example/swanhall/swanhall/core/Cell" := (p4_0.keep K147q)
            obtain ⟨cq151, kq151, q151a, q151b, q151c⟩ := isOf hZ rfl F152
            obtain ⟨_, _, ⟨T151, L151, k151, n151⟩, -, X151, ⟨Lc151, hQ151, l151, y151, z151⟩, st151⟩ := X147.virtualBack hx (y := (⟨"com/example/swanhall/swanhall/core/Cell", "equals", "(Ljava/lang/Object;)Z"⟩ : MethodName)) (z := (⟨"com/example/swanhall/swanhall/core/Cell", "equals", "(Ljava/lang/Object;)Z"⟩ : MethodName)) hown (mvT hZ (hw _ (List.mem_of_getElem? (i := 18) rfl))) (mvT hZ (hw _ (List.mem_of_getElem? (i := 19) rfl))) (notFace_of_selects (args := #[]) (mvT hZ (hw _ (List.mem_of_getElem? (i := 21) rfl)))) (mvT hZ (hw _ (List.mem_of_getElem? (i := 21) rfl))) (mvT hZ (hw _ (List.mem_of_getElem? (i := 20) rfl))) (by decide) (backOf (W := 0) (rm4l l Z a0 hw [] b1 rL_147 T147.heap n0 O150 p147_0) hZ (hw _ (List.mem_of_getElem? (i := 22) rfl)) (hw _ (List.mem_of_getElem? (i := 2) rfl)) (by decide) (by decide)) q151a q151c (g := (mkF m 161 #[.val (.long y0_0), .second, .val (.long y1_0), .second, .val (.long y2_0), .second, .val (.long y3_0), .second, .val (.int x4_0), .val (.ref b1), .val (.long y2_0), .second, .val (.long y1_0), .second, .val (.int (((x4_0.toUInt32 >>> ((2 : Int32) &&& 31).toUInt32).toInt32) &&& (3 : Int32))), .unset, .unset] [(.ref rL_147), (.ref b1)])) rfl (by rw [hml]; rfl) (Steps.refl _) (argsL := [(.ref rL_147)]) (rest := []) (lenOf pd_3 rfl) rfl (by show 2 * 0 + _ ≤ _; exact Nat.le_of_eq rfl) (hb hby at_161) (fun _ _ => ⟨rfl, rfl, (by decide : 2 + 0 ≤ _), (by decide : 3 + 0 ≤ _)⟩)
            dsimp only [Pt.U, Pt.locs, Pt.cells, Pt.slots] at X151 l151 y151 z151 st151 hQ151
            subst y151 z151
            obtain ⟨rfl, N151q, e151⟩ := hQ151
            refine own_step (fun t k => st151.trans k) ?_
            have N153 : Fr n0 L151 := by rw [l151]; exact Fr.app N148 N151q
            show own_Ends p.tables e below s _ _ _ (T151.setTop (mkF m 164 #[.val (.long y0_0), .second, .val (.long y1_0), .second, .val (.long y2_0), .second, .val (.long y3_0), .second, .val (.int x4_0), .val (.ref b1), .val (.long y2_0), .second, .val (.long y1_0), .second, .val (.int (((x4_0.toUInt32 >>> ((2 : Int32) &&& 31).toUInt32).toInt32) &&& (3 : Int32))), .unset, .unset] [(.int (0 : Int32))]))
            refine own_step (fun t k => XS.ifNo X151.here hx rfl (hb hby at_164) rfl ((if0 _ _).trans (teq (by decide : (0 : Int32) = (0 : Int32))).2) k) ?_
            show own_Ends p.tables e below s _ _ _ (T151.setTop (mkF m 167 #[.val (.long y0_0), .second, .val (.long y1_0), .second, .val (.long y2_0), .second, .val (.long y3_0), .second, .val (.int x4_0), .val (.ref b1), .val (.long y2_0), .second, .val (.long y1_0), .second, .val (.int (((x4_0.toUInt32 >>> ((2 : Int32) &&& 31).toUInt32).toInt32) &&& (3 : Int32))), .unset, .unset] []))
            refine own_step (fun t k => XS.iconst X151.here hx rfl (hb hby at_167) k) ?_
            show own_Ends p.tables e below s _ _ _ (T151.setTop (mkF m 168 #[.val (.long y0_0), .second, .val (.long y1_0), .second, .val (.long y2_0), .second, .val (.long y3_0), .second, .val (.int x4_0), .val (.ref b1), .val (.long y2_0), .second, .val (.long y1_0), .second, .val (.int (((x4_0.toUInt32 >>> ((2 : Int32) &&& 31).toUInt32).toInt32) &&& (3 : Int32))), .unset, .unset] [(.int (1 : Int32))]))
            refine own_step (fun t k => XS.goto X151.here hx rfl (pc0 := 168) (pc' := 172) rfl (hb hby at_168) (by decide) (by decide) k) ?_
            show own_Ends p.tables e below s _ _ _ (T151.setTop (mkF m 172 #[.val (.long y0_0), .second, .val (.long y1_0), .second, .val (.long y2_0), .second, .val (.long y3_0), .second, .val (.int x4_0), .val (.ref b1), .val (.long y2_0), .second, .val (.long y1_0), .second, .val (.int (((x4_0.toUInt32 >>> ((2 : Int32) &&& 31).toUInt32).toInt32) &&& (3 : Int32))), .unset, .unset] [(.int (1 : Int32))]))
            exact own_retN X151 hx (t := .boolean) Bd.returns (by simp) (hb hby at_172) hnl (by rw [e151]; exact ⟨rfl, N153⟩) (by decide) (by decide)
          · skip
            refine own_step (fun t k => XS.icmpYes X4.here hx rfl (pc0 := 152) (pc' := 173) rfl (hb hby at_152) rfl (feq hc152_145).2 (by decide) (by decide) k) ?_
            show own_Ends p.tables e below s _ _ _ (T4.setTop (mkF m 173 #[.val (.long y0_0), .second, .val (.long y1_0), .second, .val (.long y2_0), .second, .val (.long y3_0), .second, .val (.int x4_0), .val (.ref b1), .val (.long y2_0), .second, .val (.long y1_0), .second, .val (.int (((x4_0.toUInt32 >>> ((2 : Int32) &&& 31).toUInt32).toInt32) &&& (3 : Int32))), .unset, .unset] []))
            refine own_step (fun t k => XS.iconst X4.here hx rfl (hb hby at_173) k) ?_
            show own_Ends p.tables e below s _ _ _ (T4.setTop (mkF m 174 #[.val (.long y0_0), .second, .val (.long y1_0), .second, .val (.long y2_0), .second, .val (.long y3_0), .second, .val (.int x4_0), .val (.ref b1), .val (.long y2_0), .second, .val (.long y1_0), .second, .val (.int (((x4_0.toUInt32 >>> ((2 : Int32) &&& 31).toUInt32).toInt32) &&& (3 : Int32))), .unset, .unset] [(.int (1 : Int32))]))
            have O154 : Old Z n0 T4.heap := (O3.keep K4q (allS g_b1 all0))
            obtain ⟨T155, h155, k155, X155, e155, E155, A155, st155⟩ := newP X4 hx hZ (hw _ (List.mem_of_getElem? (i := 25) rfl)) rfl (g := (mkF m 174 #[.val (.long y0_0), .second, .val (.long y1_0), .second, .val (.long y2_0), .second, .val (.long y3_0), .second, .val (.int x4_0), .val (.ref b1), .val (.long y2_0), .second, .val (.long y1_0), .second, .val (.int (((x4_0.toUInt32 >>> ((2 : Int32) &&& 31).toUInt32).toInt32) &&& (3 : Int32))), .unset, .unset] [(.int (1 : Int32))])) rfl (hb hby at_174) rfl (by decide) (cap := 1) (by decide) (by decide) (by decide) (by decide)
            obtain ⟨b155, g155⟩ : ∃ z, z = T4.heap.size := ⟨_, rfl⟩
            rw [← g155] at A155 st155
            have g_b155 : n0 ≤ b155 := Nat.le_trans (Nat.le_trans (Nat.le_of_eq O154.1.symm) O154.2.1) (Nat.le_of_eq g155.symm)
            have sz_b155 : h0.size ≤ b155 := Nat.le_trans K6.1 (Nat.le_of_eq g155.symm)
            have ne_b1_b155 : b1 ≠ b155 := Nat.ne_of_lt (Nat.lt_of_lt_of_le p4_0.lt (Nat.le_of_eq g155.symm))
            have V155 : Arv Z h155 b155 k155 .char (1 : Int32) [] (.int (0 : Int32)) := Arv.new A155 (by decide)
            have V155p : Arv Z h155 b155 k155 .char (1 : Int32) [(.int (0 : Int32))] (.int (0 : Int32)) := V155.pad (pad_rep [] (.int (0 : Int32)) 1)
            refine own_step (fun t k => st155 _ k) ?_
            have K156 : Keep h0 h155 [] := K6.ext E155
            show own_Ends p.tables e below s _ _ _ (T155.setTop (mkF m 176 #[.val (.long y0_0), .second, .val (.long y1_0), .second, .val (.long y2_0), .second, .val (.long y3_0), .second, .val (.int x4_0), .val (.ref b1), .val (.long y2_0), .second, .val (.long y1_0), .second, .val (.int (((x4_0.toUInt32 >>> ((2 : Int32) &&& 31).toUInt32).toInt32) &&& (3 : Int32))), .unset, .unset] [(.ref b155)]))
            refine own_step (fun t k => XS.astore X155.here hx rfl (hb hby at_176) rfl rfl (l' := #[.val (.long y0_0), .second, .val (.long y1_0), .second, .val (.long y2_0), .second, .val (.long y3_0), .second, .val (.int x4_0), .val (.ref b1), .val (.long y2_0), .second, .val (.long y1_0), .second, .val (.int (((x4_0.toUInt32 >>> ((2 : Int32) &&& 31).toUInt32).toInt32) &&& (3 : Int32))), .val (.ref b155), .unset]) rfl k) ?_
            show own_Ends p.tables e below s _ _ _ (T155.setTop (mkF m 178 #[.val (.long y0_0), .second, .val (.long y1_0), .second, .val (.long y2_0), .second, .val (.long y3_0), .second, .val (.int x4_0), .val (.ref b1), .val (.long y2_0), .second, .val (.long y1_0), .second, .val (.int (((x4_0.toUInt32 >>> ((2 : Int32) &&& 31).toUInt32).toInt32) &&& (3 : Int32))), .val (.ref b155), .unset] []))
            refine own_step (fun t k => XS.aload X155.here hx rfl (hb hby at_178) rfl rfl k) ?_
            show own_Ends p.tables e below s _ _ _ (T155.setTop (mkF m 180 #[.val (.long y0_0), .second, .val (.long y1_0), .second, .val (.long y2_0), .second, .val (.long y3_0), .second, .val (.int x4_0), .val (.ref b1), .val (.long y2_0), .second, .val (.long y1_0), .second, .val (.int (((x4_0.toUInt32 >>> ((2 : Int32) &&& 31).toUInt32).toInt32) &&& (3 : Int32))), .val (.ref b155), .unset] [(.ref b155)]))
            refine own_step (fun t k => XS.iconst X155.here hx rfl (hb hby at_180) k) ?_
            show own_Ends p.tables e below s _ _ _ (T155.setTop (mkF m 181 #[.val (.long y0_0), .second, .val (.long y1_0), .second, .val (.long y2_0), .second, .val (.long y3_0), .second, .val (.int x4_0), .val (.ref b1), .val (.long y2_0), .second, .val (.long y1_0), .second, .val (.int (((x4_0.toUInt32 >>> ((2 : Int32) &&& 31).toUInt32).toInt32) &&& (3 : Int32))), .val (.ref b155), .unset] [(.int (0 : Int32)), (.ref b155)]))
            refine own_step (fun t k => XS.lloadN X155.here hx rfl (hb hby at_181) rfl k) ?_
            show own_Ends p.tables e below s _ _ _ (T155.setTop (mkF m 182 #[.val (.long y0_0), .second, .val (.long y1_0), .second, .val (.long y2_0), .second, .val (.long y3_0), .second, .val (.int x4_0), .val (.ref b1), .val (.long y2_0), .second, .val (.long y1_0), .second, .val (.int (((x4_0.toUInt32 >>> ((2 : Int32) &&& 31).toUInt32).toInt32) &&& (3 : Int32))), .val (.ref b155), .unset] [(.long y0_0), (.int (0 : Int32)), (.ref b155)]))
            refine own_step (fun t k => X155.ldc2Long hx hown (mvT hZ (hw _ (List.mem_of_getElem? (i := 26) rfl))) (g := (mkF m 182 #[.val (.long y0_0), .second, .val (.long y1_0), .second, .val (.long y2_0), .second, .val (.long y3_0), .second, .val (.int x4_0), .val (.ref b1), .val (.long y2_0), .second, .val (.long y1_0), .second, .val (.int (((x4_0.toUInt32 >>> ((2 : Int32) &&& 31).toUInt32).toInt32) &&& (3 : Int32))), .val (.ref b155), .unset] [(.long y0_0), (.int (0 : Int32)), (.ref b155)])) rfl (hb hby at_182) _ k) ?_
            show own_Ends p.tables e below s _ _ _ (T155.setTop (mkF m 185 #[.val (.long y0_0), .second, .val (.long y1_0), .second, .val (.long y2_0), .second, .val (.long y3_0), .second, .val (.int x4_0), .val (.ref b1), .val (.long y2_0), .second, .val (.long y1_0), .second, .val (.int (((x4_0.toUInt32 >>> ((2 : Int32) &&& 31).toUInt32).toInt32) &&& (3 : Int32))), .val (.ref b155), .unset] [(.long (255 : Int64)), (.long y0_0), (.int (0 : Int32)), (.ref b155)]))
            refine own_step (fun t k => XS.land X155.here hx rfl (hb hby at_185) rfl k) ?_
            show own_Ends p.tables e below s _ _ _ (T155.setTop (mkF m 186 #[.val (.long y0_0), .second, .val (.long y1_0), .second, .val (.long y2_0), .second, .val (.long y3_0), .second, .val (.int x4_0), .val (.ref b1), .val (.long y2_0), .second, .val (.long y1_0), .second, .val (.int (((x4_0.toUInt32 >>> ((2 : Int32) &&& 31).toUInt32).toInt32) &&& (3 : Int32))), .val (.ref b155), .unset] [(.long (y0_0 &&& (255 : Int64))), (.int (0 : Int32)), (.ref b155)]))
            refine own_step (fun t k => XS.l2i X155.here hx rfl (hb hby at_186) rfl k) ?_
            show own_Ends p.tables e below s _ _ _ (T155.setTop (mkF m 187 #[.val (.long y0_0), .second, .val (.long y1_0), .second, .val (.long y2_0), .second, .val (.long y3_0), .second, .val (.int x4_0), .val (.ref b1), .val (.long y2_0), .second, .val (.long y1_0), .second, .val (.int (((x4_0.toUInt32 >>> ((2 : Int32) &&& 31).toUInt32).toInt32) &&& (3 : Int32))), .val (.ref b155), .unset] [(.int ((y0_0 &&& (255 : Int64)).toInt32)), (.int (0 : Int32)), (.ref b155)]))
            refine own_step (fun t k => XS.i2c X155.here hx rfl (hb hby at_187) rfl k) ?_
            show own_Ends p.tables e below s _ _ _ (T155.setTop (mkF m 188 #[.val (.long y0_0), .second, .val (.long y1_0), .second, .val (.long y2_0), .second, .val (.long y3_0), .second, .val (.int x4_0), .val (.ref b1), .val (.long y2_0), .second, .val (.long y1_0), .second, .val (.int (((x4_0.toUInt32 >>> ((2 : Int32) &&& 31).toUInt32).toInt32) &&& (3 : Int32))), .val (.ref b155), .unset] [(.int (((y0_0 &&& (255 : Int64)).toInt32).toUInt32.toUInt16.toUInt32.toInt32)), (.int (0 : Int32)), (.ref b155)]))
            obtain ⟨cl157, Ar157, q157, S157, N157, H157, G157⟩ := id V155p
            have hin157 : ¬ ((0 : Int32) < 0 ∨ cl157.slots.size ≤ ((0 : Int32)).toNatClampNeg) := inb_of S157 ⟨by decide, by decide⟩
            obtain ⟨T158, h158, X158, e158, W158, st158⟩ := stC X155 hx hZ e155 Ar157 (j := (0 : Int32)) hin157 (g := (mkF m 188 #[.val (.long y0_0), .second, .val (.long y1_0), .second, .val (.long y2_0), .second, .val (.long y3_0), .second, .val (.int x4_0), .val (.ref b1), .val (.long y2_0), .second, .val (.long y1_0), .second, .val (.int (((x4_0.toUInt32 >>> ((2 : Int32) &&& 31).toUInt32).toInt32) &&& (3 : Int32))), .val (.ref b155), .unset] [(.int (((y0_0 &&& (255 : Int64)).toInt32).toUInt32.toUInt16.toUInt32.toInt32)), (.int (0 : Int32)), (.ref b155)])) rfl rfl (hb hby at_188)
            refine own_step (fun t k => st158 _ k) ?_
            have V158 : Arv Z h158 b155 k155 .char (1 : Int32) [(.int (nar .char (((y0_0 &&& (255 : Int64)).toInt32).toUInt32.toUInt16.toUInt32.toInt32)))] (.int (0 : Int32)) := Arv.set Ar157 q157 S157 N157 H157 G157 (fits_nar_char _) W158 0 rfl (Nat.le_of_ble_eq_true rfl)
            have K159 : Keep h0 h158 [] := K156.wr W158 (Or.inr sz_b155)
            have N160 := Fr.snoc X158 N5 g_b155
            show own_Ends p.tables e below s _ _ _ (T158.setTop (mkF m 189 #[.val (.long y0_0), .second, .val (.long y1_0), .second, .val (.long y2_0), .second, .val (.long y3_0), .second, .val (.int x4_0), .val (.ref b1), .val (.long y2_0), .second, .val (.long y1_0), .second, .val (.int (((x4_0.toUInt32 >>> ((2 : Int32) &&& 31).toUInt32).toInt32) &&& (3 : Int32))), .val (.ref b155), .unset] []))
            refine own_step (fun t k => XS.aload X158.here hx rfl (hb hby at_189) rfl rfl k) ?_
            show own_Ends p.tables e below s _ _ _ (T158.setTop (mkF m 191 #[.val (.long y0_0), .second, .val (.long y1_0), .second, .val (.long y2_0), .second, .val (.long y3_0), .second, .val (.int x4_0), .val (.ref b1), .val (.long y2_0), .second, .val (.long y1_0), .second, .val (.int (((x4_0.toUInt32 >>> ((2 : Int32) &&& 31).toUInt32).toInt32) &&& (3 : Int32))), .val (.ref b155), .unset] [(.ref b1)]))
            have O161 : Old Z n0 h158 := ((O154.ext E155).wr W158 g_b155)
            have F162 : Exa Z h158 b1 "com/example/swanhall/swanhall/core/Cell" := ((p4_0.ext E155).wr W158)
            obtain ⟨T163, h163, X163, e163, E163, A163, D163, -, st163⟩ := newO X158 hx hZ hown (hw _ (List.mem_of_getElem? (i := 27) rfl)) (hw _ (List.mem_of_getElem? (i := 28) rfl)) (hw _ (List.mem_of_getElem? (i := 29) rfl)) e158 (g := (mkF m 191 #[.val (.long y0_0), .second, .val (.long y1_0), .second, .val (.long y2_0), .second, .val (.long y3_0), .second, .val (.int x4_0), .val (.ref b1), .val (.long y2_0), .second, .val (.long y1_0), .second, .val (.int (((x4_0.toUInt32 >>> ((2 : Int32) &&& 31).toUInt32).toInt32) &&& (3 : Int32))), .val (.ref b155), .unset] [(.ref b1)])) rfl (hb hby at_191) (by decide) (by decide)
            obtain ⟨b163, g163⟩ : ∃ z, z = h158.size := ⟨_, rfl⟩
            rw [← g163] at A163 D163 st163
            have g_b163 : n0 ≤ b163 := Nat.le_trans (Nat.le_trans (Nat.le_of_eq O161.1.symm) O161.2.1) (Nat.le_of_eq g163.symm)
            have sz_b163 : h0.size ≤ b163 := Nat.le_trans K159.1 (Nat.le_of_eq g163.symm)
            have ne_b1_b163 : b1 ≠ b163 := Nat.ne_of_lt (Nat.lt_of_lt_of_le F162.lt (Nat.le_of_eq g163.symm))
            have ne_b155_b163 : b155 ≠ b163 := Nat.ne_of_lt (Nat.lt_of_lt_of_le V158.lt (Nat.le_of_eq g163.symm))
            have F163_coder : Fld Z h163 b163 "java/lang/String" "coder" "B" (.int (0 : Int32)) := D163 (Or.inr (hw _ (List.mem_of_getElem? (i := 51) rfl))) (ty := .byte) (by decide)
            have F163_value : Fld Z h163 b163 "java/lang/String" "value" "[B" .null := D163 (Or.inr (hw _ (List.mem_of_getElem? (i := 53) rfl))) (ty := (.array .byte)) (by decide)
            refine own_step (fun t k => st163 _ k) ?_
            have K164 : Keep h0 h163 [] := K159.ext E163
            show own_Ends p.tables e below s _ _ _ (T163.setTop (mkF m 194 #[.val (.long y0_0), .second, .val (.long y1_0), .second, .val (.long y2_0), .second, .val (.long y3_0), .second, .val (.int x4_0), .val (.ref b1), .val (.long y2_0), .second, .val (.long y1_0), .second, .val (.int (((x4_0.toUInt32 >>> ((2 : Int32) &&& 31).toUInt32).toInt32) &&& (3 : Int32))), .val (.ref b155), .unset] [(.ref b163), (.ref b1)]))
            refine own_step (fun t k => XS.dup X163.here hx rfl (hb hby at_194) rfl rfl k) ?_
            show own_Ends p.tables e below s _ _ _ (T163.setTop (mkF m 195 #[.val (.long y0_0), .second, .val (.long y1_0), .second, .val (.long y2_0), .second, .val (.long y3_0), .second, .val (.int x4_0), .val (.ref b1), .val (.long y2_0), .second, .val (.long y1_0), .second, .val (.int (((x4_0.toUInt32 >>> ((2 : Int32) &&& 31).toUInt32).toInt32) &&& (3 : Int32))), .val (.ref b155), .unset] [(.ref b163), (.ref b163), (.ref b1)]))
            refine own_step (fun t k => XS.aload X163.here hx rfl (hb hby at_195) rfl rfl k) ?_
            show own_Ends p.tables e below s _ _ _ (T163.setTop (mkF m 197 #[.val (.long y0_0), .second, .val (.long y1_0), .second, .val (.long y2_0), .second, .val (.long y3_0), .second, .val (.int x4_0), .val (.ref b1), .val (.long y2_0), .second, .val (.long y1_0), .second, .val (.int (((x4_0.toUInt32 >>> ((2 : Int32) &&& 31).toUInt32).toInt32) &&& (3 : Int32))), .val (.ref b155), .unset] [(.ref b155), (.ref b163), (.ref b163), (.ref b1)]))
            have O165 : Old Z n0 h163 := (O161.ext E163)
            have F166 : Arv Z h163 b155 k155 .char (1 : Int32) [(.int (nar .char (((y0_0 &&& (255 : Int64)).toInt32).toUInt32.toUInt16.toUInt32.toInt32)))] (.int (0 : Int32)) := (V158.ext E163)
            have hws : ∀ d ∈ StrChars.Road.words, d.before a0 Z = true := fun d hd => hw d ((by decide +kernel : ∀ d ∈ StrChars.Road.words, d ∈ tables_1) d hd)
            obtain ⟨_, _, ⟨T167, L167, k167, n167⟩, -, X167, ⟨Lc167, hQ167, l167, y167, z167⟩, st167⟩ := X163.specialBack hx (y := (⟨"java/lang/String", "<init>", "([C)V"⟩ : MethodName)) rfl hown (mvT hZ (hw _ (List.mem_of_getElem? (i := 30) rfl))) (mvT hZ (hw _ (List.mem_of_getElem? (i := 31) rfl))) (mvT hZ (hw _ (List.mem_of_getElem? (i := 32) rfl))) (by decide) (StrChars.Road.backV (W := 2) hZ hws (kI := 4) (hw _ (List.mem_of_getElem? (i := 28) rfl)) (cs := [nar .char (((y0_0 &&& (255 : Int64)).toInt32).toUInt32.toUInt16.toUInt32.toInt32)]) (bs := [(nar .char (((y0_0 &&& (255 : Int64)).toInt32).toUInt32.toUInt16.toUInt32.toInt32)).toInt8.toInt32]) (n := 1) g_b163 (Nat.le_trans (Nat.le_of_eq O165.1.symm) O165.2.1) A163 F163_value F163_coder F166 (S_COMPACT_STRINGS.ext O165.2) hcs rfl rfl (by decide) (by decide) (own_lat y0_0) rfl (by decide) (by decide)) (g := (mkF m 197 #[.val (.long y0_0), .second, .val (.long y1_0), .second, .val (.long y2_0), .second, .val (.long y3_0), .second, .val (.int x4_0), .val (.ref b1), .val (.long y2_0), .second, .val (.long y1_0), .second, .val (.int (((x4_0.toUInt32 >>> ((2 : Int32) &&& 31).toUInt32).toInt32) &&& (3 : Int32))), .val (.ref b155), .unset] [(.ref b155), (.ref b163), (.ref b163), (.ref b1)])) rfl (by rw [hml]; rfl) (Steps.refl _) (a := b163) (argsL := [(.ref b155)]) (rest := [(.ref b163), (.ref b1)]) (lenOf pd_5 rfl) rfl (by show 2 * 0 + _ ≤ _; exact Nat.le_of_eq rfl) (hb hby at_197) (fun _ _ => ⟨rfl, e163, (by decide : 3 + 1 ≤ _), (by decide : 7 + 1 ≤ _)⟩)
            dsimp only [Pt.U, Pt.locs, Pt.cells, Pt.slots] at X167 l167 y167 z167 st167 hQ167
            subst y167 z167
            obtain ⟨rfl, N167q, K167q, -⟩ := hQ167
            refine own_step (fun t k => st167.trans k) ?_
            have N168 : Fr n0 L167 := by rw [l167]; exact Fr.app N160 N167q
            have K169 : Keep h0 T167.heap [] := K164.trans K167q (allS (Or.inr sz_b163) all0)
            show own_Ends p.tables e below s _ _ _ (T167.setTop (mkF m 200 #[.val (.long y0_0), .second, .val (.long y1_0), .second, .val (.long y2_0), .second, .val (.long y3_0), .second, .val (.int x4_0), .val (.ref b1), .val (.long y2_0), .second, .val (.long y1_0), .second, .val (.int (((x4_0.toUInt32 >>> ((2 : Int32) &&& 31).toUInt32).toInt32) &&& (3 : Int32))), .val (.ref b155), .unset] [(.ref b163), (.ref b1)]))
            have F170 : Exa Z T167.heap b163 "java/lang/String" := (A163.keep K167q)
            have O171 : Old Z n0 T167.heap := (O165.keep K167q (allS g_b163 all0))
            have F173 : Exa Z T167.heap b1 "com/example/swanhall/swanhall/core/Cell" := ((F162.ext E163).keep K167q)
            obtain ⟨cq172, kq172, q172a, q172b, q172c⟩ := isOf hZ rfl F173
            obtain ⟨_, _, ⟨T172, L172, k172, n172⟩, -, X172, ⟨Lc172, hQ172, l172, y172, z172⟩, st172⟩ := X167.virtualBack hx (y := (⟨"com/example/swanhall/swanhall/core/Cell", "equals", "(Ljava/lang/Object;)Z"⟩ : MethodName)) (z := (⟨"com/example/swanhall/swanhall/core/Cell", "equals", "(Ljava/lang/Object;)Z"⟩ : MethodName)) hown (mvT hZ (hw _ (List.mem_of_getElem? (i := 18) rfl))) (mvT hZ (hw _ (List.mem_of_getElem? (i := 19) rfl))) (notFace_of_selects (args := #[]) (mvT hZ (hw _ (List.mem_of_getElem? (i := 21) rfl)))) (mvT hZ (hw _ (List.mem_of_getElem? (i := 21) rfl))) (mvT hZ (hw _ (List.mem_of_getElem? (i := 20) rfl))) (by decide) (backOf (W := 0) (rm4s l Z a0 hw [] b1 b163 T167.heap n0 O171 F170) hZ (hw _ (List.mem_of_getElem? (i := 22) rfl)) (hw _ (List.mem_of_getElem? (i := 2) rfl)) (by decide) (by decide)) q172a q172c (g := (mkF m 200 #[.val (.long y0_0), .second, .val (.long y1_0), .second, .val (.long y2_0), .second, .val (.long y3_0), .second, .val (.int x4_0), .val (.ref b1), .val (.long y2_0), .second, .val (.long y1_0), .second, .val (.int (((x4_0.toUInt32 >>> ((2 : Int32) &&& 31).toUInt32).toInt32) &&& (3 : Int32))), .val (.ref b155), .unset] [(.ref b163), (.ref b1)])) rfl (by rw [hml]; rfl) (Steps.refl _) (argsL := [(.ref b163)]) (rest := []) (lenOf pd_3 rfl) rfl (by show 2 * 0 + _ ≤ _; exact Nat.le_of_eq rfl) (hb hby at_200) (fun _ _ => ⟨rfl, rfl, (by decide : 4 + 0 ≤ _), (by decide : 8 + 0 ≤ _)⟩)
            dsimp only [Pt.U, Pt.locs, Pt.cells, Pt.slots] at X172 l172 y172 z172 st172 hQ172
            subst y172 z172
            obtain ⟨rfl, N172q, e172⟩ := hQ172
            refine own_step (fun t k => st172.trans k) ?_
            have N174 : Fr n0 L172 := by rw [l172]; exact Fr.app N168 N172q
            show own_Ends p.tables e below s _ _ _ (T172.setTop (mkF m 203 #[.val (.long y0_0), .second, .val (.long y1_0), .second, .val (.long y2_0), .second, .val (.long y3_0), .second, .val (.int x4_0), .val (.ref b1), .val (.long y2_0), .second, .val (.long y1_0), .second, .val (.int (((x4_0.toUInt32 >>> ((2 : Int32) &&& 31).toUInt32).toInt32) &&& (3 : Int32))), .val (.ref b155), .unset] [(.int (0 : Int32))]))
            refine own_step (fun t k => XS.ifNo X172.here hx rfl (hb hby at_203) rfl ((if0 _ _).trans (teq (by decide : (0 : Int32) = (0 : Int32))).2) k) ?_
            show own_Ends p.tables e below s _ _ _ (T172.setTop (mkF m 206 #[.val (.long y0_0), .second, .val (.long y1_0), .second, .val (.long y2_0), .second, .val (.long y3_0), .second, .val (.int x4_0), .val (.ref b1), .val (.long y2_0), .second, .val (.long y1_0), .second, .val (.int (((x4_0.toUInt32 >>> ((2 : Int32) &&& 31).toUInt32).toInt32) &&& (3 : Int32))), .val (.ref b155), .unset] []))
            refine own_step (fun t k => XS.iconst X172.here hx rfl (hb hby at_206) k) ?_
            show own_Ends p.tables e below s _ _ _ (T172.setTop (mkF m 207 #[.val (.long y0_0), .second, .val (.long y1_0), .second, .val (.long y2_0), .second, .val (.long y3_0), .second, .val (.int x4_0), .val (.ref b1), .val (.long y2_0), .second, .val (.long y1_0), .second, .val (.int (((x4_0.toUInt32 >>> ((2 : Int32) &&& 31).toUInt32).toInt32) &&& (3 : Int32))), .val (.ref b155), .unset] [(.int (1 : Int32))]))
            refine own_step (fun t k => XS.goto X172.here hx rfl (pc0 := 207) (pc' := 211) rfl (hb hby at_207) (by decide) (by decide) k) ?_
            show own_Ends p.tables e below s _ _ _ (T172.setTop (mkF m 211 #[.val (.long y0_0), .second, .val (.long y1_0), .second, .val (.long y2_0), .second, .val (.long y3_0), .second, .val (.int x4_0), .val (.ref b1), .val (.long y2_0), .second, .val (.long y1_0), .second, .val (.int (((x4_0.toUInt32 >>> ((2 : Int32) &&& 31).toUInt32).toInt32) &&& (3 : Int32))), .val (.ref b155), .unset] [(.int (1 : Int32))]))
            exact own_retN X172 hx (t := .boolean) Bd.returns (by simp) (hb hby at_211) hnl (by rw [e172]; exact ⟨rfl, N174⟩) (by decide) (by decide)
  · skip
    refine own_step (fun t k => XS.ifNo X4.here hx rfl (hb hby at_15) rfl ((if0 _ _).trans (feq hc15_7).1) k) ?_
    show own_Ends p.tables e below s _ _ _ (T4.setTop (mkF m 18 #[.val (.long y0_0), .second, .val (.long y1_0), .second, .val (.long y2_0), .second, .val (.long y3_0), .second, .val (.int x4_0), .val (.ref b1), .unset, .unset, .unset, .unset, .unset, .unset, .unset] []))
    refine own_step (fun t k => XS.lloadN X4.here hx rfl (hb hby at_18) rfl k) ?_
    show own_Ends p.tables e below s _ _ _ (T4.setTop (mkF m 19 #[.val (.long y0_0), .second, .val (.long y1_0), .second, .val (.long y2_0), .second, .val (.long y3_0), .second, .val (.int x4_0), .val (.ref b1), .unset, .unset, .unset, .unset, .unset, .unset, .unset] [(.long y0_0)]))
    refine own_step (fun t k => XS.goto X4.here hx rfl (pc0 := 19) (pc' := 24) rfl (hb hby at_19) (by decide) (by decide) k) ?_
    show own_Ends p.tables e below s _ _ _ (T4.setTop (mkF m 24 #[.val (.long y0_0), .second, .val (.long y1_0), .second, .val (.long y2_0), .second, .val (.long y3_0), .second, .val (.int x4_0), .val (.ref b1), .unset, .unset, .unset, .unset, .unset, .unset, .unset] [(.long y0_0)]))
    refine own_step (fun t k => XS.lstore X4.here hx rfl (hb hby at_24) rfl (l' := #[.val (.long y0_0), .second, .val (.long y1_0), .second, .val (.long y2_0), .second, .val (.long y3_0), .second, .val (.int x4_0), .val (.ref b1), .val (.long y0_0), .second, .unset, .unset, .unset, .unset, .unset]) rfl k) ?_
    show own_Ends p.tables e below s _ _ _ (T4.setTop (mkF m 26 #[.val (.long y0_0), .second, .val (.long y1_0), .second, .val (.long y2_0), .second, .val (.long y3_0), .second, .val (.int x4_0), .val (.ref b1), .val (.long y0_0), .second, .unset, .unset, .unset, .unset, .unset] []))
    refine own_step (fun t k => XS.iload X4.here hx rfl (hb hby at_26) rfl k) ?_
    show own_Ends p.tables e below s _ _ _ (T4.setTop (mkF m 28 #[.val (.long y0_0), .second, .val (.long y1_0), .second, .val (.long y2_0), .second, .val (.long y3_0), .second, .val (.int x4_0), .val (.ref b1), .val (.long y0_0), .second, .unset, .unset, .unset, .unset, .unset] [(.int x4_0)]))
    refine own_step (fun t k => XS.iconst X4.here hx rfl (hb hby at_28) k) ?_
    show own_Ends p.tables e below s _ _ _ (T4.setTop (mkF m 29 #[.val (.long y0_0), .second, .val (.long y1_0), .second, .val (.long y2_0), .second, .val (.long y3_0), .second, .val (.int x4_0), .val (.ref b1), .val (.long y0_0), .second, .unset, .unset, .unset, .unset, .unset] [(.int (2 : Int32)), (.int x4_0)]))
    refine own_step (fun t k => XS.iand X4.here hx rfl (hb hby at_29) rfl k) ?_
    show own_Ends p.tables e below s _ _ _ (T4.setTop (mkF m 30 #[.val (.long y0_0), .second, .val (.long y1_0), .second, .val (.long y2_0), .second, .val (.long y3_0), .second, .val (.int x4_0), .val (.ref b1), .val (.long y0_0), .second, .unset, .unset, .unset, .unset, .unset] [(.int (x4_0 &&& (2 : Int32)))]))
    by_cases hc30_175 : (x4_0 &&& (2 : Int32)) = (0 : Int32)
    · skip
      refine own_step (fun t k => XS.ifYes X4.here hx rfl (pc0 := 30) (pc' := 37) rfl (hb hby at_30) rfl ((if0 _ _).trans (teq hc30_175).1) (by decide) (by decide) k) ?_
      show own_Ends p.tables e below s _ _ _ (T4.setTop (mkF m 37 #[.val (.long y0_0), .second, .val (.long y1_0), .second, .val (.long y2_0), .second, .val (.long y3_0), .second, .val (.int x4_0), .val (.ref b1), .val (.long y0_0), .second, .unset, .unset, .unset, .unset, .unset] []))
      refine own_step (fun t k => XS.lload X4.here hx rfl (hb hby at_37) rfl k) ?_
      show own_Ends p.tables e below s _ _ _ (T4.setTop (mkF m 39 #[.val (.long y0_0), .second, .val (.long y1_0), .second, .val (.long y2_0), .second, .val (.long y3_0), .second, .val (.int x4_0), .val (.ref b1), .val (.long y0_0), .second, .unset, .unset, .unset, .unset, .unset] [(.long y3_0)]))
      refine own_step (fun t k => XS.lstore X4.here hx rfl (hb hby at_39) rfl (l' := #[.val (.long y0_0), .second, .val (.long y1_0), .second, .val (.long y2_0), .second, .val (.long y3_0), .second, .val (.int x4_0), .val (.ref b1), .val (.long y0_0), .second, .val (.long y3_0), .second, .unset, .unset, .unset]) rfl k) ?_
      show own_Ends p.tables e below s _ _ _ (T4.setTop (mkF m 41 #[.val (.long y0_0), .second, .val (.long y1_0), .second, .val (.long y2_0), .second, .val (.long y3_0), .second, .val (.int x4_0), .val (.ref b1), .val (.long y0_0), .second, .val (.long y3_0), .second, .unset, .unset, .unset] []))
      refine own_step (fun t k => XS.iload X4.here hx rfl (hb hby at_41) rfl k) ?_
      show own_Ends p.tables e below s _ _ _ (T4.setTop (mkF m 43 #[.val (.long y0_0), .second, .val (.long y1_0), .second, .val (.long y2_0), .second, .val (.long y3_0), .second, .val (.int x4_0), .val (.ref b1), .val (.long y0_0), .second, .val (.long y3_0), .second, .unset, .unset, .unset] [(.int x4_0)]))
      refine own_step (fun t k => XS.iconst X4.here hx rfl (hb hby at_43) k) ?_
      show own_Ends p.tables e below s _ _ _ (T4.setTop (mkF m 44 #[.val (.long y0_0), .second, .val (.long y1_0), .second, .val (.long y2_0), .second, .val (.long y3_0), .second, .val (.int x4_0), .val (.ref b1), .val (.long y0_0), .second, .val (.long y3_0), .second, .unset, .unset, .unset] [(.int (2 : Int32)), (.int x4_0)]))
      refine own_step (fun t k => XS.iushr X4.here hx rfl (hb hby at_44) rfl k) ?_
      show own_Ends p.tables e below s _ _ _ (T4.setTop (mkF m 45 #[.val (.long y0_0), .second, .val (.long y1_0), .second, .val (.long y2_0), .second, .val (.long y3_0), .second, .val (.int x4_0), .val (.ref b1), .val (.long y0_0), .second, .val (.long y3_0), .second, .unset, .unset, .unset] [(.int ((x4_0.toUInt32 >>> ((2 : Int32) &&& 31).toUInt32).toInt32))]))
      refine own_step (fun t k => XS.iconst X4.here hx rfl (hb hby at_45) k) ?_
      show own_Ends p.tables e below s _ _ _ (T4.setTop (mkF m 46 #[.val (.long y0_0), .second, .val (.long y1_0), .second, .val (.long y2_0), .second, .val (.long y3_0), .second, .val (.int x4_0), .val (.ref b1), .val (.long y0_0), .second, .val (.long y3_0), .second, .unset, .unset, .unset] [(.int (3 : Int32)), (.int ((x4_0.toUInt32 >>> ((2 : Int32) &&& 31).toUInt32).toInt32))]))
      refine own_step (fun t k => XS.iand X4.here hx rfl (hb hby at_46) rfl k) ?_
      show own_Ends p.tables e below s _ _ _ (T4.setTop (mkF m 47 #[.val (.long y0_0), .second, .val (.long y1_0), .second, .val (.long y2_0), .second, .val (.long y3_0), .second, .val (.int x4_0), .val (.ref b1), .val (.long y0_0), .second, .val (.long y3_0), .second, .unset, .unset, .unset] [(.int (((x4_0.toUInt32 >>> ((2 : Int32) &&& 31).toUInt32).toInt32) &&& (3 : Int32)))]))
      refine own_step (fun t k => XS.istore X4.here hx rfl (hb hby at_47) rfl (l' := #[.val (.long y0_0), .second, .val (.long y1_0), .second, .val (.long y2_0), .second, .val (.long y3_0), .second, .val (.int x4_0), .val (.ref b1), .val (.long y0_0), .second, .val (.long y3_0), .second, .val (.int (((x4_0.toUInt32 >>> ((2 : Int32) &&& 31).toUInt32).toInt32) &&& (3 : Int32))), .unset, .unset]) rfl k) ?_
      show own_Ends p.tables e below s _ _ _ (T4.setTop (mkF m 49 #[.val (.long y0_0), .second, .val (.long y1_0), .second, .val (.long y2_0), .second, .val (.long y3_0), .second, .val (.int x4_0), .val (.ref b1), .val (.long y0_0), .second, .val (.long y3_0), .second, .val (.int (((x4_0.toUInt32 >>> ((2 : Int32) &&& 31).toUInt32).toInt32) &&& (3 : Int32))), .unset, .unset] []))
      refine own_step (fun t k => XS.iload X4.here hx rfl (hb hby at_49) rfl k) ?_
      show own_Ends p.tables e below s _ _ _ (T4.setTop (mkF m 51 #[.val (.long y0_0), .second, .val (.long y1_0), .second, .val (.long y2_0), .second, .val (.long y3_0), .second, .val (.int x4_0), .val (.ref b1), .val (.long y0_0), .second, .val (.long y3_0), .second, .val (.int (((x4_0.toUInt32 >>> ((2 : Int32) &&& 31).toUInt32).toInt32) &&& (3 : Int32))), .unset, .unset] [(.int (((x4_0.toUInt32 >>> ((2 : Int32) &&& 31).toUInt32).toInt32) &&& (3 : Int32)))]))
      by_cases hc51_176 : (((x4_0.toUInt32 >>> ((2 : Int32) &&& 31).toUInt32).toInt32) &&& (3 : Int32)) = (0 : Int32)
      · skip
        refine own_step (fun t k => XS.ifNo X4.here hx rfl (hb hby at_51) rfl ((if0 _ _).trans (teq hc51_176).2) k) ?_
        show own_Ends p.tables e below s _ _ _ (T4.setTop (mkF m 54 #[.val (.long y0_0), .second, .val (.long y1_0), .second, .val (.long y2_0), .second, .val (.long y3_0), .second, .val (.int x4_0), .val (.ref b1), .val (.long y0_0), .second, .val (.long y3_0), .second, .val (.int (((x4_0.toUInt32 >>> ((2 : Int32) &&& 31).toUInt32).toInt32) &&& (3 : Int32))), .unset, .unset] []))
        have O177 : Old Z n0 T4.heap := (O3.keep K4q (allS g_b1 all0))
        obtain ⟨T178, h178, X178, e178, E178, A178, D178, -, st178⟩ := newO X4 hx hZ hown (hw _ (List.mem_of_getElem? (i := 0) rfl)) (hw _ (List.mem_of_getElem? (i := 1) rfl)) (hw _ (List.mem_of_getElem? (i := 2) rfl)) rfl (g := (mkF m 54 #[.val (.long y0_0), .second, .val (.long y1_0), .second, .val (.long y2_0), .second, .val (.long y3_0), .second, .val (.int x4_0), .val (.ref b1), .val (.long y0_0), .second, .val (.long y3_0), .second, .val (.int (((x4_0.toUInt32 >>> ((2 : Int32) &&& 31).toUInt32).toInt32) &&& (3 : Int32))), .unset, .unset] [])) rfl (hb hby at_54) (by decide) (by decide)
        obtain ⟨b178, g178⟩ : ∃ z, z = T4.heap.size := ⟨_, rfl⟩
        rw [← g178] at A178 D178 st178
        have g_b178 : n0 ≤ b178 := Nat.le_trans (Nat.le_trans (Nat.le_of_eq O177.1.symm) O177.2.1) (Nat.le_of_eq g178.symm)
        have sz_b178 : h0.size ≤ b178 := Nat.le_trans K6.1 (Nat.le_of_eq g178.symm)
        have ne_b1_b178 : b1 ≠ b178 := Nat.ne_of_lt (Nat.lt_of_lt_of_le p4_0.lt (Nat.le_of_eq g178.symm))
        have F178_x : Fld Z h178 b178 "com/example/swanhall/swanhall/core/Cell" "x" "J" (.long (0 : Int64)) := D178 (Or.inr (hw _ (List.mem_of_getElem? (i := 15) rfl))) (ty := .long) (by decide)
        have F178_y : Fld Z h178 b178 "com/example/swanhall/swanhall/core/Cell" "y" "J" (.long (0 : Int64)) := D178 (Or.inr (hw _ (List.mem_of_getElem? (i := 17) rfl))) (ty := .long) (by decide)
        refine own_step (fun t k => st178 _ k) ?_
        have K179 : Keep h0 h178 [] := K6.ext E178
        show own_Ends p.tables e below s _ _ _ (T178.setTop (mkF m 57 #[.val (.long y0_0), .second, .val (.long y1_0), .second, .val (.long y2_0), .second, .val (.long y3_0), .second, .val (.int x4_0), .val (.ref b1), .val (.long y0_0), .second, .val (.long y3_0), .second, .val (.int (((x4_0.toUInt32 >>> ((2 : Int32) &&& 31).toUInt32).toInt32) &&& (3 : Int32))), .unset, .unset] [(.ref b178)]))
        refine own_step (fun t k => XS.dup X178.here hx rfl (hb hby at_57) rfl rfl k) ?_
        show own_Ends p.tables e below s _ _ _ (T178.setTop (mkF m 58 #[.val (.long y0_0), .second, .val (.long y1_0), .second, .val (.long y2_0), .second, .val (.long y3_0), .second, .val (.int x4_0), .val (.ref b1), .val (.long y0_0), .second, .val (.long y3_0), .second, .val (.int (((x4_0.toUInt32 >>> ((2 : Int32) &&& 31).toUInt32).toInt32) &&& (3 : Int32))), .unset, .unset] [(.ref b178), (.ref b178)]))
        refine own_step (fun t k => XS.lload X178.here hx rfl (hb hby at_58) rfl k) ?_
        show own_Ends p.tables e below s _ _ _ (T178.setTop (mkF m 60 #[.val (.long y0_0), .second, .val (.long y1_0), .second, .val (.long y2_0), .second, .val (.long y3_0), .second, .val (.int x4_0), .val (.ref b1), .val (.long y0_0), .second, .val (.long y3_0), .second, .val (.int (((x4_0.toUInt32 >>> ((2 : Int32) &&& 31).toUInt32).toInt32) &&& (3 : Int32))), .unset, .unset] [(.long y0_0), (.ref b178), (.ref b178)]))
        refine own_step (fun t k => XS.lload X178.here hx rfl (hb hby at_60) rfl k) ?_
        show own_Ends p.tables e below s _ _ _ (T178.setTop (mkF m 62 #[.val (.long y0_0), .second, .val (.long y1_0), .second, .val (.long y2_0), .second, .val (.long y3_0), .second, .val (.int x4_0), .val (.ref b1), .val (.long y0_0), .second, .val (.long y3_0), .second, .val (.int (((x4_0.toUInt32 >>> ((2 : Int32) &&& 31).toUInt32).toInt32) &&& (3 : Int32))), .unset, .unset] [(.long y3_0), (.long y0_0), (.ref b178), (.ref b178)]))
        have O180 : Old Z n0 h178 := (O177.ext E178)
        obtain ⟨_, _, ⟨T181, L181, k181, n181⟩, -, X181, ⟨Lc181, hQ181, l181, y181, z181⟩, st181⟩ := X178.specialBack hx (y := (⟨"com/example/swanhall/swanhall/core/Cell", "<init>", "(JJ)V"⟩ : MethodName)) rfl hown (mvT hZ (hw _ (List.mem_of_getElem? (i := 3) rfl))) (mvT hZ (hw _ (List.mem_of_getElem? (i := 4) rfl))) (mvT hZ (hw _ (List.mem_of_getElem? (i := 5) rfl))) (by decide) (backOf (W := 1) (rm1 l Z a0 hw [] b178 y0_0 y3_0 (.long (0 : Int64)) (.long (0 : Int64)) h178 n0 O180 A178 F178_x g_b178 F178_y) hZ (hw _ (List.mem_of_getElem? (i := 5) rfl)) (hw _ (List.mem_of_getElem? (i := 2) rfl)) (by decide) (by decide)) (g := (mkF m 62 #[.val (.long y0_0), .second, .val (.long y1_0), .second, .val (.long y2_0), .second, .val (.long y3_0), .second, .val (.int x4_0), .val (.ref b1), .val (.long y0_0), .second, .val (.long y3_0), .second, .val (.int (((x4_0.toUInt32 >>> ((2 : Int32) &&& 31).toUInt32).toInt32) &&& (3 : Int32))), .unset, .unset] [(.long y3_0), (.long y0_0), (.ref b178), (.ref b178)])) rfl (by rw [hml]; rfl) (Steps.refl _) (a := b178) (argsL := [(.long y0_0), (.long y3_0)]) (rest := [(.ref b178)]) (lenOf pd_2 rfl) rfl (by show 2 * 0 + _ ≤ _; exact Nat.le_of_eq rfl) (hb hby at_62) (fun _ _ => ⟨rfl, e178, (by decide : 2 + 0 ≤ _), (by decide : 4 + 0 ≤ _)⟩)
        dsimp only [Pt.U, Pt.locs, Pt.cells, Pt.slots] at X181 l181 y181 z181 st181 hQ181
        subst y181 z181
        obtain ⟨rfl, N181q, K181q, p181_0, p181_1, p181_2⟩ := hQ181
        refine own_step (fun t k => st181.trans k) ?_
        have N182 : Fr n0 L181 := by rw [l181]; exact Fr.app N5 N181q
        have K183 : Keep h0 T181.heap [] := K179.trans K181q (allS (Or.inr sz_b178) all0)
        show own_Ends p.tables e below s _ _ _ (T181.setTop (mkF m 65 #[.val (.long y0_0), .second, .val (.long y1_0), .second, .val (.long y2_0), .second, .val (.long y3_0), .second, .val (.int x4_0), .val (.ref b1), .val (.long y0_0), .second, .val (.long y3_0), .second, .val (.int (((x4_0.toUInt32 >>> ((2 : Int32) &&& 31).toUInt32).toInt32) &&& (3 : Int32))), .unset, .unset] [(.ref b178)]))
        refine own_step (fun t k => XS.astore X181.here hx rfl (hb hby at_65) rfl rfl (l' := #[.val (.long y0_0), .second, .val (.long y1_0), .second, .val (.long y2_0), .second, .val (.long y3_0), .second, .val (.int x4_0), .val (.ref b1), .val (.long y0_0), .second, .val (.long y3_0), .second, .val (.int (((x4_0.toUInt32 >>> ((2 : Int32) &&& 31).toUInt32).toInt32) &&& (3 : Int32))), .val (.ref b178), .unset]) rfl k) ?_
        show own_Ends p.tables e below s _ _ _ (T181.setTop (mkF m 67 #[.val (.long y0_0), .second, .val (.long y1_0), .second, .val (.long y2_0), .second, .val (.long y3_0), .second, .val (.int x4_0), .val (.ref b1), .val (.long y0_0), .second, .val (.long y3_0), .second, .val (.int (((x4_0.toUInt32 >>> ((2 : Int32) &&& 31).toUInt32).toInt32) &&& (3 : Int32))), .val (.ref b178), .unset] []))
        refine own_step (fun t k => XS.lload X181.here hx rfl (hb hby at_67) rfl k) ?_
        show own_Ends p.tables e below s _ _ _ (T181.setTop (mkF m 69 #[.val (.long y0_0), .second, .val (.long y1_0), .second, .val (.long y2_0), .second, .val (.long y3_0), .second, .val (.int x4_0), .val (.ref b1), .val (.long y0_0), .second, .val (.long y3_0), .second, .val (.int (((x4_0.toUInt32 >>> ((2 : Int32) &&& 31).toUInt32).toInt32) &&& (3 : Int32))), .val (.ref b178), .unset] [(.long y0_0)]))
        refine own_step (fun t k => XS.lloadN X181.here hx rfl (hb hby at_69) rfl k) ?_
        show own_Ends p.tables e below s _ _ _ (T181.setTop (mkF m 70 #[.val (.long y0_0), .second, .val (.long y1_0), .second, .val (.long y2_0), .second, .val (.long y3_0), .second, .val (.int x4_0), .val (.ref b1), .val (.long y0_0), .second, .val (.long y3_0), .second, .val (.int (((x4_0.toUInt32 >>> ((2 : Int32) &&& 31).toUInt32).toInt32) &&& (3 : Int32))), .val (.ref b178), .unset] [(.long y0_0), (.long y0_0)]))
        refine own_step (fun t k => XS.lcmp X181.here hx rfl (hb hby at_70) rfl k) ?_
        show own_Ends p.tables e below s _ _ _ (T181.setTop (mkF m 71 #[.val (.long y0_0), .second, .val (.long y1_0), .second, .val (.long y2_0), .second, .val (.long y3_0), .second, .val (.int x4_0), .val (.ref b1), .val (.long y0_0), .second, .val (.long y3_0), .second, .val (.int (((x4_0.toUInt32 >>> ((2 : Int32) &&& 31).toUInt32).toInt32) &&& (3 : Int32))), .val (.ref b178), .unset] [(.int (lcmpW y0_0 y0_0))]))
        by_cases hc71_184 : (lcmpW y0_0 y0_0) = (0 : Int32)
        · skip
          refine own_step (fun t k => XS.ifNo X181.here hx rfl (hb hby at_71) rfl ((if0 _ _).trans (teq hc71_184).2) k) ?_
          show own_Ends p.tables e below s _ _ _ (T181.setTop (mkF m 74 #[.val (.long y0_0), .second, .val (.long y1_0), .second, .val (.long y2_0), .second, .val (.long y3_0), .second, .val (.int x4_0), .val (.ref b1), .val (.long y0_0), .second, .val (.long y3_0), .second, .val (.int (((x4_0.toUInt32 >>> ((2 : Int32) &&& 31).toUInt32).toInt32) &&& (3 : Int32))), .val (.ref b178), .unset] []))
          refine own_step (fun t k => XS.lload X181.here hx rfl (hb hby at_74) rfl k) ?_
          show own_Ends p.tables e below s _ _ _ (T181.setTop (mkF m 76 #[.val (.long y0_0), .second, .val (.long y1_0), .second, .val (.long y2_0), .second, .val (.long y3_0), .second, .val (.int x4_0), .val (.ref b1), .val (.long y0_0), .second, .val (.long y3_0), .second, .val (.int (((x4_0.toUInt32 >>> ((2 : Int32) &&& 31).toUInt32).toInt32) &&& (3 : Int32))), .val (.ref b178), .unset] [(.long y3_0)]))
          refine own_step (fun t k => XS.lloadN X181.here hx rfl (hb hby at_76) rfl k) ?_
          show own_Ends p.tables e below s _ _ _ (T181.setTop (mkF m 77 #[.val (.long y0_0), .second, .val (.long y1_0), .second, .val (.long y2_0), .second, .val (.long y3_0), .second, .val (.int x4_0), .val (.ref b1), .val (.long y0_0), .second, .val (.long y3_0), .second, .val (.int (((x4_0.toUInt32 >>> ((2 : Int32) &&& 31).toUInt32).toInt32) &&& (3 : Int32))), .val (.ref b178), .unset] [(.long y1_0), (.long y3_0)]))
          refine own_step (fun t k => XS.lcmp X181.here hx rfl (hb hby at_77) rfl k) ?_
          show own_Ends p.tables e below s _ _ _ (T181.setTop (mkF m 78 #[.val (.long y0_0), .second, .val (.long y1_0), .second, .val (.long y2_0), .second, .val (.long y3_0), .second, .val (.int x4_0), .val (.ref b1), .val (.long y0_0), .second, .val (.long y3_0), .second, .val (.int (((x4_0.toUInt32 >>> ((2 : Int32) &&& 31).toUInt32).toInt32) &&& (3 : Int32))), .val (.ref b178), .unset] [(.int (lcmpW y3_0 y1_0))]))
          by_cases hc78_185 : (lcmpW y3_0 y1_0) = (0 : Int32)
          · skip
            refine own_step (fun t k => XS.ifNo X181.here hx rfl (hb hby at_78) rfl ((if0 _ _).trans (teq hc78_185).2) k) ?_
            show own_Ends p.tables e below s _ _ _ (T181.setTop (mkF m 81 #[.val (.long y0_0), .second, .val (.long y1_0), .second, .val (.long y2_0), .second, .val (.long y3_0), .second, .val (.int x4_0), .val (.ref b1), .val (.long y0_0), .second, .val (.long y3_0), .second, .val (.int (((x4_0.toUInt32 >>> ((2 : Int32) &&& 31).toUInt32).toInt32) &&& (3 : Int32))), .val (.ref b178), .unset] []))
            refine own_step (fun t k => XS.iconst X181.here hx rfl (hb hby at_81) k) ?_
            show own_Ends p.tables e below s _ _ _ (T181.setTop (mkF m 82 #[.val (.long y0_0), .second, .val (.long y1_0), .second, .val (.long y2_0), .second, .val (.long y3_0), .second, .val (.int x4_0), .val (.ref b1), .val (.long y0_0), .second, .val (.long y3_0), .second, .val (.int (((x4_0.toUInt32 >>> ((2 : Int32) &&& 31).toUInt32).toInt32) &&& (3 : Int32))), .val (.ref b178), .unset] [(.int (1 : Int32))]))
            refine own_step (fun t k => XS.goto X181.here hx rfl (pc0 := 82) (pc' := 86) rfl (hb hby at_82) (by decide) (by decide) k) ?_
            show own_Ends p.tables e below s _ _ _ (T181.setTop (mkF m 86 #[.val (.long y0_0), .second, .val (.long y1_0), .second, .val (.long y2_0), .second, .val (.long y3_0), .second, .val (.int x4_0), .val (.ref b1), .val (.long y0_0), .second, .val (.long y3_0), .second, .val (.int (((x4_0.toUInt32 >>> ((2 : Int32) &&& 31).toUInt32).toInt32) &&& (3 : Int32))), .val (.ref b178), .unset] [(.int (1 : Int32))]))
            refine own_step (fun t k => XS.istore X181.here hx rfl (hb hby at_86) rfl (l' := #[.val (.long y0_0), .second, .val (.long y1_0), .second, .val (.long y2_0), .second, .val (.long y3_0), .second, .val (.int x4_0), .val (.ref b1), .val (.long y0_0), .second, .val (.long y3_0), .second, .val (.int (((x4_0.toUInt32 >>> ((2 : Int32) &&& 31).toUInt32).toInt32) &&& (3 : Int32))), .val (.ref b178), .val (.int (1 : Int32))]) rfl k) ?_
            show own_Ends p.tables e below s _ _ _ (T181.setTop (mkF m 88 #[.val (.long y0_0), .second, .val (.long y1_0), .second, .val (.long y2_0), .second, .val (.long y3_0), .second, .val (.int x4_0), .val (.ref b1), .val (.long y0_0), .second, .val (.long y3_0), .second, .val (.int (((x4_0.toUInt32 >>> ((2 : Int32) &&& 31).toUInt32).toInt32) &&& (3 : Int32))), .val (.ref b178), .val (.int (1 : Int32))] []))
            refine own_step (fun t k => XS.aload X181.here hx rfl (hb hby at_88) rfl rfl k) ?_
            show own_Ends p.tables e below s _ _ _ (T181.setTop (mkF m 90 #[.val (.long y0_0), .second, .val (.long y1_0), .second, .val (.long y2_0), .second, .val (.long y3_0), .second, .val (.int x4_0), .val (.ref b1), .val (.long y0_0), .second, .val (.long y3_0), .second, .val (.int (((x4_0.toUInt32 >>> ((2 : Int32) &&& 31).toUInt32).toInt32) &&& (3 : Int32))), .val (.ref b178), .val (.int (1 : Int32))] [(.ref b1)]))
            refine own_step (fun t k => XS.aload X181.here hx rfl (hb hby at_90) rfl rfl k) ?_
            show own_Ends p.tables e below s _ _ _ (T181.setTop (mkF m 92 #[.val (.long y0_0), .second, .val (.long y1_0), .second, .val (.long y2_0), .second, .val (.long y3_0), .second, .val (.int x4_0), .val (.ref b1), .val (.long y0_0), .second, .val (.long y3_0), .second, .val (.int (((x4_0.toUInt32 >>> ((2 : Int32) &&& 31).toUInt32).toInt32) &&& (3 : Int32))), .val (.ref b178), .val (.int (1 : Int32))] [(.ref b178), (.ref b1)]))
            have F186 : Fld Z T181.heap b1 "com/example/swanhall/swanhall/core/Cell" "x" "J" (.long y0_0) := ((p4_1.ext E178).keep K181q (ninS ne_b1_b178 nin0))
            have F187 : Fld Z T181.heap b1 "com/example/swanhall/swanhall/core/Cell" "y" "J" (.long y1_0) := ((p4_2.ext E178).keep K181q (ninS ne_b1_b178 nin0))
            have O188 : Old Z n0 T181.heap := (O180.keep K181q (allS g_b178 all0))
            have F190 : Exa Z T181.heap b1 "com/example/swanhall/swanhall/core/Cell" := ((p4_0.ext E178).keep K181q)
            obtain ⟨cq189, kq189, q189a, q189b, q189c⟩ := isOf hZ rfl F190
            obtain ⟨_, _, ⟨T189, L189, k189, n189⟩, -, X189, ⟨Lc189, hQ189, l189, y189, z189⟩, st189⟩ := X181.virtualBack hx (y := (⟨"com/example/swanhall/swanhall/core/Cell", "equals", "(Ljava/lang/Object;)Z"⟩ : MethodName)) (z := (⟨"com/example/swanhall/swanhall/core/Cell", "equals", "(Ljava/lang/Object;)Z"⟩ : MethodName)) hown (mvT hZ (hw _ (List.mem_of_getElem? (i := 18) rfl))) (mvT hZ (hw _ (List.mem_of_getElem? (i := 19) rfl))) (notFace_of_selects (args := #[]) (mvT hZ (hw _ (List.mem_of_getElem? (i := 21) rfl)))) (mvT hZ (hw _ (List.mem_of_getElem? (i := 21) rfl))) (mvT hZ (hw _ (List.mem_of_getElem? (i := 20) rfl))) (by decide) (backOf (W := 0) (rm4 l Z a0 hw [] b1 b178 y0_0 y0_0 y3_0 y1_0 T181.heap n0 O188 p181_0 p181_1 F186 p181_2 F187) hZ (hw _ (List.mem_of_getElem? (i := 22) rfl)) (hw _ (List.mem_of_getElem? (i := 2) rfl)) (by decide) (by decide)) q189a q189c (g := (mkF m 92 #[.val (.long y0_0), .second, .val (.long y1_0), .second, .val (.long y2_0), .second, .val (.long y3_0), .second, .val (.int x4_0), .val (.ref b1), .val (.long y0_0), .second, .val (.long y3_0), .second, .val (.int (((x4_0.toUInt32 >>> ((2 : Int32) &&& 31).toUInt32).toInt32) &&& (3 : Int32))), .val (.ref b178), .val (.int (1 : Int32))] [(.ref b178), (.ref b1)])) rfl (by rw [hml]; rfl) (Steps.refl _) (argsL := [(.ref b178)]) (rest := []) (lenOf pd_3 rfl) rfl (by show 2 * 0 + _ ≤ _; exact Nat.le_of_eq rfl) (hb hby at_92) (fun _ _ => ⟨rfl, rfl, (by decide : 2 + 0 ≤ _), (by decide : 4 + 0 ≤ _)⟩)
            dsimp only [Pt.U, Pt.locs, Pt.cells, Pt.slots] at X189 l189 y189 z189 st189 hQ189
            subst y189 z189
            obtain ⟨rfl, N189q, e189⟩ := hQ189
            refine own_step (fun t k => st189.trans k) ?_
            have N191 : Fr n0 L189 := by rw [l189]; exact Fr.app N182 N189q
            show own_Ends p.tables e below s _ _ _ (T189.setTop (mkF m 95 #[.val (.long y0_0), .second, .val (.long y1_0), .second, .val (.long y2_0), .second, .val (.long y3_0), .second, .val (.int x4_0), .val (.ref b1), .val (.long y0_0), .second, .val (.long y3_0), .second, .val (.int (((x4_0.toUInt32 >>> ((2 : Int32) &&& 31).toUInt32).toInt32) &&& (3 : Int32))), .val (.ref b178), .val (.int (1 : Int32))] [(.int (own_r4 y0_0 y0_0 y3_0 y1_0))]))
            refine own_step (fun t k => XS.iload X189.here hx rfl (hb hby at_95) rfl k) ?_
            show own_Ends p.tables e below s _ _ _ (T189.setTop (mkF m 97 #[.val (.long y0_0), .second, .val (.long y1_0), .second, .val (.long y2_0), .second, .val (.long y3_0), .second, .val (.int x4_0), .val (.ref b1), .val (.long y0_0), .second, .val (.long y3_0), .second, .val (.int (((x4_0.toUInt32 >>> ((2 : Int32) &&& 31).toUInt32).toInt32) &&& (3 : Int32))), .val (.ref b178), .val (.int (1 : Int32))] [(.int (1 : Int32)), (.int (own_r4 y0_0 y0_0 y3_0 y1_0))]))
            by_cases hc97_192 : (own_r4 y0_0 y0_0 y3_0 y1_0) = (1 : Int32)
            · skip
              refine own_step (fun t k => XS.icmpNo X189.here hx rfl (hb hby at_97) rfl (teq hc97_192).2 k) ?_
              show own_Ends p.tables e below s _ _ _ (T189.setTop (mkF m 100 #[.val (.long y0_0), .second, .val (.long y1_0), .second, .val (.long y2_0), .second, .val (.long y3_0), .second, .val (.int x4_0), .val (.ref b1), .val (.long y0_0), .second, .val (.long y3_0), .second, .val (.int (((x4_0.toUInt32 >>> ((2 : Int32) &&& 31).toUInt32).toInt32) &&& (3 : Int32))), .val (.ref b178), .val (.int (1 : Int32))] []))
              refine own_step (fun t k => XS.aload X189.here hx rfl (hb hby at_100) rfl rfl k) ?_
              show own_Ends p.tables e below s _ _ _ (T189.setTop (mkF m 102 #[.val (.long y0_0), .second, .val (.long y1_0), .second, .val (.long y2_0), .second, .val (.long y3_0), .second, .val (.int x4_0), .val (.ref b1), .val (.long y0_0), .second, .val (.long y3_0), .second, .val (.int (((x4_0.toUInt32 >>> ((2 : Int32) &&& 31).toUInt32).toInt32) &&& (3 : Int32))), .val (.ref b178), .val (.int (1 : Int32))] [(.ref b178)]))
              refine own_step (fun t k => XS.aload X189.here hx rfl (hb hby at_102) rfl rfl k) ?_
              show own_Ends p.tables e below s _ _ _ (T189.setTop (mkF m 104 #[.val (.long y0_0), .second, .val (.long y1_0), .second, .val (.long y2_0), .second, .val (.long y3_0), .second, .val (.int x4_0), .val (.ref b1), .val (.long y0_0), .second, .val (.long y3_0), .second, .val (.int (((x4_0.toUInt32 >>> ((2 : Int32) &&& 31).toUInt32).toInt32) &&& (3 : Int32))), .val (.ref b178), .val (.int (1 : Int32))] [(.ref b1), (.ref b178)]))
              obtain ⟨cq193, kq193, q193a, q193b, q193c⟩ := isOf hZ e189 p181_0
              obtain ⟨_, _, ⟨T193, L193, k193, n193⟩, -, X193, ⟨Lc193, hQ193, l193, y193, z193⟩, st193⟩ := X189.virtualBack hx (y := (⟨"com/example/swanhall/swanhall/core/Cell", "equals", "(Ljava/lang/Object;)Z"⟩ : MethodName)) (z := (⟨"com/example/swanhall/swanhall/core/Cell", "equals", "(Ljava/lang/Object;)Z"⟩ : MethodName)) hown (mvT hZ (hw _ (List.mem_of_getElem? (i := 18) rfl))) (mvT hZ (hw _ (List.mem_of_getElem? (i := 19) rfl))) (notFace_of_selects (args := #[]) (mvT hZ (hw _ (List.mem_of_getElem? (i := 21) rfl)))) (mvT hZ (hw _ (List.mem_of_getElem? (i := 21) rfl))) (mvT hZ (hw _ (List.mem_of_getElem? (i := 20) rfl))) (by decide) (backOf (W := 0) (rm4 l Z a0 hw [] b178 b1 y0_0 y0_0 y1_0 y3_0 T181.heap n0 O188 F190 F186 p181_1 F187 p181_2) hZ (hw _ (List.mem_of_getElem? (i := 22) rfl)) (hw _ (List.mem_of_getElem? (i := 2) rfl)) (by decide) (by decide)) q193a q193c (g := (mkF m 104 #[.val (.long y0_0), .second, .val (.long y1_0), .second, .val (.long y2_0), .second, .val (.long y3_0), .second, .val (.int x4_0), .val (.ref b1), .val (.long y0_0), .second, .val (.long y3_0), .second, .val (.int (((x4_0.toUInt32 >>> ((2 : Int32) &&& 31).toUInt32).toInt32) &&& (3 : Int32))), .val (.ref b178), .val (.int (1 : Int32))] [(.ref b1), (.ref b178)])) rfl (by rw [hml]; rfl) (Steps.refl _) (argsL := [(.ref b1)]) (rest := []) (lenOf pd_3 rfl) rfl (by show 2 * 0 + _ ≤ _; exact Nat.le_of_eq rfl) (hb hby at_104) (fun _ _ => ⟨rfl, e189, (by decide : 2 + 0 ≤ _), (by decide : 4 + 0 ≤ _)⟩)
              dsimp only [Pt.U, Pt.locs, Pt.cells, Pt.slots] at X193 l193 y193 z193 st193 hQ193
              subst y193 z193
              obtain ⟨rfl, N193q, e193⟩ := hQ193
              refine own_step (fun t k => st193.trans k) ?_
              have N194 : Fr n0 L193 := by rw [l193]; exact Fr.app N191 N193q
              show own_Ends p.tables e below s _ _ _ (T193.setTop (mkF m 107 #[.val (.long y0_0), .second, .val (.long y1_0), .second, .val (.long y2_0), .second, .val (.long y3_0), .second, .val (.int x4_0), .val (.ref b1), .val (.long y0_0), .second, .val (.long y3_0), .second, .val (.int (((x4_0.toUInt32 >>> ((2 : Int32) &&& 31).toUInt32).toInt32) &&& (3 : Int32))), .val (.ref b178), .val (.int (1 : Int32))] [(.int (own_r4 y0_0 y0_0 y1_0 y3_0))]))
              refine own_step (fun t k => XS.iload X193.here hx rfl (hb hby at_107) rfl k) ?_
              show own_Ends p.tables e below s _ _ _ (T193.setTop (mkF m 109 #[.val (.long y0_0), .second, .val (.long y1_0), .second, .val (.long y2_0), .second, .val (.long y3_0), .second, .val (.int x4_0), .val (.ref b1), .val (.long y0_0), .second, .val (.long y3_0), .second, .val (.int (((x4_0.toUInt32 >>> ((2 : Int32) &&& 31).toUInt32).toInt32) &&& (3 : Int32))), .val (.ref b178), .val (.int (1 : Int32))] [(.int (1 : Int32)), (.int (own_r4 y0_0 y0_0 y1_0 y3_0))]))
              by_cases hc109_195 : (own_r4 y0_0 y0_0 y1_0 y3_0) = (1 : Int32)
              · skip
                refine own_step (fun t k => XS.icmpNo X193.here hx rfl (hb hby at_109) rfl (teq hc109_195).2 k) ?_
                show own_Ends p.tables e below s _ _ _ (T193.setTop (mkF m 112 #[.val (.long y0_0), .second, .val (.long y1_0), .second, .val (.long y2_0), .second, .val (.long y3_0), .second, .val (.int x4_0), .val (.ref b1), .val (.long y0_0), .second, .val (.long y3_0), .second, .val (.int (((x4_0.toUInt32 >>> ((2 : Int32) &&& 31).toUInt32).toInt32) &&& (3 : Int32))), .val (.ref b178), .val (.int (1 : Int32))] []))
                refine own_step (fun t k => XS.aload X193.here hx rfl (hb hby at_112) rfl rfl k) ?_
                show own_Ends p.tables e below s _ _ _ (T193.setTop (mkF m 114 #[.val (.long y0_0), .second, .val (.long y1_0), .second, .val (.long y2_0), .second, .val (.long y3_0), .second, .val (.int x4_0), .val (.ref b1), .val (.long y0_0), .second, .val (.long y3_0), .second, .val (.int (((x4_0.toUInt32 >>> ((2 : Int32) &&& 31).toUInt32).toInt32) &&& (3 : Int32))), .val (.ref b178), .val (.int (1 : Int32))] [(.ref b1)]))
                refine own_step (fun t k => XS.aload X193.here hx rfl (hb hby at_114) rfl rfl k) ?_
                show own_Ends p.tables e below s _ _ _ (T193.setTop (mkF m 116 #[.val (.long y0_0), .second, .val (.long y1_0), .second, .val (.long y2_0), .second, .val (.long y3_0), .second, .val (.int x4_0), .val (.ref b1), .val (.long y0_0), .second, .val (.long y3_0), .second, .val (.int (((x4_0.toUInt32 >>> ((2 : Int32) &&& 31).toUInt32).toInt32) &&& (3 : Int32))), .val (.ref b178), .val (.int (1 : Int32))] [(.ref b1), (.ref b1)]))
                obtain ⟨cq196, kq196, q196a, q196b, q196c⟩ := isOf hZ e193 F190
                obtain ⟨_, _, ⟨T196, L196, k196, n196⟩, -, X196, ⟨Lc196, hQ196, l196, y196, z196⟩, st196⟩ := X193.virtualBack hx (y := (⟨"com/example/swanhall/swanhall/core/Cell", "equals", "(Ljava/lang/Object;)Z"⟩ : MethodName)) (z := (⟨"com/example/swanhall/swanhall/core/Cell", "equals", "(Ljava/lang/Object;)Z"⟩ : MethodName)) hown (mvT hZ (hw _ (List.mem_of_getElem? (i := 18) rfl))) (mvT hZ (hw _ (List.mem_of_getElem? (i := 19) rfl))) (notFace_of_selects (args := #[]) (mvT hZ (hw _ (List.mem_of_getElem? (i := 21) rfl)))) (mvT hZ (hw _ (List.mem_of_getElem? (i := 21) rfl))) (mvT hZ (hw _ (List.mem_of_getElem? (i := 20) rfl))) (by decide) (backOf (W := 0) (rm4 l Z a0 hw [] b1 b1 y0_0 y0_0 y1_0 y1_0 T181.heap n0 O188 F190 F186 F186 F187 F187) hZ (hw _ (List.mem_of_getElem? (i := 22) rfl)) (hw _ (List.mem_of_getElem? (i := 2) rfl)) (by decide) (by decide)) q196a q196c (g := (mkF m 116 #[.val (.long y0_0), .second, .val (.long y1_0), .second, .val (.long y2_0), .second, .val (.long y3_0), .second, .val (.int x4_0), .val (.ref b1), .val (.long y0_0), .second, .val (.long y3_0), .second, .val (.int (((x4_0.toUInt32 >>> ((2 : Int32) &&& 31).toUInt32).toInt32) &&& (3 : Int32))), .val (.ref b178), .val (.int (1 : Int32))] [(.ref b1), (.ref b1)])) rfl (by rw [hml]; rfl) (Steps.refl _) (argsL := [(.ref b1)]) (rest := []) (lenOf pd_3 rfl) rfl (by show 2 * 0 + _ ≤ _; exact Nat.le_of_eq rfl) (hb hby at_116) (fun _ _ => ⟨rfl, e193, (by decide : 2 + 0 ≤ _), (by decide : 4 + 0 ≤ _)⟩)
                dsimp only [Pt.U, Pt.locs, Pt.cells, Pt.slots] at X196 l196 y196 z196 st196 hQ196
                subst y196 z196
                obtain ⟨rfl, N196q, e196⟩ := hQ196
                refine own_step (fun t k => st196.trans k) ?_
                have N197 : Fr n0 L196 := by rw [l196]; exact Fr.app N194 N196q
                show own_Ends p.tables e below s _ _ _ (T196.setTop (mkF m 119 #[.val (.long y0_0), .second, .val (.long y1_0), .second, .val (.long y2_0), .second, .val (.long y3_0), .second, .val (.int x4_0), .val (.ref b1), .val (.long y0_0), .second, .val (.long y3_0), .second, .val (.int (((x4_0.toUInt32 >>> ((2 : Int32) &&& 31).toUInt32).toInt32) &&& (3 : Int32))), .val (.ref b178), .val (.int (1 : Int32))] [(.int (own_r4 y0_0 y0_0 y1_0 y1_0))]))
                by_cases hc119_198 : (own_r4 y0_0 y0_0 y1_0 y1_0) = (0 : Int32)
                · skip
                  refine own_step (fun t k => XS.ifYes X196.here hx rfl (pc0 := 119) (pc' := 126) rfl (hb hby at_119) rfl ((if0 _ _).trans (teq hc119_198).1) (by decide) (by decide) k) ?_
                  show own_Ends p.tables e below s _ _ _ (T196.setTop (mkF m 126 #[.val (.long y0_0), .second, .val (.long y1_0), .second, .val (.long y2_0), .second, .val (.long y3_0), .second, .val (.int x4_0), .val (.ref b1), .val (.long y0_0), .second, .val (.long y3_0), .second, .val (.int (((x4_0.toUInt32 >>> ((2 : Int32) &&& 31).toUInt32).toInt32) &&& (3 : Int32))), .val (.ref b178), .val (.int (1 : Int32))] []))
                  refine own_step (fun t k => XS.iconst X196.here hx rfl (hb hby at_126) k) ?_
                  show own_Ends p.tables e below s _ _ _ (T196.setTop (mkF m 127 #[.val (.long y0_0), .second, .val (.long y1_0), .second, .val (.long y2_0), .second, .val (.long y3_0), .second, .val (.int x4_0), .val (.ref b1), .val (.long y0_0), .second, .val (.long y3_0), .second, .val (.int (((x4_0.toUInt32 >>> ((2 : Int32) &&& 31).toUInt32).toInt32) &&& (3 : Int32))), .val (.ref b178), .val (.int (1 : Int32))] [(.int (0 : Int32))]))
                  exfalso
                  exact absurd hc119_198 (by rw [own_eq4]; simp)
                · skip
                  refine own_step (fun t k => XS.ifNo X196.here hx rfl (hb hby at_119) rfl ((if0 _ _).trans (feq hc119_198).1) k) ?_
                  show own_Ends p.tables e below s _ _ _ (T196.setTop (mkF m 122 #[.val (.long y0_0), .second, .val (.long y1_0), .second, .val (.long y2_0), .second, .val (.long y3_0), .second, .val (.int x4_0), .val (.ref b1), .val (.long y0_0), .second, .val (.long y3_0), .second, .val (.int (((x4_0.toUInt32 >>> ((2 : Int32) &&& 31).toUInt32).toInt32) &&& (3 : Int32))), .val (.ref b178), .val (.int (1 : Int32))] []))
                  refine own_step (fun t k => XS.iconst X196.here hx rfl (hb hby at_122) k) ?_
                  show own_Ends p.tables e below s _ _ _ (T196.setTop (mkF m 123 #[.val (.long y0_0), .second, .val (.long y1_0), .second, .val (.long y2_0), .second, .val (.long y3_0), .second, .val (.int x4_0), .val (.ref b1), .val (.long y0_0), .second, .val (.long y3_0), .second, .val (.int (((x4_0.toUInt32 >>> ((2 : Int32) &&& 31).toUInt32).toInt32) &&& (3 : Int32))), .val (.ref b178), .val (.int (1 : Int32))] [(.int (1 : Int32))]))
                  refine own_step (fun t k => XS.goto X196.here hx rfl (pc0 := 123) (pc' := 127) rfl (hb hby at_123) (by decide) (by decide) k) ?_
                  show own_Ends p.tables e below s _ _ _ (T196.setTop (mkF m 127 #[.val (.long y0_0), .second, .val (.long y1_0), .second, .val (.long y2_0), .second, .val (.long y3_0), .second, .val (.int x4_0), .val (.ref b1), .val (.long y0_0), .second, .val (.long y3_0), .second, .val (.int (((x4_0.toUInt32 >>> ((2 : Int32) &&& 31).toUInt32).toInt32) &&& (3 : Int32))), .val (.ref b178), .val (.int (1 : Int32))] [(.int (1 : Int32))]))
                  exact own_retN X196 hx (t := .boolean) Bd.returns (by simp) (hb hby at_127) hnl (by rw [e196]; exact ⟨rfl, N197⟩) (by decide) (by decide)
              · skip
                refine own_step (fun t k => XS.icmpYes X193.here hx rfl (pc0 := 109) (pc' := 126) rfl (hb hby at_109) rfl (feq hc109_195).2 (by decide) (by decide) k) ?_
                show own_Ends p.tables e below s _ _ _ (T193.setTop (mkF m 126 #[.val (.long y0_0), .second, .val (.long y1_0), .second, .val (.long y2_0), .second, .val (.long y3_0), .second, .val (.int x4_0), .val (.ref b1), .val (.long y0_0), .second, .val (.long y3_0), .second, .val (.int (((x4_0.toUInt32 >>> ((2 : Int32) &&& 31).toUInt32).toInt32) &&& (3 : Int32))), .val (.ref b178), .val (.int (1 : Int32))] []))
                refine own_step (fun t k => XS.iconst X193.here hx rfl (hb hby at_126) k) ?_
                show own_Ends p.tables e below s _ _ _ (T193.setTop (mkF m 127 #[.val (.long y0_0), .second, .val (.long y1_0), .second, .val (.long y2_0), .second, .val (.long y3_0), .second, .val (.int x4_0), .val (.ref b1), .val (.long y0_0), .second, .val (.long y3_0), .second, .val (.int (((x4_0.toUInt32 >>> ((2 : Int32) &&& 31).toUInt32).toInt32) &&& (3 : Int32))), .val (.ref b178), .val (.int (1 : Int32))] [(.int (0 : Int32))]))
                exfalso
                exact hc109_195 (by rw [own_eq4]; exact if_pos ⟨((own_lc _ _).mp hc71_184), ((own_lc _ _).mp hc78_185).symm⟩)
            · skip
              refine own_step (fun t k => XS.icmpYes X189.here hx rfl (pc0 := 97) (pc' := 126) rfl (hb hby at_97) rfl (feq hc97_192).2 (by decide) (by decide) k) ?_
              show own_Ends p.tables e below s _ _ _ (T189.setTop (mkF m 126 #[.val (.long y0_0), .second, .val (.long y1_0), .second, .val (.long y2_0), .second, .val (.long y3_0), .second, .val (.int x4_0), .val (.ref b1), .val (.long y0_0), .second, .val (.long y3_0), .second, .val (.int (((x4_0.toUInt32 >>> ((2 : Int32) &&& 31).toUInt32).toInt32) &&& (3 : Int32))), .val (.ref b178), .val (.int (1 : Int32))] []))
              refine own_step (fun t k => XS.iconst X189.here hx rfl (hb hby at_126) k) ?_
              show own_Ends p.tables e below s _ _ _ (T189.setTop (mkF m 127 #[.val (.long y0_0), .second, .val (.long y1_0), .second, .val (.long y2_0), .second, .val (.long y3_0), .second, .val (.int x4_0), .val (.ref b1), .val (.long y0_0), .second, .val (.long y3_0), .second, .val (.int (((x4_0.toUInt32 >>> ((2 : Int32) &&& 31).toUInt32).toInt32) &&& (3 : Int32))), .val (.ref b178), .val (.int (1 : Int32))] [(.int (0 : Int32))]))
              exfalso
              exact hc97_192 (by rw [own_eq4]; exact if_pos ⟨((own_lc _ _).mp hc71_184), ((own_lc _ _).mp hc78_185)⟩)
          · skip
            refine own_step (fun t k => XS.ifYes X181.here hx rfl (pc0 := 78) (pc' := 85) rfl (hb hby at_78) rfl ((if0 _ _).trans (feq hc78_185).2) (by decide) (by decide) k) ?_
            show own_Ends p.tables e below s _ _ _ (T181.setTop (mkF m 85 #[.val (.long y0_0), .second, .val (.long y1_0), .second, .val (.long y2_0), .second, .val (.long y3_0), .second, .val (.int x4_0), .val (.ref b1), .val (.long y0_0), .second, .val (.long y3_0), .second, .val (.int (((x4_0.toUInt32 >>> ((2 : Int32) &&& 31).toUInt32).toInt32) &&& (3 : Int32))), .val (.ref b178), .unset] []))
            refine own_step (fun t k => XS.iconst X181.here hx rfl (hb hby at_85) k) ?_
            show own_Ends p.tables e below s _ _ _ (T181.setTop (mkF m 86 #[.val (.long y0_0), .second, .val (.long y1_0), .second, .val (.long y2_0), .second, .val (.long y3_0), .second, .val (.int x4_0), .val (.ref b1), .val (.long y0_0), .second, .val (.long y3_0), .second, .val (.int (((x4_0.toUInt32 >>> ((2 : Int32) &&& 31).toUInt32).toInt32) &&& (3 : Int32))), .val (.ref b178), .unset] [(.int (0 : Int32))]))
            refine own_step (fun t k => XS.istore X181.here hx rfl (hb hby at_86) rfl (l' := #[.val (.long y0_0), .second, .val (.long y1_0), .second, .val (.long y2_0), .second, .val (.long y3_0), .second, .val (.int x4_0), .val (.ref b1), .val (.long y0_0), .second, .val (.long y3_0), .second, .val (.int (((x4_0.toUInt32 >>> ((2 : Int32) &&& 31).toUInt32).toInt32) &&& (3 : Int32))), .val (.ref b178), .val (.int (0 : Int32))]) rfl k) ?_
            show own_Ends p.tables e below s _ _ _ (T181.setTop (mkF m 88 #[.val (.long y0_0), .second, .val (.long y1_0), .second, .val (.long y2_0), .second, .val (.long y3_0), .second, .val (.int x4_0), .val (.ref b1), .val (.long y0_0), .second, .val (.long y3_0), .second, .val (.int (((x4_0.toUInt32 >>> ((2 : Int32) &&& 31).toUInt32).toInt32) &&& (3 : Int32))), .val (.ref b178), .val (.int (0 : Int32))] []))
            refine own_step (fun t k => XS.aload X181.here hx rfl (hb hby at_88) rfl rfl k) ?_
            show own_Ends p.tables e below s _ _ _ (T181.setTop (mkF m 90 #[.val (.long y0_0), .second, .val (.long y1_0), .second, .val (.long y2_0), .second, .val (.long y3_0), .second, .val (.int x4_0), .val (.ref b1), .val (.long y0_0), .second, .val (.long y3_0), .second, .val (.int (((x4_0.toUInt32 >>> ((2 : Int32) &&& 31).toUInt32).toInt32) &&& (3 : Int32))), .val (.ref b178), .val (.int (0 : Int32))] [(.ref b1)]))
            refine own_step (fun t k => XS.aload X181.here hx rfl (hb hby at_90) rfl rfl k) ?_
            show own_Ends p.tables e below s _ _ _ (T181.setTop (mkF m 92 #[.val (.long y0_0), .second, .val (.long y1_0), .second, .val (.long y2_0), .second, .val (.long y3_0), .second, .val (.int x4_0), .val (.ref b1), .val (.long y0_0), .second, .val (.long y3_0), .second, .val (.int (((x4_0.toUInt32 >>> ((2 : Int32) &&& 31).toUInt32).toInt32) &&& (3 : Int32))), .val (.ref b178), .val (.int (0 : Int32))] [(.ref b178), (.ref b1)]))
            have F199 : Fld Z T181.heap b1 "com/example/swanhall/swanhall/core/Cell" "x" "J" (.long y0_0) := ((p4_1.ext E178).keep K181q (ninS ne_b1_b178 nin0))
            have F200 : Fld Z T181.heap b1 "com/example/swanhall/swanhall/core/Cell" "y" "J" (.long y1_0) := ((p4_2.ext E178).keep K181q (ninS ne_b1_b178 nin0))
            have O201 : Old Z n0 T181.heap := (O180.keep K181q (allS g_b178 all0))
            have F203 : Exa Z T181.heap b1 "com/example/swanhall/swanhall/core/Cell" := ((p4_0.ext E178).keep K181q)
            obtain ⟨cq202, kq202, q202a, q202b, q202c⟩ := isOf hZ rfl F203
            obtain ⟨_, _, ⟨T202, L202, k202, n202⟩, -, X202, ⟨Lc202, hQ202, l202, y202, z202⟩, st202⟩ := X181.virtualBack hx (y := (⟨"com/example/swanhall/swanhall/core/Cell", "equals", "(Ljava/lang/Object;)Z"⟩ : MethodName)) (z := (⟨"com/example/swanhall/swanhall/core/Cell", "equals", "(Ljava/lang/Object;)Z"⟩ : MethodName)) hown (mvT hZ (hw _ (List.mem_of_getElem? (i := 18) rfl))) (mvT hZ (hw _ (List.mem_of_getElem? (i := 19) rfl))) (notFace_of_selects (args := #[]) (mvT hZ (hw _ (List.mem_of_getElem? (i := 21) rfl)))) (mvT hZ (hw _ (List.mem_of_getElem? (i := 21) rfl))) (mvT hZ (hw _ (List.mem_of_getElem? (i := 20) rfl))) (by decide) (backOf (W := 0) (rm4 l Z a0 hw [] b1 b178 y0_0 y0_0 y3_0 y1_0 T181.heap n0 O201 p181_0 p181_1 F199 p181_2 F200) hZ (hw _ (List.mem_of_getElem? (i := 22) rfl)) (hw _ (List.mem_of_getElem? (i := 2) rfl)) (by decide) (by decide)) q202a q202c (g := (mkF m 92 #[.val (.long y0_0), .second, .val (.long y1_0), .second, .val (.long y2_0), .second, .val (.long y3_0), .second, .val (.int x4_0), .val (.ref b1), .val (.long y0_0), .second, .val (.long y3_0), .second, .val (.int (((x4_0.toUInt32 >>> ((2 : Int32) &&& 31).toUInt32).toInt32) &&& (3 : Int32))), .val (.ref b178), .val (.int (0 : Int32))] [(.ref b178), (.ref b1)])) rfl (by rw [hml]; rfl) (Steps.refl _) (argsL := [(.ref b178)]) (rest := []) (lenOf pd_3 rfl) rfl (by show 2 * 0 + _ ≤ _; exact Nat.le_of_eq rfl) (hb hby at_92) (fun _ _ => ⟨rfl, rfl, (by decide : 2 + 0 ≤ _), (by decide : 4 + 0 ≤ _)⟩)
            dsimp only [Pt.U, Pt.locs, Pt.cells, Pt.slots] at X202 l202 y202 z202 st202 hQ202
            subst y202 z202
            obtain ⟨rfl, N202q, e202⟩ := hQ202
            refine own_step (fun t k => st202.trans k) ?_
            have N204 : Fr n0 L202 := by rw [l202]; exact Fr.app N182 N202q
            show own_Ends p.tables e below s _ _ _ (T202.setTop (mkF m 95 #[.val (.long y0_0), .second, .val (.long y1_0), .second, .val (.long y2_0), .second, .val (.long y3_0), .second, .val (.int x4_0), .val (.ref b1), .val (.long y0_0), .second, .val (.long y3_0), .second, .val (.int (((x4_0.toUInt32 >>> ((2 : Int32) &&& 31).toUInt32).toInt32) &&& (3 : Int32))), .val (.ref b178), .val (.int (0 : Int32))] [(.int (own_r4 y0_0 y0_0 y3_0 y1_0))]))
            refine own_step (fun t k => XS.iload X202.here hx rfl (hb hby at_95) rfl k) ?_
            show own_Ends p.tables e below s _ _ _ (T202.setTop (mkF m 97 #[.val (.long y0_0), .second, .val (.long y1_0), .second, .val (.long y2_0), .second, .val (.long y3_0), .second, .val (.int x4_0), .val (.ref b1), .val (.long y0_0), .second, .val (.long y3_0), .second, .val (.int (((x4_0.toUInt32 >>> ((2 : Int32) &&& 31).toUInt32).toInt32) &&& (3 : Int32))), .val (.ref b178), .val (.int (0 : Int32))] [(.int (0 : Int32)), (.int (own_r4 y0_0 y0_0 y3_0 y1_0))]))
            by_cases hc97_205 : (own_r4 y0_0 y0_0 y3_0 y1_0) = (0 : Int32)
            · skip
              refine own_step (fun t k => XS.icmpNo X202.here hx rfl (hb hby at_97) rfl (teq hc97_205).2 k) ?_
              show own_Ends p.tables e below s _ _ _ (T202.setTop (mkF m 100 #[.val (.long y0_0), .second, .val (.long y1_0), .second, .val (.long y2_0), .second, .val (.long y3_0), .second, .val (.int x4_0), .val (.ref b1), .val (.long y0_0), .second, .val (.long y3_0), .second, .val (.int (((x4_0.toUInt32 >>> ((2 : Int32) &&& 31).toUInt32).toInt32) &&& (3 : Int32))), .val (.ref b178), .val (.int (0 : Int32))] []))
              refine own_step (fun t k => XS.aload X202.here hx rfl (hb hby at_100) rfl rfl k) ?_
              show own_Ends p.tables e below s _ _ _ (T202.setTop (mkF m 102 #[.val (.long y0_0), .second, .val (.long y1_0), .second, .val (.long y2_0), .second, .val (.long y3_0), .second, .val (.int x4_0), .val (.ref b1), .val (.long y0_0), .second, .val (.long y3_0), .second, .val (.int (((x4_0.toUInt32 >>> ((2 : Int32) &&& 31).toUInt32).toInt32) &&& (3 : Int32))), .val (.ref b178), .val (.int (0 : Int32))] [(.ref b178)]))
              refine own_step (fun t k => XS.aload X202.here hx rfl (hb hby at_102) rfl rfl k) ?_
              show own_Ends p.tables e below s _ _ _ (T202.setTop (mkF m 104 #[.val (.long y0_0), .second, .val (.long y1_0), .second, .val (.long y2_0), .second, .val (.long y3_0), .second, .val (.int x4_0), .val (.ref b1), .val (.long y0_0), .second, .val (.long y3_0), .second, .val (.int (((x4_0.toUInt32 >>> ((2 : Int32) &&& 31).toUInt32).toInt32) &&& (3 : Int32))), .val (.ref b178), .val (.int (0 : Int32))] [(.ref b1), (.ref b178)]))
              obtain ⟨cq206, kq206, q206a, q206b, q206c⟩ := isOf hZ e202 p181_0
              obtain ⟨_, _, ⟨T206, L206, k206, n206⟩, -, X206, ⟨Lc206, hQ206, l206, y206, z206⟩, st206⟩ := X202.virtualBack hx (y := (⟨"com/example/swanhall/swanhall/core/Cell", "equals", "(Ljava/lang/Object;)Z"⟩ : MethodName)) (z := (⟨"com/example/swanhall/swanhall/core/Cell", "equals", "(Ljava/lang/Object;)Z"⟩ : MethodName)) hown (mvT hZ (hw _ (List.mem_of_getElem? (i := 18) rfl))) (mvT hZ (hw _ (List.mem_of_getElem? (i := 19) rfl))) (notFace_of_selects (args := #[]) (mvT hZ (hw _ (List.mem_of_getElem? (i := 21) rfl)))) (mvT hZ (hw _ (List.mem_of_getElem? (i := 21) rfl))) (mvT hZ (hw _ (List.mem_of_getElem? (i := 20) rfl))) (by decide) (backOf (W := 0) (rm4 l Z a0 hw [] b178 b1 y0_0 y0_0 y1_0 y3_0 T181.heap n0 O201 F203 F199 p181_1 F200 p181_2) hZ (hw _ (List.mem_of_getElem? (i := 22) rfl)) (hw _ (List.mem_of_getElem? (i := 2) rfl)) (by decide) (by decide)) q206a q206c (g := (mkF m 104 #[.val (.long y0_0), .second, .val (.long y1_0), .second, .val (.long y2_0), .second, .val (.long y3_0), .second, .val (.int x4_0), .val (.ref b1), .val (.long y0_0), .second, .val (.long y3_0), .second, .val (.int (((x4_0.toUInt32 >>> ((2 : Int32) &&& 31).toUInt32).toInt32) &&& (3 : Int32))), .val (.ref b178), .val (.int (0 : Int32))] [(.ref b1), (.ref b178)])) rfl (by rw [hml]; rfl) (Steps.refl _) (argsL := [(.ref b1)]) (rest := []) (lenOf pd_3 rfl) rfl (by show 2 * 0 + _ ≤ _; exact Nat.le_of_eq rfl) (hb hby at_104) (fun _ _ => ⟨rfl, e202, (by decide : 2 + 0 ≤ _), (by decide : 4 + 0 ≤ _)⟩)
              dsimp only [Pt.U, Pt.locs, Pt.cells, Pt.slots] at X206 l206 y206 z206 st206 hQ206
              subst y206 z206
              obtain ⟨rfl, N206q, e206⟩ := hQ206
              refine own_step (fun t k => st206.trans k) ?_
              have N207 : Fr n0 L206 := by rw [l206]; exact Fr.app N204 N206q
              show own_Ends p.tables e below s _ _ _ (T206.setTop (mkF m 107 #[.val (.long y0_0), .second, .val (.long y1_0), .second, .val (.long y2_0), .second, .val (.long y3_0), .second, .val (.int x4_0), .val (.ref b1), .val (.long y0_0), .second, .val (.long y3_0), .second, .val (.int (((x4_0.toUInt32 >>> ((2 : Int32) &&& 31).toUInt32).toInt32) &&& (3 : Int32))), .val (.ref b178), .val (.int (0 : Int32))] [(.int (own_r4 y0_0 y0_0 y1_0 y3_0))]))
              refine own_step (fun t k => XS.iload X206.here hx rfl (hb hby at_107) rfl k) ?_
              show own_Ends p.tables e below s _ _ _ (T206.setTop (mkF m 109 #[.val (.long y0_0), .second, .val (.long y1_0), .second, .val (.long y2_0), .second, .val (.long y3_0), .second, .val (.int x4_0), .val (.ref b1), .val (.long y0_0), .second, .val (.long y3_0), .second, .val (.int (((x4_0.toUInt32 >>> ((2 : Int32) &&& 31).toUInt32).toInt32) &&& (3 : Int32))), .val (.ref b178), .val (.int (0 : Int32))] [(.int (0 : Int32)), (.int (own_r4 y0_0 y0_0 y1_0 y3_0))]))
              by_cases hc109_208 : (own_r4 y0_0 y0_0 y1_0 y3_0) = (0 : Int32)
              · skip
                refine own_step (fun t k => XS.icmpNo X206.here hx rfl (hb hby at_109) rfl (teq hc109_208).2 k) ?_
                show own_Ends p.tables e below s _ _ _ (T206.setTop (mkF m 112 #[.val (.long y0_0), .second, .val (.long y1_0), .second, .val (.long y2_0), .second, .val (.long y3_0), .second, .val (.int x4_0), .val (.ref b1), .val (.long y0_0), .second, .val (.long y3_0), .second, .val (.int (((x4_0.toUInt32 >>> ((2 : Int32) &&& 31).toUInt32).toInt32) &&& (3 : Int32))), .val (.ref b178), .val (.int (0 : Int32))] []))
                refine own_step (fun t k => XS.aload X206.here hx rfl (hb hby at_112) rfl rfl k) ?_
                show own_Ends p.tables e below s _ _ _ (T206.setTop (mkF m 114 #[.val (.long y0_0), .second, .val (.long y1_0), .second, .val (.long y2_0), .second, .val (.long y3_0), .second, .val (.int x4_0), .val (.ref b1), .val (.long y0_0), .second, .val (.long y3_0), .second, .val (.int (((x4_0.toUInt32 >>> ((2 : Int32) &&& 31).toUInt32).toInt32) &&& (3 : Int32))), .val (.ref b178), .val (.int (0 : Int32))] [(.ref b1)]))
                refine own_step (fun t k => XS.aload X206.here hx rfl (hb hby at_114) rfl rfl k) ?_
                show own_Ends p.tables e below s _ _ _ (T206.setTop (mkF m 116 #[.val (.long y0_0), .second, .val (.long y1_0), .second, .val (.long y2_0), .second, .val (.long y3_0), .second, .val (.int x4_0), .val (.ref b1), .val (.long y0_0), .second, .val (.long y3_0), .second, .val (.int (((x4_0.toUInt32 >>> ((2 : Int32) &&& 31).toUInt32).toInt32) &&& (3 : Int32))), .val (.ref b178), .val (.int (0 : Int32))] [(.ref b1), (.ref b1)]))
                obtain ⟨cq209, kq209, q209a, q209b, q209c⟩ := isOf hZ e206 F203
                obtain ⟨_, _, ⟨T209, L209, k209, n209⟩, -, X209, ⟨Lc209, hQ209, l209, y209, z209⟩, st209⟩ := X206.virtualBack hx (y := (⟨"com/example/swanhall/swanhall/core/Cell", "equals", "(Ljava/lang/Object;)Z"⟩ : MethodName)) (z := (⟨"com/example/swanhall/swanhall/core/Cell", "equals", "(Ljava/lang/Object;)Z"⟩ : MethodName)) hown (mvT hZ (hw _ (List.mem_of_getElem? (i := 18) rfl))) (mvT hZ (hw _ (List.mem_of_getElem? (i := 19) rfl))) (notFace_of_selects (args := #[]) (mvT hZ (hw _ (List.mem_of_getElem? (i := 21) rfl)))) (mvT hZ (hw _ (List.mem_of_getElem? (i := 21) rfl))) (mvT hZ (hw _ (List.mem_of_getElem? (i := 20) rfl))) (by decide) (backOf (W := 0) (rm4 l Z a0 hw [] b1 b1 y0_0 y0_0 y1_0 y1_0 T181.heap n0 O201 F203 F199 F199 F200 F200) hZ (hw _ (List.mem_of_getElem? (i := 22) rfl)) (hw _ (List.mem_of_getElem? (i := 2) rfl)) (by decide) (by decide)) q209a q209c (g := (mkF m 116 #[.val (.long y0_0), .second, .val (.long y1_0), .second, .val (.long y2_0), .second, .val (.long y3_0), .second, .val (.int x4_0), .val (.ref b1), .val (.long y0_0), .second, .val (.long y3_0), .second, .val (.int (((x4_0.toUInt32 >>> ((2 : Int32) &&& 31).toUInt32).toInt32) &&& (3 : Int32))), .val (.ref b178), .val (.int (0 : Int32))] [(.ref b1), (.ref b1)])) rfl (by rw [hml]; rfl) (Steps.refl _) (argsL := [(.ref b1)]) (rest := []) (lenOf pd_3 rfl) rfl (by show 2 * 0 + _ ≤ _; exact Nat.le_of_eq rfl) (hb hby at_116) (fun _ _ => ⟨rfl, e206, (by decide : 2 + 0 ≤ _), (by decide : 4 + 0 ≤ _)⟩)
                dsimp only [Pt.U, Pt.locs, Pt.cells, Pt.slots] at X209 l209 y209 z209 st209 hQ209
                subst y209 z209
                obtain ⟨rfl, N209q, e209⟩ := hQ209
                refine own_step (fun t k => st209.trans k) ?_
                have N210 : Fr n0 L209 := by rw [l209]; exact Fr.app N207 N209q
                show own_Ends p.tables e below s _ _ _ (T209.setTop (mkF m 119 #[.val (.long y0_0), .second, .val (.long y1_0), .second, .val (.long y2_0), .second, .val (.long y3_0), .second, .val (.int x4_0), .val (.ref b1), .val (.long y0_0), .second, .val (.long y3_0), .second, .val (.int (((x4_0.toUInt32 >>> ((2 : Int32) &&& 31).toUInt32).toInt32) &&& (3 : Int32))), .val (.ref b178), .val (.int (0 : Int32))] [(.int (own_r4 y0_0 y0_0 y1_0 y1_0))]))
                by_cases hc119_211 : (own_r4 y0_0 y0_0 y1_0 y1_0) = (0 : Int32)
                · skip
                  refine own_step (fun t k => XS.ifYes X209.here hx rfl (pc0 := 119) (pc' := 126) rfl (hb hby at_119) rfl ((if0 _ _).trans (teq hc119_211).1) (by decide) (by decide) k) ?_
                  show own_Ends p.tables e below s _ _ _ (T209.setTop (mkF m 126 #[.val (.long y0_0), .second, .val (.long y1_0), .second, .val (.long y2_0), .second, .val (.long y3_0), .second, .val (.int x4_0), .val (.ref b1), .val (.long y0_0), .second, .val (.long y3_0), .second, .val (.int (((x4_0.toUInt32 >>> ((2 : Int32) &&& 31).toUInt32).toInt32) &&& (3 : Int32))), .val (.ref b178), .val (.int (0 : Int32))] []))
                  refine own_step (fun t k => XS.iconst X209.here hx rfl (hb hby at_126) k) ?_
                  show own_Ends p.tables e below s _ _ _ (T209.setTop (mkF m 127 #[.val (.long y0_0), .second, .val (.long y1_0), .second, .val (.long y2_0), .second, .val (.long y3_0), .second, .val (.int x4_0), .val (.ref b1), .val (.long y0_0), .second, .val (.long y3_0), .second, .val (.int (((x4_0.toUInt32 >>> ((2 : Int32) &&& 31).toUInt32).toInt32) &&& (3 : Int32))), .val (.ref b178), .val (.int (0 : Int32))] [(.int (0 : Int32))]))
                  exfalso
                  exact absurd hc119_211 (by rw [own_eq4]; simp)
                · skip
                  refine own_step (fun t k => XS.ifNo X209.here hx rfl (hb hby at_119) rfl ((if0 _ _).trans (feq hc119_211).1) k) ?_
                  show own_Ends p.tables e below s _ _ _ (T209.setTop (mkF m 122 #[.val (.long y0_0), .second, .val (.long y1_0), .second, .val (.long y2_0), .second, .val (.long y3_0), .second, .val (.int x4_0), .val (.ref b1), .val (.long y0_0), .second, .val (.long y3_0), .second, .val (.int (((x4_0.toUInt32 >>> ((2 : Int32) &&& 31).toUInt32).toInt32) &&& (3 : Int32))), .val (.ref b178), .val (.int (0 : Int32))] []))
                  refine own_step (fun t k => XS.iconst X209.here hx rfl (hb hby at_122) k) ?_
                  show own_Ends p.tables e below s _ _ _ (T209.setTop (mkF m 123 #[.val (.long y0_0), .second, .val (.long y1_0), .second, .val (.long y2_0), .second, .val (.long y3_0), .second, .val (.int x4_0), .val (.ref b1), .val (.long y0_0), .second, .val (.long y3_0), .second, .val (.int (((x4_0.toUInt32 >>> ((2 : Int32) &&& 31).toUInt32).toInt32) &&& (3 : Int32))), .val (.ref b178), .val (.int (0 : Int32))] [(.int (1 : Int32))]))
                  refine own_step (fun t k => XS.goto X209.here hx rfl (pc0 := 123) (pc' := 127) rfl (hb hby at_123) (by decide) (by decide) k) ?_
                  show own_Ends p.tables e below s _ _ _ (T209.setTop (mkF m 127 #[.val (.long y0_0), .second, .val (.long y1_0), .second, .val (.long y2_0), .second, .val (.long y3_0), .second, .val (.int x4_0), .val (.ref b1), .val (.long y0_0), .second, .val (.long y3_0), .second, .val (.int (((x4_0.toUInt32 >>> ((2 : Int32) &&& 31).toUInt32).toInt32) &&& (3 : Int32))), .val (.ref b178), .val (.int (0 : Int32))] [(.int (1 : Int32))]))
                  exact own_retN X209 hx (t := .boolean) Bd.returns (by simp) (hb hby at_127) hnl (by rw [e209]; exact ⟨rfl, N210⟩) (by decide) (by decide)
              · skip
                refine own_step (fun t k => XS.icmpYes X206.here hx rfl (pc0 := 109) (pc' := 126) rfl (hb hby at_109) rfl (feq hc109_208).2 (by decide) (by decide) k) ?_
                show own_Ends p.tables e below s _ _ _ (T206.setTop (mkF m 126 #[.val (.long y0_0), .second, .val (.long y1_0), .second, .val (.long y2_0), .second, .val (.long y3_0), .second, .val (.int x4_0), .val (.ref b1), .val (.long y0_0), .second, .val (.long y3_0), .second, .val (.int (((x4_0.toUInt32 >>> ((2 : Int32) &&& 31).toUInt32).toInt32) &&& (3 : Int32))), .val (.ref b178), .val (.int (0 : Int32))] []))
                refine own_step (fun t k => XS.iconst X206.here hx rfl (hb hby at_126) k) ?_
                show own_Ends p.tables e below s _ _ _ (T206.setTop (mkF m 127 #[.val (.long y0_0), .second, .val (.long y1_0), .second, .val (.long y2_0), .second, .val (.long y3_0), .second, .val (.int x4_0), .val (.ref b1), .val (.long y0_0), .second, .val (.long y3_0), .second, .val (.int (((x4_0.toUInt32 >>> ((2 : Int32) &&& 31).toUInt32).toInt32) &&& (3 : Int32))), .val (.ref b178), .val (.int (0 : Int32))] [(.int (0 : Int32))]))
                exfalso
                exact hc109_208 (by rw [own_eq4]; exact if_neg (fun q => hc78_185 ((own_lc _ _).mpr q.2.symm)))
            · skip
              refine own_step (fun t k => XS.icmpYes X202.here hx rfl (pc0 := 97) (pc' := 126) rfl (hb hby at_97) rfl (feq hc97_205).2 (by decide) (by decide) k) ?_
              show own_Ends p.tables e below s _ _ _ (T202.setTop (mkF m 126 #[.val (.long y0_0), .second, .val (.long y1_0), .second, .val (.long y2_0), .second, .val (.long y3_0), .second, .val (.int x4_0), .val (.ref b1), .val (.long y0_0), .second, .val (.long y3_0), .second, .val (.int (((x4_0.toUInt32 >>> ((2 : Int32) &&& 31).toUInt32).toInt32) &&& (3 : Int32))), .val (.ref b178), .val (.int (0 : Int32))] []))
              refine own_step (fun t k => XS.iconst X202.here hx rfl (hb hby at_126) k) ?_
              show own_Ends p.tables e below s _ _ _ (T202.setTop (mkF m 127 #[.val (.long y0_0), .second, .val (.long y1_0), .second, .val (.long y2_0), .second, .val (.long y3_0), .second, .val (.int x4_0), .val (.ref b1), .val (.long y0_0), .second, .val (.long y3_0), .second, .val (.int (((x4_0.toUInt32 >>> ((2 : Int32) &&& 31).toUInt32).toInt32) &&& (3 : Int32))), .val (.ref b178), .val (.int (0 : Int32))] [(.int (0 : Int32))]))
              exfalso
              exact hc97_205 (by rw [own_eq4]; exact if_neg (fun q => hc78_185 ((own_lc _ _).mpr q.2)))
        · skip
          refine own_step (fun t k => XS.ifYes X181.here hx rfl (pc0 := 71) (pc' := 85) rfl (hb hby at_71) rfl ((if0 _ _).trans (feq hc71_184).2) (by decide) (by decide) k) ?_
          show own_Ends p.tables e below s _ _ _ (T181.setTop (mkF m 85 #[.val (.long y0_0), .second, .val (.long y1_0), .second, .val (.long y2_0), .second, .val (.long y3_0), .second, .val (.int x4_0), .val (.ref b1), .val (.long y0_0), .second, .val (.long y3_0), .second, .val (.int (((x4_0.toUInt32 >>> ((2 : Int32) &&& 31).toUInt32).toInt32) &&& (3 : Int32))), .val (.ref b178), .unset] []))
          refine own_step (fun t k => XS.iconst X181.here hx rfl (hb hby at_85) k) ?_
          show own_Ends p.tables e below s _ _ _ (T181.setTop (mkF m 86 #[.val (.long y0_0), .second, .val (.long y1_0), .second, .val (.long y2_0), .second, .val (.long y3_0), .second, .val (.int x4_0), .val (.ref b1), .val (.long y0_0), .second, .val (.long y3_0), .second, .val (.int (((x4_0.toUInt32 >>> ((2 : Int32) &&& 31).toUInt32).toInt32) &&& (3 : Int32))), .val (.ref b178), .unset] [(.int (0 : Int32))]))
          refine own_step (fun t k => XS.istore X181.here hx rfl (hb hby at_86) rfl (l' := #[.val (.long y0_0), .second, .val (.long y1_0), .second, .val (.long y2_0), .second, .val (.long y3_0), .second, .val (.int x4_0), .val (.ref b1), .val (.long y0_0), .second, .val (.long y3_0), .second, .val (.int (((x4_0.toUInt32 >>> ((2 : Int32) &&& 31).toUInt32).toInt32) &&& (3 : Int32))), .val (.ref b178), .val (.int (0 : Int32))]) rfl k) ?_
          show own_Ends p.tables e below s _ _ _ (T181.setTop (mkF m 88 #[.val (.long y0_0), .second, .val (.long y1_0), .second, .val (.long y2_0), .second, .val (.long y3_0), .second, .val (.int x4_0), .val (.ref b1), .val (.long y0_0), .second, .val (.long y3_0), .second, .val (.int (((x4_0.toUInt32 >>> ((2 : Int32) &&& 31).toUInt32).toInt32) &&& (3 : Int32))), .val (.ref b178), .val (.int (0 : Int32))] []))
          refine own_step (fun t k => XS.aload X181.here hx rfl (hb hby at_88) rfl rfl k) ?_
          show own_Ends p.tables e below s _ _ _ (T181.setTop (mkF m 90 #[.val (.long y0_0), .second, .val (.long y1_0), .second, .val (.long y2_0), .second, .val (.long y3_0), .second, .val (.int x4_0), .val (.ref b1), .val (.long y0_0), .second, .val (.long y3_0), .second, .val (.int (((x4_0.toUInt32 >>> ((2 : Int32) &&& 31).toUInt32).toInt32) &&& (3 : Int32))), .val (.ref b178), .val (.int (0 : Int32))] [(.ref b1)]))
          refine own_step (fun t k => XS.aload X181.here hx rfl (hb hby at_90) rfl rfl k) ?_
          show own_Ends p.tables e below s _ _ _ (T181.setTop (mkF m 92 #[.val (.long y0_0), .second, .val (.long y1_0), .second, .val (.long y2_0), .second, .val (.long y3_0), .second, .val (.int x4_0), .val (.ref b1), .val (.long y0_0), .second, .val (.long y3_0), .second, .val (.int (((x4_0.toUInt32 >>> ((2 : Int32) &&& 31).toUInt32).toInt32) &&& (3 : Int32))), .val (.ref b178), .val (.int (0 : Int32))] [(.ref b178), (.ref b1)]))
          have F212 : Fld Z T181.heap b1 "com/example/swanhall/swanhall/core/Cell" "x" "J" (.long y0_0) := ((p4_1.ext E178).keep K181q (ninS ne_b1_b178 nin0))
          have F213 : Fld Z T181.heap b1 "com/example/swanhall/swanhall/core/Cell" "y" "J" (.long y1_0) := ((p4_2.ext E178).keep K181q (ninS ne_b1_b178 nin0))
          have O214 : Old Z n0 T181.heap := (O180.keep K181q (allS g_b178 all0))
          have F216 : Exa Z T181.heap b1 "com/example/swanhall/swanhall/core/Cell" := ((p4_0.ext E178).keep K181q)
          obtain ⟨cq215, kq215, q215a, q215b, q215c⟩ := isOf hZ rfl F216
          obtain ⟨_, _, ⟨T215, L215, k215, n215⟩, -, X215, ⟨Lc215, hQ215, l215, y215, z215⟩, st215⟩ := X181.virtualBack hx (y := (⟨"com/example/swanhall/swanhall/core/Cell", "equals", "(Ljava/lang/Object;)Z"⟩ : MethodName)) (z := (⟨"com/example/swanhall/swanhall/core/Cell", "equals", "(Ljava/lang/Object;)Z"⟩ : MethodName)) hown (mvT hZ (hw _ (List.mem_of_getElem? (i := 18) rfl))) (mvT hZ (hw _ (List.mem_of_getElem? (i := 19) rfl))) (notFace_of_selects (args := #[]) (mvT hZ (hw _ (List.mem_of_getElem? (i := 21) rfl)))) (mvT hZ (hw _ (List.mem_of_getElem? (i := 21) rfl))) (mvT hZ (hw _ (List.mem_of_getElem? (i := 20) rfl))) (by decide) (backOf (W := 0) (rm4 l Z a0 hw [] b1 b178 y0_0 y0_0 y3_0 y1_0 T181.heap n0 O214 p181_0 p181_1 F212 p181_2 F213) hZ (hw _ (List.mem_of_getElem? (i := 22) rfl)) (hw _ (List.mem_of_getElem? (i := 2) rfl)) (by decide) (by decide)) q215a q215c (g := (mkF m 92 #[.val (.long y0_0), .second, .val (.long y1_0), .second, .val (.long y2_0), .second, .val (.long y3_0), .second, .val (.int x4_0), .val (.ref b1), .val (.long y0_0), .second, .val (.long y3_0), .second, .val (.int (((x4_0.toUInt32 >>> ((2 : Int32) &&& 31).toUInt32).toInt32) &&& (3 : Int32))), .val (.ref b178), .val (.int (0 : Int32))] [(.ref b178), (.ref b1)])) rfl (by rw [hml]; rfl) (Steps.refl _) (argsL := [(.ref b178)]) (rest := []) (lenOf pd_3 rfl) rfl (by show 2 * 0 + _ ≤ _; exact Nat.le_of_eq rfl) (hb hby at_92) (fun _ _ => ⟨rfl, rfl, (by decide : 2 + 0 ≤ _), (by decide : 4 + 0 ≤ _)⟩)
          dsimp only [Pt.U, Pt.locs, Pt.cells, Pt.slots] at X215 l215 y215 z215 st215 hQ215
          subst y215 z215
          obtain ⟨rfl, N215q, e215⟩ := hQ215
          refine own_step (fun t k => st215.trans k) ?_
          have N217 : Fr n0 L215 := by rw [l215]; exact Fr.app N182 N215q
          show own_Ends p.tables e below s _ _ _ (T215.setTop (mkF m 95 #[.val (.long y0_0), .second, .val (.long y1_0), .second, .val (.long y2_0), .second, .val (.long y3_0), .second, .val (.int x4_0), .val (.ref b1), .val (.long y0_0), .second, .val (.long y3_0), .second, .val (.int (((x4_0.toUInt32 >>> ((2 : Int32) &&& 31).toUInt32).toInt32) &&& (3 : Int32))), .val (.ref b178), .val (.int (0 : Int32))] [(.int (own_r4 y0_0 y0_0 y3_0 y1_0))]))
          refine own_step (fun t k => XS.iload X215.here hx rfl (hb hby at_95) rfl k) ?_
          show own_Ends p.tables e below s _ _ _ (T215.setTop (mkF m 97 #[.val (.long y0_0), .second, .val (.long y1_0), .second, .val (.long y2_0), .second, .val (.long y3_0), .second, .val (.int x4_0), .val (.ref b1), .val (.long y0_0), .second, .val (.long y3_0), .second, .val (.int (((x4_0.toUInt32 >>> ((2 : Int32) &&& 31).toUInt32).toInt32) &&& (3 : Int32))), .val (.ref b178), .val (.int (0 : Int32))] [(.int (0 : Int32)), (.int (own_r4 y0_0 y0_0 y3_0 y1_0))]))
          by_cases hc97_218 : (own_r4 y0_0 y0_0 y3_0 y1_0) = (0 : Int32)
          · skip
            refine own_step (fun t k => XS.icmpNo X215.here hx rfl (hb hby at_97) rfl (teq hc97_218).2 k) ?_
            show own_Ends p.tables e below s _ _ _ (T215.setTop (mkF m 100 #[.val (.long y0_0), .second, .val (.long y1_0), .second, .val (.long y2_0), .second, .val (.long y3_0), .second, .val (.int x4_0), .val (.ref b1), .val (.long y0_0), .second, .val (.long y3_0), .second, .val (.int (((x4_0.toUInt32 >>> ((2 : Int32) &&& 31).toUInt32).toInt32) &&& (3 : Int32))), .val (.ref b178), .val (.int (0 : Int32))] []))
            refine own_step (fun t k => XS.aload X215.here hx rfl (hb hby at_100) rfl rfl k) ?_
            show own_Ends p.tables e below s _ _ _ (T215.setTop (mkF m 102 #[.val (.long y0_0), .second, .val (.long y1_0), .second, .val (.long y2_0), .second, .val (.long y3_0), .second, .val (.int x4_0), .val (.ref b1), .val (.long y0_0), .second, .val (.long y3_0), .second, .val (.int (((x4_0.toUInt32 >>> ((2 : Int32) &&& 31).toUInt32).toInt32) &&& (3 : Int32))), .val (.ref b178), .val (.int (0 : Int32))] [(.ref b178)]))
            refine own_step (fun t k => XS.aload X215.here hx rfl (hb hby at_102) rfl rfl k) ?_
            show own_Ends p.tables e below s _ _ _ (T215.setTop (mkF m 104 #[.val (.long y0_0), .second, .val (.long y1_0), .second, .val (.long y2_0), .second, .val (.long y3_0), .second, .val (.int x4_0), .val (.ref b1), .val (.long y0_0), .second, .val (.long y3_0), .second, .val (.int (((x4_0.toUInt32 >>> ((2 : Int32) &&& 31).toUInt32).toInt32) &&& (3 : Int32))), .val (.ref b178), .val (.int (0 : Int32))] [(.ref b1), (.ref b178)]))
            obtain ⟨cq219, kq219, q219a, q219b, q219c⟩ := isOf hZ e215 p181_0
            obtain ⟨_, _, ⟨T219, L219, k219, n219⟩, -, X219, ⟨Lc219, hQ219, l219, y219, z219⟩, st219⟩ := X215.virtualBack hx (y := (⟨"com/example/swanhall/swanhall/core/Cell", "equals", "(Ljava/lang/Object;)Z"⟩ : MethodName)) (z := (⟨"com/example/swanhall/swanhall/core/Cell", "equals", "(Ljava/lang/Object;)Z"⟩ : MethodName)) hown (mvT hZ (hw _ (List.mem_of_getElem? (i := 18) rfl))) (mvT hZ (hw _ (List.mem_of_getElem? (i := 19) rfl))) (notFace_of_selects (args := #[]) (mvT hZ (hw _ (List.mem_of_getElem? (i := 21) rfl)))) (mvT hZ (hw _ (List.mem_of_getElem? (i := 21) rfl))) (mvT hZ (hw _ (List.mem_of_getElem? (i := 20) rfl))) (by decide) (backOf (W := 0) (rm4 l Z a0 hw [] b178 b1 y0_0 y0_0 y1_0 y3_0 T181.heap n0 O214 F216 F212 p181_1 F213 p181_2) hZ (hw _ (List.mem_of_getElem? (i := 22) rfl)) (hw _ (List.mem_of_getElem? (i := 2) rfl)) (by decide) (by decide)) q219a q219c (g := (mkF m 104 #[.val (.long y0_0), .second, .val (.long y1_0), .second, .val (.long y2_0), .second, .val (.long y3_0), .second, .val (.int x4_0), .val (.ref b1), .val (.long y0_0), .second, .val (.long y3_0), .second, .val (.int (((x4_0.toUInt32 >>> ((2 : Int32) &&& 31).toUInt32).toInt32) &&& (3 : Int32))), .val (.ref b178), .val (.int (0 : Int32))] [(.ref b1), (.ref b178)])) rfl (by rw [hml]; rfl) (Steps.refl _) (argsL := [(.ref b1)]) (rest := []) (lenOf pd_3 rfl) rfl (by show 2 * 0 + _ ≤ _; exact Nat.le_of_eq rfl) (hb hby at_104) (fun _ _ => ⟨rfl, e215, (by decide : 2 + 0 ≤ _), (by decide : 4 + 0 ≤ _)⟩)
            dsimp only [Pt.U, Pt.locs, Pt.cells, Pt.slots] at X219 l219 y219 z219 st219 hQ219
            subst y219 z219
            obtain ⟨rfl, N219q, e219⟩ := hQ219
            refine own_step (fun t k => st219.trans k) ?_
            have N220 : Fr n0 L219 := by rw [l219]; exact Fr.app N217 N219q
            show own_Ends p.tables e below s _ _ _ (T219.setTop (mkF m 107 #[.val (.long y0_0), .second, .val (.long y1_0), .second, .val (.long y2_0), .second, .val (.long y3_0), .second, .val (.int x4_0), .val (.ref b1), .val (.long y0_0), .second, .val (.long y3_0), .second, .val (.int (((x4_0.toUInt32 >>> ((2 : Int32) &&& 31).toUInt32).toInt32) &&& (3 : Int32))), .val (.ref b178), .val (.int (0 : Int32))] [(.int (own_r4 y0_0 y0_0 y1_0 y3_0))]))
            refine own_step (fun t k => XS.iload X219.here hx rfl (hb hby at_107) rfl k) ?_
            show own_Ends p.tables e below s _ _ _ (T219.setTop (mkF m 109 #[.val (.long y0_0), .second, .val (.long y1_0), .second, .val (.long y2_0), .second, .val (.long y3_0), .second, .val (.int x4_0), .val (.ref b1), .val (.long y0_0), .second, .val (.long y3_0), .second, .val (.int (((x4_0.toUInt32 >>> ((2 : Int32) &&& 31).toUInt32).toInt32) &&& (3 : Int32))), .val (.ref b178), .val (.int (0 : Int32))] [(.int (0 : Int32)), (.int (own_r4 y0_0 y0_0 y1_0 y3_0))]))
            by_cases hc109_221 : (own_r4 y0_0 y0_0 y1_0 y3_0) = (0 : Int32)
            · skip
              refine own_step (fun t k => XS.icmpNo X219.here hx rfl (hb hby at_109) rfl (teq hc109_221).2 k) ?_
              show own_Ends p.tables e below s _ _ _ (T219.setTop (mkF m 112 #[.val (.long y0_0), .second, .val (.long y1_0), .second, .val (.long y2_0), .second, .val (.long y3_0), .second, .val (.int x4_0), .val (.ref b1), .val (.long y0_0), .second, .val (.long y3_0), .second, .val (.int (((x4_0.toUInt32 >>> ((2 : Int32) &&& 31).toUInt32).toInt32) &&& (3 : Int32))), .val (.ref b178), .val (.int (0 : Int32))] []))
              refine own_step (fun t k => XS.aload X219.here hx rfl (hb hby at_112) rfl rfl k) ?_
              show own_Ends p.tables e below s _ _ _ (T219.setTop (mkF m 114 #[.val (.long y0_0), .second, .val (.long y1_0), .second, .val (.long y2_0), .second, .val (.long y3_0), .second, .val (.int x4_0), .val (.ref b1), .val (.long y0_0), .second, .val (.long y3_0), .second, .val (.int (((x4_0.toUInt32 >>> ((2 : Int32) &&& 31).toUInt32).toInt32) &&& (3 : Int32))), .val (.ref b178), .val (.int (0 : Int32))] [(.ref b1)]))
              refine own_step (fun t k => XS.aload X219.here hx rfl (hb hby at_114) rfl rfl k) ?_
              show own_Ends p.tables e below s _ _ _ (T219.setTop (mkF m 116 #[.val (.long y0_0), .second, .val (.long y1_0), .second, .val (.long y2_0), .second, .val (.long y3_0), .second, .val (.int x4_0), .val (.ref b1), .val (.long y0_0), .second, .val (.long y3_0), .second, .val (.int (((x4_0.toUInt32 >>> ((2 : Int32) &&& 31).toUInt32).toInt32) &&& (3 : Int32))), .val (.ref b178), .val (.int (0 : Int32))] [(.ref b1), (.ref b1)]))
              obtain ⟨cq222, kq222, q222a, q222b, q222c⟩ := isOf hZ e219 F216
              obtain ⟨_, _, ⟨T222, L222, k222, n222⟩, -, X222, ⟨Lc222, hQ222, l222, y222, z222⟩, st222⟩ := X219.virtualBack hx (y := (⟨"com/example/swanhall/swanhall/core/Cell", "equals", "(Ljava/lang/Object;)Z"⟩ : MethodName)) (z := (⟨"com/example/swanhall/swanhall/core/Cell", "equals", "(Ljava/lang/Object;)Z"⟩ : MethodName)) hown (mvT hZ (hw _ (List.mem_of_getElem? (i := 18) rfl))) (mvT hZ (hw _ (List.mem_of_getElem? (i := 19) rfl))) (notFace_of_selects (args := #[]) (mvT hZ (hw _ (List.mem_of_getElem? (i := 21) rfl)))) (mvT hZ (hw _ (List.mem_of_getElem? (i := 21) rfl))) (mvT hZ (hw _ (List.mem_of_getElem? (i := 20) rfl))) (by decide) (backOf (W := 0) (rm4 l Z a0 hw [] b1 b1 y0_0 y0_0 y1_0 y1_0 T181.heap n0 O214 F216 F212 F212 F213 F213) hZ (hw _ (List.mem_of_getElem? (i := 22) rfl)) (hw _ (List.mem_of_getElem? (i := 2) rfl)) (by decide) (by decide)) q222a q222c (g := (mkF m 116 #[.val (.long y0_0), .second, .val (.long y1_0), .second, .val (.long y2_0), .second, .val (.long y3_0), .second, .val (.int x4_0), .val (.ref b1), .val (.long y0_0), .second, .val (.long y3_0), .second, .val (.int (((x4_0.toUInt32 >>> ((2 : Int32) &&& 31).toUInt32).toInt32) &&& (3 : Int32))), .val (.ref b178), .val (.int (0 : Int32))] [(.ref b1), (.ref b1)])) rfl (by rw [hml]; rfl) (Steps.refl _) (argsL := [(.ref b1)]) (rest := []) (lenOf pd_3 rfl) rfl (by show 2 * 0 + _ ≤ _; exact Nat.le_of_eq rfl) (hb hby at_116) (fun _ _ => ⟨rfl, e219, (by decide : 2 + 0 ≤ _), (by decide : 4 + 0 ≤ _)⟩)
              dsimp only [Pt.U, Pt.locs, Pt.cells, Pt.slots] at X222 l222 y222 z222 st222 hQ222
              subst y222 z222
              obtain ⟨rfl, N222q, e222⟩ := hQ222
              refine own_step (fun t k => st222.trans k) ?_
              have N223 : Fr n0 L222 := by rw [l222]; exact Fr.app N220 N222q
              show own_Ends p.tables e below s _ _ _ (T222.setTop (mkF m 119 #[.val (.long y0_0), .second, .val (.long y1_0), .second, .val (.long y2_0), .second, .val (.long y3_0), .second, .val (.int x4_0), .val (.ref b1), .val (.long y0_0), .second, .val (.long y3_0), .second, .val (.int (((x4_0.toUInt32 >>> ((2 : Int32) &&& 31).toUInt32).toInt32) &&& (3 : Int32))), .val (.ref b178), .val (.int (0 : Int32))] [(.int (own_r4 y0_0 y0_0 y1_0 y1_0))]))
              by_cases hc119_224 : (own_r4 y0_0 y0_0 y1_0 y1_0) = (0 : Int32)
              · skip
                refine own_step (fun t k => XS.ifYes X222.here hx rfl (pc0 := 119) (pc' := 126) rfl (hb hby at_119) rfl ((if0 _ _).trans (teq hc119_224).1) (by decide) (by decide) k) ?_
                show own_Ends p.tables e below s _ _ _ (T222.setTop (mkF m 126 #[.val (.long y0_0), .second, .val (.long y1_0), .second, .val (.long y2_0), .second, .val (.long y3_0), .second, .val (.int x4_0), .val (.ref b1), .val (.long y0_0), .second, .val (.long y3_0), .second, .val (.int (((x4_0.toUInt32 >>> ((2 : Int32) &&& 31).toUInt32).toInt32) &&& (3 : Int32))), .val (.ref b178), .val (.int (0 : Int32))] []))
                refine own_step (fun t k => XS.iconst X222.here hx rfl (hb hby at_126) k) ?_
                show own_Ends p.tables e below s _ _ _ (T222.setTop (mkF m 127 #[.val (.long y0_0), .second, .val (.long y1_0), .second, .val (.long y2_0), .second, .val (.long y3_0), .second, .val (.int x4_0), .val (.ref b1), .val (.long y0_0), .second, .val (.long y3_0), .second, .val (.int (((x4_0.toUInt32 >>> ((2 : Int32) &&& 31).toUInt32).toInt32) &&& (3 : Int32))), .val (.ref b178), .val (.int (0 : Int32))] [(.int (0 : Int32))]))
                exfalso
                exact absurd hc119_224 (by rw [own_eq4]; simp)
              · skip
                refine own_step (fun t k => XS.ifNo X222.here hx rfl (hb hby at_119) rfl ((if0 _ _).trans (feq hc119_224).1) k) ?_
                show own_Ends p.tables e below s _ _ _ (T222.setTop (mkF m 122 #[.val (.long y0_0), .second, .val (.long y1_0), .second, .val (.long y2_0), .second, .val (.long y3_0), .second, .val (.int x4_0), .val (.ref b1), .val (.long y0_0), .second, .val (.long y3_0), .second, .val (.int (((x4_0.toUInt32 >>> ((2 : Int32) &&& 31).toUInt32).toInt32) &&& (3 : Int32))), .val (.ref b178), .val (.int (0 : Int32))] []))
                refine own_step (fun t k => XS.iconst X222.here hx rfl (hb hby at_122) k) ?_
                show own_Ends p.tables e below s _ _ _ (T222.setTop (mkF m 123 #[.val (.long y0_0), .second, .val (.long y1_0), .second, .val (.long y2_0), .second, .val (.long y3_0), .second, .val (.int x4_0), .val (.ref b1), .val (.long y0_0), .second, .val (.long y3_0), .second, .val (.int (((x4_0.toUInt32 >>> ((2 : Int32) &&& 31).toUInt32).toInt32) &&& (3 : Int32))), .val (.ref b178), .val (.int (0 : Int32))] [(.int (1 : Int32))]))
                refine own_step (fun t k => XS.goto X222.here hx rfl (pc0 := 123) (pc' := 127) rfl (hb hby at_123) (by decide) (by decide) k) ?_
                show own_Ends p.tables e below s _ _ _ (T222.setTop (mkF m 127 #[.val (.long y0_0), .second, .val (.long y1_0), .second, .val (.long y2_0), .second, .val (.long y3_0), .second, .val (.int x4_0), .val (.ref b1), .val (.long y0_0), .second, .val (.long y3_0), .second, .val (.int (((x4_0.toUInt32 >>> ((2 : Int32) &&& 31).toUInt32).toInt32) &&& (3 : Int32))), .val (.ref b178), .val (.int (0 : Int32))] [(.int (1 : Int32))]))
                exact own_retN X222 hx (t := .boolean) Bd.returns (by simp) (hb hby at_127) hnl (by rw [e222]; exact ⟨rfl, N223⟩) (by decide) (by decide)
            · skip
              refine own_step (fun t k => XS.icmpYes X219.here hx rfl (pc0 := 109) (pc' := 126) rfl (hb hby at_109) rfl (feq hc109_221).2 (by decide) (by decide) k) ?_
              show own_Ends p.tables e below s _ _ _ (T219.setTop (mkF m 126 #[.val (.long y0_0), .second, .val (.long y1_0), .second, .val (.long y2_0), .second, .val (.long y3_0), .second, .val (.int x4_0), .val (.ref b1), .val (.long y0_0), .second, .val (.long y3_0), .second, .val (.int (((x4_0.toUInt32 >>> ((2 : Int32) &&& 31).toUInt32).toInt32) &&& (3 : Int32))), .val (.ref b178), .val (.int (0 : Int32))] []))
              refine own_step (fun t k => XS.iconst X219.here hx rfl (hb hby at_126) k) ?_
              show own_Ends p.tables e below s _ _ _ (T219.setTop (mkF m 127 #[.val (.long y0_0), .second, .val (.long y1_0), .second, .val (.long y2_0), .second, .val (.long y3_0), .second, .val (.int x4_0), .val (.ref b1), .val (.long y0_0), .second, .val (.long y3_0), .second, .val (.int (((x4_0.toUInt32 >>> ((2 : Int32) &&& 31).toUInt32).toInt32) &&& (3 : Int32))), .val (.ref b178), .val (.int (0 : Int32))] [(.int (0 : Int32))]))
              exfalso
              exact hc109_221 (by rw [own_eq4]; exact if_neg (fun q => hc71_184 ((own_lc _ _).mpr q.1)))
          · skip
            refine own_step (fun t k => XS.icmpYes X215.here hx rfl (pc0 := 97) (pc' := 126) rfl (hb hby at_97) rfl (feq hc97_218).2 (by decide) (by decide) k) ?_
            show own_Ends p.tables e below s _ _ _ (T215.setTop (mkF m 126 #[.val (.long y0_0), .second, .val (.long y1_0), .second, .val (.long y2_0), .second, .val (.long y3_0), .second, .val (.int x4_0), .val (.ref b1), .val (.long y0_0), .second, .val (.long y3_0), .second, .val (.int (((x4_0.toUInt32 >>> ((2 : Int32) &&& 31).toUInt32).toInt32) &&& (3 : Int32))), .val (.ref b178), .val (.int (0 : Int32))] []))
            refine own_step (fun t k => XS.iconst X215.here hx rfl (hb hby at_126) k) ?_
            show own_Ends p.tables e below s _ _ _ (T215.setTop (mkF m 127 #[.val (.long y0_0), .second, .val (.long y1_0), .second, .val (.long y2_0), .second, .val (.long y3_0), .second, .val (.int x4_0), .val (.ref b1), .val (.long y0_0), .second, .val (.long y3_0), .second, .val (.int (((x4_0.toUInt32 >>> ((2 : Int32) &&& 31).toUInt32).toInt32) &&& (3 : Int32))), .val (.ref b178), .val (.int (0 : Int32))] [(.int (0 : Int32))]))
            exfalso
            exact hc97_218 (by rw [own_eq4]; exact if_neg (fun q => hc71_184 ((own_lc _ _).mpr q.1)))
      · skip
        refine own_step (fun t k => XS.ifYes X4.here hx rfl (pc0 := 51) (pc' := 128) rfl (hb hby at_51) rfl ((if0 _ _).trans (feq hc51_176).2) (by decide) (by decide) k) ?_
        show own_Ends p.tables e below s _ _ _ (T4.setTop (mkF m 128 #[.val (.long y0_0), .second, .val (.long y1_0), .second, .val (.long y2_0), .second, .val (.long y3_0), .second, .val (.int x4_0), .val (.ref b1), .val (.long y0_0), .second, .val (.long y3_0), .second, .val (.int (((x4_0.toUInt32 >>> ((2 : Int32) &&& 31).toUInt32).toInt32) &&& (3 : Int32))), .unset, .unset] []))
        refine own_step (fun t k => XS.iload X4.here hx rfl (hb hby at_128) rfl k) ?_
        show own_Ends p.tables e below s _ _ _ (T4.setTop (mkF m 130 #[.val (.long y0_0), .second, .val (.long y1_0), .second, .val (.long y2_0), .second, .val (.long y3_0), .second, .val (.int x4_0), .val (.ref b1), .val (.long y0_0), .second, .val (.long y3_0), .second, .val (.int (((x4_0.toUInt32 >>> ((2 : Int32) &&& 31).toUInt32).toInt32) &&& (3 : Int32))), .unset, .unset] [(.int (((x4_0.toUInt32 >>> ((2 : Int32) &&& 31).toUInt32).toInt32) &&& (3 : Int32)))]))
        refine own_step (fun t k => XS.iconst X4.here hx rfl (hb hby at_130) k) ?_
        show own_Ends p.tables e below s _ _ _ (T4.setTop (mkF m 131 #[.val (.long y0_0), .second, .val (.long y1_0), .second, .val (.long y2_0), .second, .val (.long y3_0), .second, .val (.int x4_0), .val (.ref b1), .val (.long y0_0), .second, .val (.long y3_0), .second, .val (.int (((x4_0.toUInt32 >>> ((2 : Int32) &&& 31).toUInt32).toInt32) &&& (3 : Int32))), .unset, .unset] [(.int (1 : Int32)), (.int (((x4_0.toUInt32 >>> ((2 : Int32) &&& 31).toUInt32).toInt32) &&& (3 : Int32)))]))
        by_cases hc131_225 : (((x4_0.toUInt32 >>> ((2 : Int32) &&& 31).toUInt32).toInt32) &&& (3 : Int32)) = (1 : Int32)
        · skip
          refine own_step (fun t k => XS.icmpNo X4.here hx rfl (hb hby at_131) rfl (teq hc131_225).2 k) ?_
          show own_Ends p.tables e below s _ _ _ (T4.setTop (mkF m 134 #[.val (.long y0_0), .second, .val (.long y1_0), .second, .val (.long y2_0), .second, .val (.long y3_0), .second, .val (.int x4_0), .val (.ref b1), .val (.long y0_0), .second, .val (.long y3_0), .second, .val (.int (((x4_0.toUInt32 >>> ((2 : Int32) &&& 31).toUInt32).toInt32) &&& (3 : Int32))), .unset, .unset] []))
          refine own_step (fun t k => XS.aload X4.here hx rfl (hb hby at_134) rfl rfl k) ?_
          show own_Ends p.tables e below s _ _ _ (T4.setTop (mkF m 136 #[.val (.long y0_0), .second, .val (.long y1_0), .second, .val (.long y2_0), .second, .val (.long y3_0), .second, .val (.int x4_0), .val (.ref b1), .val (.long y0_0), .second, .val (.long y3_0), .second, .val (.int (((x4_0.toUInt32 >>> ((2 : Int32) &&& 31).toUInt32).toInt32) &&& (3 : Int32))), .unset, .unset] [(.ref b1)]))
          refine own_step (fun t k => XS.aconstNull X4.here hx rfl (hb hby at_136) k) ?_
          show own_Ends p.tables e below s _ _ _ (T4.setTop (mkF m 137 #[.val (.long y0_0), .second, .val (.long y1_0), .second, .val (.long y2_0), .second, .val (.long y3_0), .second, .val (.int x4_0), .val (.ref b1), .val (.long y0_0), .second, .val (.long y3_0), .second, .val (.int (((x4_0.toUInt32 >>> ((2 : Int32) &&& 31).toUInt32).toInt32) &&& (3 : Int32))), .unset, .unset] [.null, (.ref b1)]))
          have O226 : Old Z n0 T4.heap := (O3.keep K4q (allS g_b1 all0))
          obtain ⟨cq227, kq227, q227a, q227b, q227c⟩ := isOf hZ rfl p4_0
          obtain ⟨_, _, ⟨T227, L227, k227, n227⟩, -, X227, ⟨Lc227, hQ227, l227, y227, z227⟩, st227⟩ := X4.virtualBack hx (y := (⟨"com/example/swanhall/swanhall/core/Cell", "equals", "(Ljava/lang/Object;)Z"⟩ : MethodName)) (z := (⟨"com/example/swanhall/swanhall/core/Cell", "equals", "(Ljava/lang/Object;)Z"⟩ : MethodName)) hown (mvT hZ (hw _ (List.mem_of_getElem? (i := 18) rfl))) (mvT hZ (hw _ (List.mem_of_getElem? (i := 19) rfl))) (notFace_of_selects (args := #[]) (mvT hZ (hw _ (List.mem_of_getElem? (i := 21) rfl)))) (mvT hZ (hw _ (List.mem_of_getElem? (i := 21) rfl))) (mvT hZ (hw _ (List.mem_of_getElem? (i := 20) rfl))) (by decide) (backOf (W := 0) (rm4n l Z a0 hw [] b1 T4.heap n0 O226 ) hZ (hw _ (List.mem_of_getElem? (i := 22) rfl)) (hw _ (List.mem_of_getElem? (i := 2) rfl)) (by decide) (by decide)) q227a q227c (g := (mkF m 137 #[.val (.long y0_0), .second, .val (.long y1_0), .second, .val (.long y2_0), .second, .val (.long y3_0), .second, .val (.int x4_0), .val (.ref b1), .val (.long y0_0), .second, .val (.long y3_0), .second, .val (.int (((x4_0.toUInt32 >>> ((2 : Int32) &&& 31).toUInt32).toInt32) &&& (3 : Int32))), .unset, .unset] [.null, (.ref b1)])) rfl (by rw [hml]; rfl) (Steps.refl _) (argsL := [.null]) (rest := []) (lenOf pd_3 rfl) rfl (by show 2 * 0 + _ ≤ _; exact Nat.le_of_eq rfl) (hb hby at_137) (fun _ _ => ⟨rfl, rfl, (by decide : 1 + 0 ≤ _), (by decide : 2 + 0 ≤ _)⟩)
          dsimp only [Pt.U, Pt.locs, Pt.cells, Pt.slots] at X227 l227 y227 z227 st227 hQ227
          subst y227 z227
          obtain ⟨rfl, N227q, e227⟩ := hQ227
          refine own_step (fun t k => st227.trans k) ?_
          have N228 : Fr n0 L227 := by rw [l227]; exact Fr.app N5 N227q
          show own_Ends p.tables e below s _ _ _ (T227.setTop (mkF m 140 #[.val (.long y0_0), .second, .val (.long y1_0), .second, .val (.long y2_0), .second, .val (.long y3_0), .second, .val (.int x4_0), .val (.ref b1), .val (.long y0_0), .second, .val (.long y3_0), .second, .val (.int (((x4_0.toUInt32 >>> ((2 : Int32) &&& 31).toUInt32).toInt32) &&& (3 : Int32))), .unset, .unset] [(.int (0 : Int32))]))
          refine own_step (fun t k => XS.ifNo X227.here hx rfl (hb hby at_140) rfl ((if0 _ _).trans (teq (by decide : (0 : Int32) = (0 : Int32))).2) k) ?_
          show own_Ends p.tables e below s _ _ _ (T227.setTop (mkF m 143 #[.val (.long y0_0), .second, .val (.long y1_0), .second, .val (.long y2_0), .second, .val (.long y3_0), .second, .val (.int x4_0), .val (.ref b1), .val (.long y0_0), .second, .val (.long y3_0), .second, .val (.int (((x4_0.toUInt32 >>> ((2 : Int32) &&& 31).toUInt32).toInt32) &&& (3 : Int32))), .unset, .unset] []))
          refine own_step (fun t k => XS.iconst X227.here hx rfl (hb hby at_143) k) ?_
          show own_Ends p.tables e below s _ _ _ (T227.setTop (mkF m 144 #[.val (.long y0_0), .second, .val (.long y1_0), .second, .val (.long y2_0), .second, .val (.long y3_0), .second, .val (.int x4_0), .val (.ref b1), .val (.long y0_0), .second, .val (.long y3_0), .second, .val (.int (((x4_0.toUInt32 >>> ((2 : Int32) &&& 31).toUInt32).toInt32) &&& (3 : Int32))), .unset, .unset] [(.int (1 : Int32))]))
          refine own_step (fun t k => XS.goto X227.here hx rfl (pc0 := 144) (pc' := 148) rfl (hb hby at_144) (by decide) (by decide) k) ?_
          show own_Ends p.tables e below s _ _ _ (T227.setTop (mkF m 148 #[.val (.long y0_0), .second, .val (.long y1_0), .second, .val (.long y2_0), .second, .val (.long y3_0), .second, .val (.int x4_0), .val (.ref b1), .val (.long y0_0), .second, .val (.long y3_0), .second, .val (.int (((x4_0.toUInt32 >>> ((2 : Int32) &&& 31).toUInt32).toInt32) &&& (3 : Int32))), .unset, .unset] [(.int (1 : Int32))]))
          exact own_retN X227 hx (t := .boolean) Bd.returns (by simp) (hb hby at_148) hnl (by rw [e227]; exact ⟨rfl, N228⟩) (by decide) (by decide)
        · skip
          refine own_step (fun t k => XS.icmpYes X4.here hx rfl (pc0 := 131) (pc' := 149) rfl (hb hby at_131) rfl (feq hc131_225).2 (by decide) (by decide) k) ?_
          show own_Ends p.tables e below s _ _ _ (T4.setTop (mkF m 149 #[.val (.long y0_0), .second, .val (.long y1_0), .second, .val (.long y2_0), .second, .val (.long y3_0), .second, .val (.int x4_0), .val (.ref b1), .val (.long y0_0), .second, .val (.long y3_0), .second, .val (.int (((x4_0.toUInt32 >>> ((2 : Int32) &&& 31).toUInt32).toInt32) &&& (3 : Int32))), .unset, .unset] []))
          refine own_step (fun t k => XS.iload X4.here hx rfl (hb hby at_149) rfl k) ?_
          show own_Ends p.tables e below s _ _ _ (T4.setTop (mkF m 151 #[.val (.long y0_0), .second, .val (.long y1_0), .second, .val (.long y2_0), .second, .val (.long y3_0), .second, .val (.int x4_0), .val (.ref b1), .val (.long y0_0), .second, .val (.long y3_0), .second, .val (.int (((x4_0.toUInt32 >>> ((2 : Int32) &&& 31).toUInt32).toInt32) &&& (3 : Int32))), .unset, .unset] [(.int (((x4_0.toUInt32 >>> ((2 : Int32) &&& 31).toUInt32).toInt32) &&& (3 : Int32)))]))
          refine own_step (fun t k => XS.iconst X4.here hx rfl (hb hby at_151) k) ?_
          show own_Ends p.tables e below s _ _ _ (T4.setTop (mkF m 152 #[.val (.long y0_0), .second, .val (.long y1_0), .second, .val (.long y2_0), .second, .val (.long y3_0), .second, .val (.int x4_0), .val (.ref b1), .val (.long y0_0), .second, .val (.long y3_0), .second, .val (.int (((x4_0.toUInt32 >>> ((2 : Int32) &&& 31).toUInt32).toInt32) &&& (3 : Int32))), .unset, .unset] [(.int (2 : Int32)), (.int (((x4_0.toUInt32 >>> ((2 : Int32) &&& 31).toUInt32).toInt32) &&& (3 : Int32)))]))
          by_cases hc152_229 : (((x4_0.toUInt32 >>> ((2 : Int32) &&& 31).toUInt32).toInt32) &&& (3 : Int32)) = (2 : Int32)
          · skip
            refine own_step (fun t k => XS.icmpNo X4.here hx rfl (hb hby at_152) rfl (teq hc152_229).2 k) ?_
            show own_Ends p.tables e below s _ _ _ (T4.setTop (mkF m 155 #[.val (.long y0_0), .second, .val (.long y1_0), .second, .val (.long y2_0), .second, .val (.long y3_0), .second, .val (.int x4_0), .val (.ref b1), .val (.long y0_0), .second, .val (.long y3_0), .second, .val (.int (((x4_0.toUInt32 >>> ((2 : Int32) &&& 31).toUInt32).toInt32) &&& (3 : Int32))), .unset, .unset] []))
            refine own_step (fun t k => XS.aload X4.here hx rfl (hb hby at_155) rfl rfl k) ?_
            show own_Ends p.tables e below s _ _ _ (T4.setTop (mkF m 157 #[.val (.long y0_0), .second, .val (.long y1_0), .second, .val (.long y2_0), .second, .val (.long y3_0), .second, .val (.int x4_0), .val (.ref b1), .val (.long y0_0), .second, .val (.long y3_0), .second, .val (.int (((x4_0.toUInt32 >>> ((2 : Int32) &&& 31).toUInt32).toInt32) &&& (3 : Int32))), .unset, .unset] [(.ref b1)]))
            refine own_step (fun t k => XS.lloadN X4.here hx rfl (hb hby at_157) rfl k) ?_
            show own_Ends p.tables e below s _ _ _ (T4.setTop (mkF m 158 #[.val (.long y0_0), .second, .val (.long y1_0), .second, .val (.long y2_0), .second, .val (.long y3_0), .second, .val (.int x4_0), .val (.ref b1), .val (.long y0_0), .second, .val (.long y3_0), .second, .val (.int (((x4_0.toUInt32 >>> ((2 : Int32) &&& 31).toUInt32).toInt32) &&& (3 : Int32))), .unset, .unset] [(.long y0_0), (.ref b1)]))
            have O230 : Old Z n0 T4.heap := (O3.keep K4q (allS g_b1 all0))
            obtain ⟨_, _, ⟨T231, L231, k231, n231⟩, -, X231, ⟨Lc231, hQ231, l231, y231, z231⟩, st231⟩ := Jvm.LawKit.callS X4 hx (y := (⟨"java/lang/Long", "valueOf", "(J)Ljava/lang/Long;"⟩ : MethodName)) hown (mvT hZ (hw _ (List.mem_of_getElem? (i := 56) rfl))) (mvT hZ (hw _ (List.mem_of_getElem? (i := 57) rfl))) (mvT hZ (hw _ (List.mem_of_getElem? (i := 58) rfl))) (mvT hZ (hw _ (List.mem_of_getElem? (i := 59) rfl))) (by decide) (backOf (W := 1) (rm10 l Z a0 hw [] w_cache clC y0_0 T4.heap n0 O230 BXA BXS BXB S_cache) hZ (hw _ (List.mem_of_getElem? (i := 59) rfl)) (hw _ (List.mem_of_getElem? (i := 58) rfl)) (by decide) (by decide)) (g := (mkF m 158 #[.val (.long y0_0), .second, .val (.long y1_0), .second, .val (.long y2_0), .second, .val (.long y3_0), .second, .val (.int x4_0), .val (.ref b1), .val (.long y0_0), .second, .val (.long y3_0), .second, .val (.int (((x4_0.toUInt32 >>> ((2 : Int32) &&& 31).toUInt32).toInt32) &&& (3 : Int32))), .unset, .unset] [(.long y0_0), (.ref b1)])) rfl (by rw [hml]; rfl) (argsL := [(.long y0_0)]) (rest := [(.ref b1)]) (lenOf pd_4 rfl) rfl (by show 2 * 0 + _ ≤ _; exact Nat.le_of_eq rfl) (hb hby at_158) (fun _ _ => ⟨rfl, rfl, (by decide : 1 + 1 ≤ _), (by decide : 2 + 1 ≤ _)⟩)
            dsimp only [Pt.U, Pt.locs, Pt.cells, Pt.slots] at X231 l231 y231 z231 st231 hQ231
            subst y231 z231
            obtain ⟨rL_231, rfl, N231q, K231q, p231_0⟩ := hQ231
            refine own_step (fun t k => st231 _ k) ?_
            have N232 : Fr n0 L231 := by rw [l231]; exact Fr.app N5 N231q
            have K233 : Keep h0 T231.heap [] := K6.trans K231q all0
            show own_Ends p.tables e below s _ _ _ (T231.setTop (mkF m 161 #[.val (.long y0_0), .second, .val (.long y1_0), .second, .val (.long y2_0), .second, .val (.long y3_0), .second, .val (.int x4_0), .val (.ref b1), .val (.long y0_0), .second, .val (.long y3_0), .second, .val (.int (((x4_0.toUInt32 >>> ((2 : Int32) &&& 31).toUInt32).toInt32) &&& (3 : Int32))), .unset, .unset] [(.ref rL_231), (.ref b1)]))
            have O234 : Old Z n0 T231.heap := (O230.keep K231q all0)
            have F236 : Exa Z T231.heap b1 "com/example/swanhall/swanhall/core/Cell" := (p4_0.keep K231q)
            obtain ⟨cq235, kq235, q235a, q235b, q235c⟩ := isOf hZ rfl F236
            obtain ⟨_, _, ⟨T235, L235, k235, n235⟩, -, X235, ⟨Lc235, hQ235, l235, y235, z235⟩, st235⟩ := X231.virtualBack hx (y := (⟨"com/example/swanhall/swanhall/core/Cell", "equals", "(Ljava/lang/Object;)Z"⟩ : MethodName)) (z := (⟨"com/example/swanhall/swanhall/core/Cell", "equals", "(Ljava/lang/Object;)Z"⟩ : MethodName)) hown (mvT hZ (hw _ (List.mem_of_getElem? (i := 18) rfl))) (mvT hZ (hw _ (List.mem_of_getElem? (i := 19) rfl))) (notFace_of_selects (args := #[]) (mvT hZ (hw _ (List.mem_of_getElem? (i := 21) rfl)))) (mvT hZ (hw _ (List.mem_of_getElem? (i := 21) rfl))) (mvT hZ (hw _ (List.mem_of_getElem? (i := 20) rfl))) (by decide) (backOf (W := 0) (rm4l l Z a0 hw [] b1 rL_231 T231.heap n0 O234 p231_0) hZ (hw _ (List.mem_of_getElem? (i := 22) rfl)) (hw _ (List.mem_of_getElem? (i := 2) rfl)) (by decide) (by decide)) q235a q235c (g := (mkF m 161 #[.val (.long y0_0), .second, .val (.long y1_0), .second, .val (.long y2_0), .second, .val (.long y3_0), .second, .val (.int x4_0), .val (.ref b1), .val (.long y0_0), .second, .val (.long y3_0), .second, .val (.int (((x4_0.toUInt32 >>> ((2 : Int32) &&& 31).toUInt32).toInt32) &&& (3 : Int32))), .unset, .unset] [(.ref rL_231), (.ref b1)])) rfl (by rw [hml]; rfl) (Steps.refl _) (argsL := [(.ref rL_231)]) (rest := []) (lenOf pd_3 rfl) rfl (by show 2 * 0 + _ ≤ _; exact Nat.le_of_eq rfl) (hb hby at_161) (fun _ _ => ⟨rfl, rfl, (by decide : 2 + 0 ≤ _), (by decide : 3 + 0 ≤ _)⟩)
            dsimp only [Pt.U, Pt.locs, Pt.cells, Pt.slots] at X235 l235 y235 z235 st235 hQ235
            subst y235 z235
            obtain ⟨rfl, N235q, e235⟩ := hQ235
            refine own_step (fun t k => st235.trans k) ?_
            have N237 : Fr n0 L235 := by rw [l235]; exact Fr.app N232 N235q
            show own_Ends p.tables e below s _ _ _ (T235.setTop (mkF m 164 #[.val (.long y0_0), .second, .val (.long y1_0), .second, .val (.long y2_0), .second, .val (.long y3_0), .second, .val (.int x4_0), .val (.ref b1), .val (.long y0_0), .second, .val (.long y3_0), .second, .val (.int (((x4_0.toUInt32 >>> ((2 : Int32) &&& 31).toUInt32).toInt32) &&& (3 : Int32))), .unset, .unset] [(.int (0 : Int32))]))
            refine own_step (fun t k => XS.ifNo X235.here hx rfl (hb hby at_164) rfl ((if0 _ _).trans (teq (by decide : (0 : Int32) = (0 : Int32))).2) k) ?_
            show own_Ends p.tables e below s _ _ _ (T235.setTop (mkF m 167 #[.val (.long y0_0), .second, .val (.long y1_0), .second, .val (.long y2_0), .second, .val (.long y3_0), .second, .val (.int x4_0), .val (.ref b1), .val (.long y0_0), .second, .val (.long y3_0), .second, .val (.int (((x4_0.toUInt32 >>> ((2 : Int32) &&& 31).toUInt32).toInt32) &&& (3 : Int32))), .unset, .unset] []))
            refine own_step (fun t k => XS.iconst X235.here hx rfl (hb hby at_167) k) ?_
            show own_Ends p.tables e below s _ _ _ (T235.setTop (mkF m 168 #[.val (.long y0_0), .second, .val (.long y1_0), .second, .val (.long y2_0), .second, .val (.long y3_0), .second, .val (.int x4_0), .val (.ref b1), .val (.long y0_0), .second, .val (.long y3_0), .second, .val (.int (((x4_0.toUInt32 >>> ((2 : Int32) &&& 31).toUInt32).toInt32) &&& (3 : Int32))), .unset, .unset] [(.int (1 : Int32))]))
            refine own_step (fun t k => XS.goto X235.here hx rfl (pc0 := 168) (pc' := 172) rfl (hb hby at_168) (by decide) (by decide) k) ?_
            show own_Ends p.tables e below s _ _ _ (T235.setTop (mkF m 172 #[.val (.long y0_0), .second, .val (.long y1_0), .second, .val (.long y2_0), .second, .val (.long y3_0), .second, .val (.int x4_0), .val (.ref b1), .val (.long y0_0), .second, .val (.long y3_0), .second, .val (.int (((x4_0.toUInt32 >>> ((2 : Int32) &&& 31).toUInt32).toInt32) &&& (3 : Int32))), .unset, .unset] [(.int (1 : Int32))]))
            exact own_retN X235 hx (t := .boolean) Bd.returns (by simp) (hb hby at_172) hnl (by rw [e235]; exact ⟨rfl, N237⟩) (by decide) (by decide)
          · skip
            refine own_step (fun t k => XS.icmpYes X4.here hx rfl (pc0 := 152) (pc' := 173) rfl (hb hby at_152) rfl (feq hc152_229).2 (by decide) (by decide) k) ?_
            show own_Ends p.tables e below s _ _ _ (T4.setTop (mkF m 173 #[.val (.long y0_0), .second, .val (.long y1_0), .second, .val (.long y2_0), .second, .val (.long y3_0), .second, .val (.int x4_0), .val (.ref b1), .val (.long y0_0), .second, .val (.long y3_0), .second, .val (.int (((x4_0.toUInt32 >>> ((2 : Int32) &&& 31).toUInt32).toInt32) &&& (3 : Int32))), .unset, .unset] []))
            refine own_step (fun t k => XS.iconst X4.here hx rfl (hb hby at_173) k) ?_
            show own_Ends p.tables e below s _ _ _ (T4.setTop (mkF m 174 #[.val (.long y0_0), .second, .val (.long y1_0), .second, .val (.long y2_0), .second, .val (.long y3_0), .second, .val (.int x4_0), .val (.ref b1), .val (.long y0_0), .second, .val (.long y3_0), .second, .val (.int (((x4_0.toUInt32 >>> ((2 : Int32) &&& 31).toUInt32).toInt32) &&& (3 : Int32))), .unset, .unset] [(.int (1 : Int32))]))
            have O238 : Old Z n0 T4.heap := (O3.keep K4q (allS g_b1 all0))
            obtain ⟨T239, h239, k239, X239, e239, E239, A239, st239⟩ := newP X4 hx hZ (hw _ (List.mem_of_getElem? (i := 25) rfl)) rfl (g := (mkF m 174 #[.val (.long y0_0), .second, .val (.long y1_0), .second, .val (.long y2_0), .second, .val (.long y3_0), .second, .val (.int x4_0), .val (.ref b1), .val (.long y0_0), .second, .val (.long y3_0), .second, .val (.int (((x4_0.toUInt32 >>> ((2 : Int32) &&& 31).toUInt32).toInt32) &&& (3 : Int32))), .unset, .unset] [(.int (1 : Int32))])) rfl (hb hby at_174) rfl (by decide) (cap := 1) (by decide) (by decide) (by decide) (by decide)
            obtain ⟨b239, g239⟩ : ∃ z, z = T4.heap.size := ⟨_, rfl⟩
            rw [← g239] at A239 st239
            have g_b239 : n0 ≤ b239 := Nat.le_trans (Nat.le_trans (Nat.le_of_eq O238.1.symm) O238.2.1) (Nat.le_of_eq g239.symm)
            have sz_b239 : h0.size ≤ b239 := Nat.le_trans K6.1 (Nat.le_of_eq g239.symm)
            have ne_b1_b239 : b1 ≠ b239 := Nat.ne_of_lt (Nat.lt_of_lt_of_le p4_0.lt (Nat.le_of_eq g239.symm))
            have V239 : Arv Z h239 b239 k239 .char (1 : Int32) [] (.int (0 : Int32)) := Arv.new A239 (by decide)
            have V239p : Arv Z h239 b239 k239 .char (1 : Int32) [(.int (0 : Int32))] (.int (0 : Int32)) := V239.pad (pad_rep [] (.int (0 : Int32)) 1)
            refine own_step (fun t k => st239 _ k) ?_
            have K240 : Keep h0 h239 [] := K6.ext E239
            show own_Ends p.tables e below s _ _ _ (T239.setTop (mkF m 176 #[.val (.long y0_0), .second, .val (.long y1_0), .second, .val (.long y2_0), .second, .val (.long y3_0), .second, .val (.int x4_0), .val (.ref b1), .val (.long y0_0), .second, .val (.long y3_0), .second, .val (.int (((x4_0.toUInt32 >>> ((2 : Int32) &&& 31).toUInt32).toInt32) &&& (3 : Int32))), .unset, .unset] [(.ref b239)]))
            refine own_step (fun t k => XS.astore X239.here hx rfl (hb hby at_176) rfl rfl (l' := #[.val (.long y0_0), .second, .val (.long y1_0), .second, .val (.long y2_0), .second, .val (.long y3_0), .second, .val (.int x4_0), .val (.ref b1), .val (.long y0_0), .second, .val (.long y3_0), .second, .val (.int (((x4_0.toUInt32 >>> ((2 : Int32) &&& 31).toUInt32).toInt32) &&& (3 : Int32))), .val (.ref b239), .unset]) rfl k) ?_
            show own_Ends p.tables e below s _ _ _ (T239.setTop (mkF m 178 #[.val (.long y0_0), .second, .val (.long y1_0), .second, .val (.long y2_0), .second, .val (.long y3_0), .second, .val (.int x4_0), .val (.ref b1), .val (.long y0_0), .second, .val (.long y3_0), .second, .val (.int (((x4_0.toUInt32 >>> ((2 : Int32) &&& 31).toUInt32).toInt32) &&& (3 : Int32))), .val (.ref b239), .unset] []))
            refine own_step (fun t k => XS.aload X239.here hx rfl (hb hby at_178) rfl rfl k) ?_
            show own_Ends p.tables e below s _ _ _ (T239.setTop (mkF m 180 #[.val (.long y0_0), .second, .val (.long y1_0), .second, .val (.long y2_0), .second, .val (.long y3_0), .second, .val (.int x4_0), .val (.ref b1), .val (.long y0_0), .second, .val (.long y3_0), .second, .val (.int (((x4_0.toUInt32 >>> ((2 : Int32) &&& 31).toUInt32).toInt32) &&& (3 : Int32))), .val (.ref b239), .unset] [(.ref b239)]))
            refine own_step (fun t k => XS.iconst X239.here hx rfl (hb hby at_180) k) ?_
            show own_Ends p.tables e below s _ _ _ (T239.setTop (mkF m 181 #[.val (.long y0_0), .second, .val (.long y1_0), .second, .val (.long y2_0), .second, .val (.long y3_0), .second, .val (.int x4_0), .val (.ref b1), .val (.long y0_0), .second, .val (.long y3_0), .second, .val (.int (((x4_0.toUInt32 >>> ((2 : Int32) &&& 31).toUInt32).toInt32) &&& (3 : Int32))), .val (.ref b239), .unset] [(.int (0 : Int32)), (.ref b239)]))
            refine own_step (fun t k => XS.lloadN X239.here hx rfl (hb hby at_181) rfl k) ?_
            show own_Ends p.tables e below s _ _ _ (T239.setTop (mkF m 182 #[.val (.long y0_0), .second, .val (.long y1_0), .second, .val (.long y2_0), .second, .val (.long y3_0), .second, .val (.int x4_0), .val (.ref b1), .val (.long y0_0), .second, .val (.long y3_0), .second, .val (.int (((x4_0.toUInt32 >>> ((2 : Int32) &&& 31).toUInt32).toInt32) &&& (3 : Int32))), .val (.ref b239), .unset] [(.long y0_0), (.int (0 : Int32)), (.ref b239)]))
            refine own_step (fun t k => X239.ldc2Long hx hown (mvT hZ (hw _ (List.mem_of_getElem? (i := 26) rfl))) (g := (mkF m 182 #[.val (.long y0_0), .second, .val (.long y1_0), .second, .val (.long y2_0), .second, .val (.long y3_0), .second, .val (.int x4_0), .val (.ref b1), .val (.long y0_0), .second, .val (.long y3_0), .second, .val (.int (((x4_0.toUInt32 >>> ((2 : Int32) &&& 31).toUInt32).toInt32) &&& (3 : Int32))), .val (.ref b239), .unset] [(.long y0_0), (.int (0 : Int32)), (.ref b239)])) rfl (hb hby at_182) _ k) ?_
            show own_Ends p.tables e below s _ _ _ (T239.setTop (mkF m 185 #[.val (.long y0_0), .second, .val (.long y1_0), .second, .val (.long y2_0), .second, .val (.long y3_0), .second, .val (.int x4_0), .val (.ref b1), .val (.long y0_0), .second, .val (.long y3_0), .second, .val (.int (((x4_0.toUInt32 >>> ((2 : Int32) &&& 31).toUInt32).toInt32) &&& (3 : Int32))), .val (.ref b239), .unset] [(.long (255 : Int64)), (.long y0_0), (.int (0 : Int32)), (.ref b239)]))
            refine own_step (fun t k => XS.land X239.here hx rfl (hb hby at_185) rfl k) ?_
            show own_Ends p.tables e below s _ _ _ (T239.setTop (mkF m 186 #[.val (.long y0_0), .second, .val (.long y1_0), .second, .val (.long y2_0), .second, .val (.long y3_0), .second, .val (.int x4_0), .val (.ref b1), .val (.long y0_0), .second, .val (.long y3_0), .second, .val (.int (((x4_0.toUInt32 >>> ((2 : Int32) &&& 31).toUInt32).toInt32) &&& (3 : Int32))), .val (.ref b239), .unset] [(.long (y0_0 &&& (255 : Int64))), (.int (0 : Int32)), (.ref b239)]))
            refine own_step (fun t k => XS.l2i X239.here hx rfl (hb hby at_186) rfl k) ?_
            show own_Ends p.tables e below s _ _ _ (T239.setTop (mkF m 187 #[.val (.long y0_0), .second, .val (.long y1_0), .second, .val (.long y2_0), .second, .val (.long y3_0), .second, .val (.int x4_0), .val (.ref b1), .val (.long y0_0), .second, .val (.long y3_0), .second, .val (.int (((x4_0.toUInt32 >>> ((2 : Int32) &&& 31).toUInt32).toInt32) &&& (3 : Int32))), .val (.ref b239), .unset] [(.int ((y0_0 &&& (255 : Int64)).toInt32)), (.int (0 : Int32)), (.ref b239)]))
            refine own_step (fun t k => XS.i2c X239.here hx rfl (hb hby at_187) rfl k) ?_
            show own_Ends p.tables e below s _ _ _ (T239.setTop (mkF m 188 #[.val (.long y0_0), .second, .val (.long y1_0), .second, .val (.long y2_0), .second, .val (.long y3_0), .second, .val (.int x4_0), .val (.ref b1), .val (.long y0_0), .second, .val (.long y3_0), .second, .val (.int (((x4_0.toUInt32 >>> ((2 : Int32) &&& 31).toUInt32).toInt32) &&& (3 : Int32))), .val (.ref b239), .unset] [(.int (((y0_0 &&& (255 : Int64)).toInt32).toUInt32.toUInt16.toUInt32.toInt32)), (.int (0 : Int32)), (.ref b239)]))
            obtain ⟨cl241, Ar241, q241, S241, N241, H241, G241⟩ := id V239p
            have hin241 : ¬ ((0 : Int32) < 0 ∨ cl241.slots.size ≤ ((0 : Int32)).toNatClampNeg) := inb_of S241 ⟨by decide, by decide⟩
            obtain ⟨T242, h242, X242, e242, W242, st242⟩ := stC X239 hx hZ e239 Ar241 (j := (0 : Int32)) hin241 (g := (mkF m 188 #[.val (.long y0_0), .second, .val (.long y1_0), .second, .val (.long y2_0), .second, .val (.long y3_0), .second, .val (.int x4_0), .val (.ref b1), .val (.long y0_0), .second, .val (.long y3_0), .second, .val (.int (((x4_0.toUInt32 >>> ((2 : Int32) &&& 31).toUInt32).toInt32) &&& (3 : Int32))), .val (.ref b239), .unset] [(.int (((y0_0 &&& (255 : Int64)).toInt32).toUInt32.toUInt16.toUInt32.toInt32)), (.int (0 : Int32)), (.ref b239)])) rfl rfl (hb hby at_188)
            refine own_step (fun t k => st242 _ k) ?_
            have V242 : Arv Z h242 b239 k239 .char (1 : Int32) [(.int (nar .char (((y0_0 &&& (255 : Int64)).toInt32).toUInt32.toUInt16.toUInt32.toInt32)))] (.int (0 : Int32)) := Arv.set Ar241 q241 S241 N241 H241 G241 (fits_nar_char _) W242 0 rfl (Nat.le_of_ble_eq_true rfl)
            have K243 : Keep h0 h242 [] := K240.wr W242 (Or.inr sz_b239)
            have N244 := Fr.snoc X242 N5 g_b239
            show own_Ends p.tables e below s _ _ _ (T242.setTop (mkF m 189 #[.val (.long y0_0), .second, .val (.long y1_0), .second, .val (.long y2_0), .second, .val (.long y3_0), .second, .val (.int x4_0), .val (.ref b1), .val (.long y0_0), .second, .val (.long y3_0), .second, .val (.int (((x4_0.toUInt32 >>> ((2 : Int32) &&& 31).toUInt32).toInt32) &&& (3 : Int32))), .val (.ref b239), .unset] []))
            refine own_step (fun t k => XS.aload X242.here hx rfl (hb hby at_189) rfl rfl k) ?_
            show own_Ends p.tables e below s _ _ _ (T242.setTop (mkF m 191 #[.val (.long y0_0), .second, .val (.long y1_0), .second, .val (.long y2_0), .second, .val (.long y3_0), .second, .val (.int x4_0), .val (.ref b1), .val (.long y0_0), .second, .val (.long y3_0), .second, .val (.int (((x4_0.toUInt32 >>> ((2 : Int32) &&& 31).toUInt32).toInt32) &&& (3 : Int32))), .val (.ref b239), .unset] [(.ref b1)]))
            have O245 : Old Z n0 h242 := ((O238.ext E239).wr W242 g_b239)
            have F246 : Exa Z h242 b1 "com/example/swanhall/swanhall/core/Cell" := ((p4_0.ext E239).wr W242)
            obtain ⟨T247, h247, X247, e247, E247, A247, D247, -, st247⟩ := newO X242 hx hZ hown (hw _ (List.mem_of_getElem? (i := 27) rfl)) (hw _ (List.mem_of_getElem? (i := 28) rfl)) (hw _ (List.mem_of_getElem? (i := 29) rfl)) e242 (g := (mkF m 191 #[.val (.long y0_0), .second, .val (.long y1_0), .second, .val (.long y2_0), .second, .val (.long y3_0), .second, .val (.int x4_0), .val (.ref b1), .val (.long y0_0), .second, .val (.long y3_0), .second, .val (.int (((x4_0.toUInt32 >>> ((2 : Int32) &&& 31).toUInt32).toInt32) &&& (3 : Int32))), .val (.ref b239), .unset] [(.ref b1)])) rfl (hb hby at_191) (by decide) (by decide)
            obtain ⟨b247, g247⟩ : ∃ z, z = h242.size := ⟨_, rfl⟩
            rw [← g247] at A247 D247 st247
            have g_b247 : n0 ≤ b247 := Nat.le_trans (Nat.le_trans (Nat.le_of_eq O245.1.symm) O245.2.1) (Nat.le_of_eq g247.symm)
            have sz_b247 : h0.size ≤ b247 := Nat.le_trans K243.1 (Nat.le_of_eq g247.symm)
            have ne_b1_b247 : b1 ≠ b247 := Nat.ne_of_lt (Nat.lt_of_lt_of_le F246.lt (Nat.le_of_eq g247.symm))
            have ne_b239_b247 : b239 ≠ b247 := Nat.ne_of_lt (Nat.lt_of_lt_of_le V242.lt (Nat.le_of_eq g247.symm))
            have F247_coder : Fld Z h247 b247 "java/lang/String" "coder" "B" (.int (0 : Int32)) := D247 (Or.inr (hw _ (List.mem_of_getElem? (i := 51) rfl))) (ty := .byte) (by decide)
            have F247_value : Fld Z h247 b247 "java/lang/String" "value" "[B" .null := D247 (Or.inr (hw _ (List.mem_of_getElem? (i := 53) rfl))) (ty := (.array .byte)) (by decide)
            refine own_step (fun t k => st247 _ k) ?_
            have K248 : Keep h0 h247 [] := K243.ext E247
            show own_Ends p.tables e below s _ _ _ (T247.setTop (mkF m 194 #[.val (.long y0_0), .second, .val (.long y1_0), .second, .val (.long y2_0), .second, .val (.long y3_0), .second, .val (.int x4_0), .val (.ref b1), .val (.long y0_0), .second, .val (.long y3_0), .second, .val (.int (((x4_0.toUInt32 >>> ((2 : Int32) &&& 31).toUInt32).toInt32) &&& (3 : Int32))), .val (.ref b239), .unset] [(.ref b247), (.ref b1)]))
            refine own_step (fun t k => XS.dup X247.here hx rfl (hb hby at_194) rfl rfl k) ?_
            show own_Ends p.tables e below s _ _ _ (T247.setTop (mkF m 195 #[.val (.long y0_0), .second, .val (.long y1_0), .second, .val (.long y2_0), .second, .val (.long y3_0), .second, .val (.int x4_0), .val (.ref b1), .val (.long y0_0), .second, .val (.long y3_0), .second, .val (.int (((x4_0.toUInt32 >>> ((2 : Int32) &&& 31).toUInt32).toInt32) &&& (3 : Int32))), .val (.ref b239), .unset] [(.ref b247), (.ref b247), (.ref b1)]))
            refine own_step (fun t k => XS.aload X247.here hx rfl (hb hby at_195) rfl rfl k) ?_
            show own_Ends p.tables e below s _ _ _ (T247.setTop (mkF m 197 #[.val (.long y0_0), .second, .val (.long y1_0), .second, .val (.long y2_0), .second, .val (.long y3_0), .second, .val (.int x4_0), .val (.ref b1), .val (.long y0_0), .second, .val (.long y3_0), .second, .val (.int (((x4_0.toUInt32 >>> ((2 : Int32) &&& 31).toUInt32).toInt32) &&& (3 : Int32))), .val (.ref b239), .unset] [(.ref b239), (.ref b247), (.ref b247), (.ref b1)]))
            have O249 : Old Z n0 h247 := (O245.ext E247)
            have F250 : Arv Z h247 b239 k239 .char (1 : Int32) [(.int (nar .char (((y0_0 &&& (255 : Int64)).toInt32).toUInt32.toUInt16.toUInt32.toInt32)))] (.int (0 : Int32)) := (V242.ext E247)
            have hws : ∀ d ∈ StrChars.Road.words, d.before a0 Z = true := fun d hd => hw d ((by decide +kernel : ∀ d ∈ StrChars.Road.words, d ∈ tables_1) d hd)
            obtain ⟨_, _, ⟨T251, L251, k251, n251⟩, -, X251, ⟨Lc251, hQ251, l251, y251, z251⟩, st251⟩ := X247.specialBack hx (y := (⟨"java/lang/String", "<init>", "([C)V"⟩ : MethodName)) rfl hown (mvT hZ (hw _ (List.mem_of_getElem? (i := 30) rfl))) (mvT hZ (hw _ (List.mem_of_getElem? (i := 31) rfl))) (mvT hZ (hw _ (List.mem_of_getElem? (i := 32) rfl))) (by decide) (StrChars.Road.backV (W := 2) hZ hws (kI := 4) (hw _ (List.mem_of_getElem? (i := 28) rfl)) (cs := [nar .char (((y0_0 &&& (255 : Int64)).toInt32).toUInt32.toUInt16.toUInt32.toInt32)]) (bs := [(nar .char (((y0_0 &&& (255 : Int64)).toInt32).toUInt32.toUInt16.toUInt32.toInt32)).toInt8.toInt32]) (n := 1) g_b247 (Nat.le_trans (Nat.le_of_eq O249.1.symm) O249.2.1) A247 F247_value F247_coder F250 (S_COMPACT_STRINGS.ext O249.2) hcs rfl rfl (by decide) (by decide) (own_lat y0_0) rfl (by decide) (by decide)) (g := (mkF m 197 #[.val (.long y0_0), .second, .val (.long y1_0), .second, .val (.long y2_0), .second, .val (.long y3_0), .second, .val (.int x4_0), .val (.ref b1), .val (.long y0_0), .second, .val (.long y3_0), .second, .val (.int (((x4_0.toUInt32 >>> ((2 : Int32) &&& 31).toUInt32).toInt32) &&& (3 : Int32))), .val (.ref b239), .unset] [(.ref b239), (.ref b247), (.ref b247), (.ref b1)])) rfl (by rw [hml]; rfl) (Steps.refl _) (a := b247) (argsL := [(.ref b239)]) (rest := [(.ref b247), (.ref b1)]) (lenOf pd_5 rfl) rfl (by show 2 * 0 + _ ≤ _; exact Nat.le_of_eq rfl) (hb hby at_197) (fun _ _ => ⟨rfl, e247, (by decide : 3 + 1 ≤ _), (by decide : 7 + 1 ≤ _)⟩)
            dsimp only [Pt.U, Pt.locs, Pt.cells, Pt.slots] at X251 l251 y251 z251 st251 hQ251
            subst y251 z251
            obtain ⟨rfl, N251q, K251q, -⟩ := hQ251
            refine own_step (fun t k => st251.trans k) ?_
            have N252 : Fr n0 L251 := by rw [l251]; exact Fr.app N244 N251q
            have K253 : Keep h0 T251.heap [] := K248.trans K251q (allS (Or.inr sz_b247) all0)
            show own_Ends p.tables e below s _ _ _ (T251.setTop (mkF m 200 #[.val (.long y0_0), .second, .val (.long y1_0), .second, .val (.long y2_0), .second, .val (.long y3_0), .second, .val (.int x4_0), .val (.ref b1), .val (.long y0_0), .second, .val (.long y3_0), .second, .val (.int (((x4_0.toUInt32 >>> ((2 : Int32) &&& 31).toUInt32).toInt32) &&& (3 : Int32))), .val (.ref b239), .unset] [(.ref b247), (.ref b1)]))
            have F254 : Exa Z T251.heap b247 "java/lang/String" := (A247.keep K251q)
            have O255 : Old Z n0 T251.heap := (O249.keep K251q (allS g_b247 all0))
            have F257 : Exa Z T251.heap b1 "com/example/swanhall/swanhall/core/Cell" := ((F246.ext E247).keep K251q)
            obtain ⟨cq256, kq256, q256a, q256b, q256c⟩ := isOf hZ rfl F257
            obtain ⟨_, _, ⟨T256, L256, k256, n256⟩, -, X256, ⟨Lc256, hQ256, l256, y256, z256⟩, st256⟩ := X251.virtualBack hx (y := (⟨"com/example/swanhall/swanhall/core/Cell", "equals", "(Ljava/lang/Object;)Z"⟩ : MethodName)) (z := (⟨"com/example/swanhall/swanhall/core/Cell", "equals", "(Ljava/lang/Object;)Z"⟩ : MethodName)) hown (mvT hZ (hw _ (List.mem_of_getElem? (i := 18) rfl))) (mvT hZ (hw _ (List.mem_of_getElem? (i := 19) rfl))) (notFace_of_selects (args := #[]) (mvT hZ (hw _ (List.mem_of_getElem? (i := 21) rfl)))) (mvT hZ (hw _ (List.mem_of_getElem? (i := 21) rfl))) (mvT hZ (hw _ (List.mem_of_getElem? (i := 20) rfl))) (by decide) (backOf (W := 0) (rm4s l Z a0 hw [] b1 b247 T251.heap n0 O255 F254) hZ (hw _ (List.mem_of_getElem? (i := 22) rfl)) (hw _ (List.mem_of_getElem? (i := 2) rfl)) (by decide) (by decide)) q256a q256c (g := (mkF m 200 #[.val (.long y0_0), .second, .val (.long y1_0), .second, .val (.long y2_0), .second, .val (.long y3_0), .second, .val (.int x4_0), .val (.ref b1), .val (.long y0_0), .second, .val (.long y3_0), .second, .val (.int (((x4_0.toUInt32 >>> ((2 : Int32) &&& 31).toUInt32).toInt32) &&& (3 : Int32))), .val (.ref b239), .unset] [(.ref b247), (.ref b1)])) rfl (by rw [hml]; rfl) (Steps.refl _) (argsL := [(.ref b247)]) (rest := []) (lenOf pd_3 rfl) rfl (by show 2 * 0 + _ ≤ _; exact Nat.le_of_eq rfl) (hb hby at_200) (fun _ _ => ⟨rfl, rfl, (by decide : 4 + 0 ≤ _), (by decide : 8 + 0 ≤ _)⟩)
            dsimp only [Pt.U, Pt.locs, Pt.cells, Pt.slots] at X256 l256 y256 z256 st256 hQ256
            subst y256 z256
            obtain ⟨rfl, N256q, e256⟩ := hQ256
            refine own_step (fun t k => st256.trans k) ?_
            have N258 : Fr n0 L256 := by rw [l256]; exact Fr.app N252 N256q
            show own_Ends p.tables e below s _ _ _ (T256.setTop (mkF m 203 #[.val (.long y0_0), .second, .val (.long y1_0), .second, .val (.long y2_0), .second, .val (.long y3_0), .second, .val (.int x4_0), .val (.ref b1), .val (.long y0_0), .second, .val (.long y3_0), .second, .val (.int (((x4_0.toUInt32 >>> ((2 : Int32) &&& 31).toUInt32).toInt32) &&& (3 : Int32))), .val (.ref b239), .unset] [(.int (0 : Int32))]))
            refine own_step (fun t k => XS.ifNo X256.here hx rfl (hb hby at_203) rfl ((if0 _ _).trans (teq (by decide : (0 : Int32) = (0 : Int32))).2) k) ?_
            show own_Ends p.tables e below s _ _ _ (T256.setTop (mkF m 206 #[.val (.long y0_0), .second, .val (.long y1_0), .second, .val (.long y2_0), .second, .val (.long y3_0), .second, .val (.int x4_0), .val (.ref b1), .val (.long y0_0), .second, .val (.long y3_0), .second, .val (.int (((x4_0.toUInt32 >>> ((2 : Int32) &&& 31).toUInt32).toInt32) &&& (3 : Int32))), .val (.ref b239), .unset] []))
            refine own_step (fun t k => XS.iconst X256.here hx rfl (hb hby at_206) k) ?_
            show own_Ends p.tables e below s _ _ _ (T256.setTop (mkF m 207 #[.val (.long y0_0), .second, .val (.long y1_0), .second, .val (.long y2_0), .second, .val (.long y3_0), .second, .val (.int x4_0), .val (.ref b1), .val (.long y0_0), .second, .val (.long y3_0), .second, .val (.int (((x4_0.toUInt32 >>> ((2 : Int32) &&& 31).toUInt32).toInt32) &&& (3 : Int32))), .val (.ref b239), .unset] [(.int (1 : Int32))]))
            refine own_step (fun t k => XS.goto X256.here hx rfl (pc0 := 207) (pc' := 211) rfl (hb hby at_207) (by decide) (by decide) k) ?_
            show own_Ends p.tables e below s _ _ _ (T256.setTop (mkF m 211 #[.val (.long y0_0), .second, .val (.long y1_0), .second, .val (.long y2_0), .second, .val (.long y3_0), .second, .val (.int x4_0), .val (.ref b1), .val (.long y0_0), .second, .val (.long y3_0), .second, .val (.int (((x4_0.toUInt32 >>> ((2 : Int32) &&& 31).toUInt32).toInt32) &&& (3 : Int32))), .val (.ref b239), .unset] [(.int (1 : Int32))]))
            exact own_retN X256 hx (t := .boolean) Bd.returns (by simp) (hb hby at_211) hnl (by rw [e256]; exact ⟨rfl, N258⟩) (by decide) (by decide)
    · skip
      refine own_step (fun t k => XS.ifNo X4.here hx rfl (hb hby at_30) rfl ((if0 _ _).trans (feq hc30_175).1) k) ?_
      show own_Ends p.tables e below s _ _ _ (T4.setTop (mkF m 33 #[.val (.long y0_0), .second, .val (.long y1_0), .second, .val (.long y2_0), .second, .val (.long y3_0), .second, .val (.int x4_0), .val (.ref b1), .val (.long y0_0), .second, .unset, .unset, .unset, .unset, .unset] []))
      refine own_step (fun t k => XS.lloadN X4.here hx rfl (hb hby at_33) rfl k) ?_
      show own_Ends p.tables e below s _ _ _ (T4.setTop (mkF m 34 #[.val (.long y0_0), .second, .val (.long y1_0), .second, .val (.long y2_0), .second, .val (.long y3_0), .second, .val (.int x4_0), .val (.ref b1), .val (.long y0_0), .second, .unset, .unset, .unset, .unset, .unset] [(.long y1_0)]))
      refine own_step (fun t k => XS.goto X4.here hx rfl (pc0 := 34) (pc' := 39) rfl (hb hby at_34) (by decide) (by decide) k) ?_
      show own_Ends p.tables e below s _ _ _ (T4.setTop (mkF m 39 #[.val (.long y0_0), .second, .val (.long y1_0), .second, .val (.long y2_0), .second, .val (.long y3_0), .second, .val (.int x4_0), .val (.ref b1), .val (.long y0_0), .second, .unset, .unset, .unset, .unset, .unset] [(.long y1_0)]))
      refine own_step (fun t k => XS.lstore X4.here hx rfl (hb hby at_39) rfl (l' := #[.val (.long y0_0), .second, .val (.long y1_0), .second, .val (.long y2_0), .second, .val (.long y3_0), .second, .val (.int x4_0), .val (.ref b1), .val (.long y0_0), .second, .val (.long y1_0), .second, .unset, .unset, .unset]) rfl k) ?_
      show own_Ends p.tables e below s _ _ _ (T4.setTop (mkF m 41 #[.val (.long y0_0), .second, .val (.long y1_0), .second, .val (.long y2_0), .second, .val (.long y3_0), .second, .val (.int x4_0), .val (.ref b1), .val (.long y0_0), .second, .val (.long y1_0), .second, .unset, .unset, .unset] []))
      refine own_step (fun t k => XS.iload X4.here hx rfl (hb hby at_41) rfl k) ?_
      show own_Ends p.tables e below s _ _ _ (T4.setTop (mkF m 43 #[.val (.long y0_0), .second, .val (.long y1_0), .second, .val (.long y2_0), .second, .val (.long y3_0), .second, .val (.int x4_0), .val (.ref b1), .val (.long y0_0), .second, .val (.long y1_0), .second, .unset, .unset, .unset] [(.int x4_0)]))
      refine own_step (fun t k => XS.iconst X4.here hx rfl (hb hby at_43) k) ?_
      show own_Ends p.tables e below s _ _ _ (T4.setTop (mkF m 44 #[.val (.long y0_0), .second, .val (.long y1_0), .second, .val (.long y2_0), .second, .val (.long y3_0), .second, .val (.int x4_0), .val (.ref b1), .val (.long y0_0), .second, .val (.long y1_0), .second, .unset, .unset, .unset] [(.int (2 : Int32)), (.int x4_0)]))
      refine own_step (fun t k => XS.iushr X4.here hx rfl (hb hby at_44) rfl k) ?_
      show own_Ends p.tables e below s _ _ _ (T4.setTop (mkF m 45 #[.val (.long y0_0), .second, .val (.long y1_0), .second, .val (.long y2_0), .second, .val (.long y3_0), .second, .val (.int x4_0), .val (.ref b1), .val (.long y0_0), .second, .val (.long y1_0), .second, .unset, .unset, .unset] [(.int ((x4_0.toUInt32 >>> ((2 : Int32) &&& 31).toUInt32).toInt32))]))
      refine own_step (fun t k => XS.iconst X4.here hx rfl (hb hby at_45) k) ?_
      show own_Ends p.tables e below s _ _ _ (T4.setTop (mkF m 46 #[.val (.long y0_0), .second, .val (.long y1_0), .second, .val (.long y2_0), .second, .val (.long y3_0), .second, .val (.int x4_0), .val (.ref b1), .val (.long y0_0), .second, .val (.long y1_0), .second, .unset, .unset, .unset] [(.int (3 : Int32)), (.int ((x4_0.toUInt32 >>> ((2 : Int32) &&& 31).toUInt32).toInt32))]))
      refine own_step (fun t k => XS.iand X4.here hx rfl (hb hby at_46) rfl k) ?_
      show own_Ends p.tables e below s _ _ _ (T4.setTop (mkF m 47 #[.val (.long y0_0), .second, .val (.long y1_0), .second, .val (.long y2_0), .second, .val (.long y3_0), .second, .val (.int x4_0), .val (.ref b1), .val (.long y0_0), .second, .val (.long y1_0), .second, .unset, .unset, .unset] [(.int (((x4_0.toUInt32 >>> ((2 : Int32) &&& 31).toUInt32).toInt32) &&& (3 : Int32)))]))
      refine own_step (fun t k => XS.istore X4.here hx rfl (hb hby at_47) rfl (l' := #[.val (.long y0_0), .second, .val (.long y1_0), .second, .val (.long y2_0), .second, .val (.long y3_0), .second, .val (.int x4_0), .val (.ref b1), .val (.long y0_0), .second, .val (.long y1_0), .second, .val (.int (((x4_0.toUInt32 >>> ((2 : Int32) &&& 31).toUInt32).toInt32) &&& (3 : Int32))), .unset, .unset]) rfl k) ?_
      show own_Ends p.tables e below s _ _ _ (T4.setTop (mkF m 49 #[.val (.long y0_0), .second, .val (.long y1_0), .second, .val (.long y2_0), .second, .val (.long y3_0), .second, .val (.int x4_0), .val (.ref b1), .val (.long y0_0), .second, .val (.long y1_0), .second, .val (.int (((x4_0.toUInt32 >>> ((2 : Int32) &&& 31).toUInt32).toInt32) &&& (3 : Int32))), .unset, .unset] []))
      refine own_step (fun t k => XS.iload X4.here hx rfl (hb hby at_49) rfl k) ?_
      show own_Ends p.tables e below s _ _ _ (T4.setTop (mkF m 51 #[.val (.long y0_0), .second, .val (.long y1_0), .second, .val (.long y2_0), .second, .val (.long y3_0), .second, .val (.int x4_0), .val (.ref b1), .val (.long y0_0), .second, .val (.long y1_0), .second, .val (.int (((x4_0.toUInt32 >>> ((2 : Int32) &&& 31).toUInt32).toInt32) &&& (3 : Int32))), .unset, .unset] [(.int (((x4_0.toUInt32 >>> ((2 : Int32) &&& 31).toUInt32).toInt32) &&& (3 : Int32)))]))
      by_cases hc51_259 : (((x4_0.toUInt32 >>> ((2 : Int32) &&& 31).toUInt32).toInt32) &&& (3 : Int32)) = (0 : Int32)
      · skip
        refine own_step (fun t k => XS.ifNo X4.here hx rfl (hb hby at_51) rfl ((if0 _ _).trans (teq hc51_259).2) k) ?_
        show own_Ends p.tables e below s _ _ _ (T4.setTop (mkF m 54 #[.val (.long y0_0), .second, .val (.long y1_0), .second, .val (.long y2_0), .second, .val (.long y3_0), .second, .val (.int x4_0), .val (.ref b1), .val (.long y0_0), .second, .val (.long y1_0), .second, .val (.int (((x4_0.toUInt32 >>> ((2 : Int32) &&& 31).toUInt32).toInt32) &&& (3 : Int32))), .unset, .unset] []))
        have O260 : Old Z n0 T4.heap := (O3.keep K4q (allS g_b1 all0))
        obtain ⟨T261, h261, X261, e261, E261, A261, D261, -, st261⟩ := newO X4 hx hZ hown (hw _ (List.mem_of_getElem? (i := 0) rfl)) (hw _ (List.mem_of_getElem? (i := 1) rfl)) (hw _ (List.mem_of_getElem? (i := 2) rfl)) rfl (g := (mkF m 54 #[.val (.long y0_0), .second, .val (.long y1_0), .second, .val (.long y2_0), .second, .val (.long y3_0), .second, .val (.int x4_0), .val (.ref b1), .val (.long y0_0), .second, .val (.long y1_0), .second, .val (.int (((x4_0.toUInt32 >>> ((2 : Int32) &&& 31).toUInt32).toInt32) &&& (3 : Int32))), .unset, .unset] [])) rfl (hb hby at_54) (by decide) (by decide)
        obtain ⟨b261, g261⟩ : ∃ z, z = T4.heap.size := ⟨_, rfl⟩
        rw [← g261] at A261 D261 st261
        have g_b261 : n0 ≤ b261 := Nat.le_trans (Nat.le_trans (Nat.le_of_eq O260.1.symm) O260.2.1) (Nat.le_of_eq g261.symm)
        have sz_b261 : h0.size ≤ b261 := Nat.le_trans K6.1 (Nat.le_of_eq g261.symm)
        have ne_b1_b261 : b1 ≠ b261 := Nat.ne_of_lt (Nat.lt_of_lt_of_le p4_0.lt (Nat.le_of_eq g261.symm))
        have F261_x : Fld Z h261 b261 "com/example/swanhall/swanhall/core/Cell" "x" "J" (.long (0 : Int64)) := D261 (Or.inr (hw _ (List.mem_of_getElem? (i := 15) rfl))) (ty := .long) (by decide)
        have F261_y : Fld Z h261 b261 "com/example/swanhall/swanhall/core/Cell" "y" "J" (.long (0 : Int64)) := D261 (Or.inr (hw _ (List.mem_of_getElem? (i := 17) rfl))) (ty := .long) (by decide)
        refine own_step (fun t k => st261 _ k) ?_
        have K262 : Keep h0 h261 [] := K6.ext E261
        show own_Ends p.tables e below s _ _ _ (T261.setTop (mkF m 57 #[.val (.long y0_0), .second, .val (.long y1_0), .second, .val (.long y2_0), .second, .val (.long y3_0), .second, .val (.int x4_0), .val (.ref b1), .val (.long y0_0), .second, .val (.long y1_0), .second, .val (.int (((x4_0.toUInt32 >>> ((2 : Int32) &&& 31).toUInt32).toInt32) &&& (3 : Int32))), .unset, .unset] [(.ref b261)]))
        refine own_step (fun t k => XS.dup X261.here hx rfl (hb hby at_57) rfl rfl k) ?_
        show own_Ends p.tables e below s _ _ _ (T261.setTop (mkF m 58 #[.val (.long y0_0), .second, .val (.long y1_0), .second, .val (.long y2_0), .second, .val (.long y3_0), .second, .val (.int x4_0), .val (.ref b1), .val (.long y0_0), .second, .val (.long y1_0), .second, .val (.int (((x4_0.toUInt32 >>> ((2 : Int32) &&& 31).toUInt32).toInt32) &&& (3 : Int32))), .unset, .unset] [(.ref b261), (.ref b261)]))
        refine own_step (fun t k => XS.lload X261.here hx rfl (hb hby at_58) rfl k) ?_
        show own_Ends p.tables e below s _ _ _ (T261.setTop (mkF m 60 #[.val (.long y0_0), .second, .val (.long y1_0), .second, .val (.long y2_0), .second, .val (.long y3_0), .second, .val (.int x4_0), .val (.ref b1), .val (.long y0_0), .second, .val (.long y1_0), .second, .val (.int (((x4_0.toUInt32 >>> ((2 : Int32) &&& 31).toUInt32).toInt32) &&& (3 : Int32))), .unset, .unset] [(.long y0_0), (.ref b261), (.ref b261)]))
        refine own_step (fun t k => XS.lload X261.here hx rfl (hb hby at_60) rfl k) ?_
        show own_Ends p.tables e below s _ _ _ (T261.setTop (mkF m 62 #[.val (.long y0_0), .second, .val (.long y1_0), .second, .val (.long y2_0), .second, .val (.long y3_0), .second, .val (.int x4_0), .val (.ref b1), .val (.long y0_0), .second, .val (.long y1_0), .second, .val (.int (((x4_0.toUInt32 >>> ((2 : Int32) &&& 31).toUInt32).toInt32) &&& (3 : Int32))), .unset, .unset] [(.long y1_0), (.long y0_0), (.ref b261), (.ref b261)]))
        have O263 : Old Z n0 h261 := (O260.ext E261)
        obtain ⟨_, _, ⟨T264, L264, k264, n264⟩, -, X264, ⟨Lc264, hQ264, l264, y264, z264⟩, st264⟩ := X261.specialBack hx (y := (⟨"com/example/swanhall/swanhall/core/Cell", "<init>", "(JJ)V"⟩ : MethodName)) rfl hown (mvT hZ (hw _ (List.mem_of_getElem? (i := 3) rfl))) (mvT hZ (hw _ (List.mem_of_getElem? (i := 4) rfl))) (mvT hZ (hw _ (List.mem_of_getElem? (i := 5) rfl))) (by decide) (backOf (W := 1) (rm1 l Z a0 hw [] b261 y0_0 y1_0 (.long (0 : Int64)) (.long (0 : Int64)) h261 n0 O263 A261 F261_x g_b261 F261_y) hZ (hw _ (List.mem_of_getElem? (i := 5) rfl)) (hw _ (List.mem_of_getElem? (i := 2) rfl)) (by decide) (by decide)) (g := (mkF m 62 #[.val (.long y0_0), .second, .val (.long y1_0), .second, .val (.long y2_0), .second, .val (.long y3_0), .second, .val (.int x4_0), .val (.ref b1), .val (.long y0_0), .second, .val (.long y1_0), .second, .val (.int (((x4_0.toUInt32 >>> ((2 : Int32) &&& 31).toUInt32).toInt32) &&& (3 : Int32))), .unset, .unset] [(.long y1_0), (.long y0_0), (.ref b261), (.ref b261)])) rfl (by rw [hml]; rfl) (Steps.refl _) (a := b261) (argsL := [(.long y0_0), (.long y1_0)]) (rest := [(.ref b261)]) (lenOf pd_2 rfl) rfl (by show 2 * 0 + _ ≤ _; exact Nat.le_of_eq rfl) (hb hby at_62) (fun _ _ => ⟨rfl, e261, (by decide : 2 + 0 ≤ _), (by decide : 4 + 0 ≤ _)⟩)
        dsimp only [Pt.U, Pt.locs, Pt.cells, Pt.slots] at X264 l264 y264 z264 st264 hQ264
        subst y264 z264
        obtain ⟨rfl, N264q, K264q, p264_0, p264_1, p264_2⟩ := hQ264
        refine own_step (fun t k => st264.trans k) ?_
        have N265 : Fr n0 L264 := by rw [l264]; exact Fr.app N5 N264q
        have K266 : Keep h0 T264.heap [] := K262.trans K264q (allS (Or.inr sz_b261) all0)
        show own_Ends p.tables e below s _ _ _ (T264.setTop (mkF m 65 #[.val (.long y0_0), .second, .val (.long y1_0), .second, .val (.long y2_0), .second, .val (.long y3_0), .second, .val (.int x4_0), .val (.ref b1), .val (.long y0_0), .second, .val (.long y1_0), .second, .val (.int (((x4_0.toUInt32 >>> ((2 : Int32) &&& 31).toUInt32).toInt32) &&& (3 : Int32))), .unset, .unset] [(.ref b261)]))
        refine own_step (fun t k => XS.astore X264.here hx rfl (hb hby at_65) rfl rfl (l' := #[.val (.long y0_0), .second, .val (.long y1_0), .second, .val (.long y2_0), .second, .val (.long y3_0), .second, .val (.int x4_0), .val (.ref b1), .val (.long y0_0), .second, .val (.long y1_0), .second, .val (.int (((x4_0.toUInt32 >>> ((2 : Int32) &&& 31).toUInt32).toInt32) &&& (3 : Int32))), .val (.ref b261), .unset]) rfl k) ?_
        show own_Ends p.tables e below s _ _ _ (T264.setTop (mkF m 67 #[.val (.long y0_0), .second, .val (.long y1_0), .second, .val (.long y2_0), .second, .val (.long y3_0), .second, .val (.int x4_0), .val (.ref b1), .val (.long y0_0), .second, .val (.long y1_0), .second, .val (.int (((x4_0.toUInt32 >>> ((2 : Int32) &&& 31).toUInt32).toInt32) &&& (3 : Int32))), .val (.ref b261), .unset] []))
        refine own_step (fun t k => XS.lload X264.here hx rfl (hb hby at_67) rfl k) ?_
        show own_Ends p.tables e below s _ _ _ (T264.setTop (mkF m 69 #[.val (.long y0_0), .second, .val (.long y1_0), .second, .val (.long y2_0), .second, .val (.long y3_0), .second, .val (.int x4_0), .val (.ref b1), .val (.long y0_0), .second, .val (.long y1_0), .second, .val (.int (((x4_0.toUInt32 >>> ((2 : Int32) &&& 31).toUInt32).toInt32) &&& (3 : Int32))), .val (.ref b261), .unset] [(.long y0_0)]))
        refine own_step (fun t k => XS.lloadN X264.here hx rfl (hb hby at_69) rfl k) ?_
        show own_Ends p.tables e below s _ _ _ (T264.setTop (mkF m 70 #[.val (.long y0_0), .second, .val (.long y1_0), .second, .val (.long y2_0), .second, .val (.long y3_0), .second, .val (.int x4_0), .val (.ref b1), .val (.long y0_0), .second, .val (.long y1_0), .second, .val (.int (((x4_0.toUInt32 >>> ((2 : Int32) &&& 31).toUInt32).toInt32) &&& (3 : Int32))), .val (.ref b261), .unset] [(.long y0_0), (.long y0_0)]))
        refine own_step (fun t k => XS.lcmp X264.here hx rfl (hb hby at_70) rfl k) ?_
        show own_Ends p.tables e below s _ _ _ (T264.setTop (mkF m 71 #[.val (.long y0_0), .second, .val (.long y1_0), .second, .val (.long y2_0), .second, .val (.long y3_0), .second, .val (.int x4_0), .val (.ref b1), .val (.long y0_0), .second, .val (.long y1_0), .second, .val (.int (((x4_0.toUInt32 >>> ((2 : Int32) &&& 31).toUInt32).toInt32) &&& (3 : Int32))), .val (.ref b261), .unset] [(.int (lcmpW y0_0 y0_0))]))
        by_cases hc71_267 : (lcmpW y0_0 y0_0) = (0 : Int32)
        · skip
          refine own_step (fun t k => XS.ifNo X264.here hx rfl (hb hby at_71) rfl ((if0 _ _).trans (teq hc71_267).2) k) ?_
          show own_Ends p.tables e below s _ _ _ (T264.setTop (mkF m 74 #[.val (.long y0_0), .second, .val (.long y1_0), .second, .val (.long y2_0), .second, .val (.long y3_0), .second, .val (.int x4_0), .val (.ref b1), .val (.long y0_0), .second, .val (.long y1_0), .second, .val (.int (((x4_0.toUInt32 >>> ((2 : Int32) &&& 31).toUInt32).toInt32) &&& (3 : Int32))), .val (.ref b261), .unset] []))
          refine own_step (fun t k => XS.lload X264.here hx rfl (hb hby at_74) rfl k) ?_
          show own_Ends p.tables e below s _ _ _ (T264.setTop (mkF m 76 #[.val (.long y0_0), .second, .val (.long y1_0), .second, .val (.long y2_0), .second, .val (.long y3_0), .second, .val (.int x4_0), .val (.ref b1), .val (.long y0_0), .second, .val (.long y1_0), .second, .val (.int (((x4_0.toUInt32 >>> ((2 : Int32) &&& 31).toUInt32).toInt32) &&& (3 : Int32))), .val (.ref b261), .unset] [(.long y1_0)]))
          refine own_step (fun t k => XS.lloadN X264.here hx rfl (hb hby at_76) rfl k) ?_
          show own_Ends p.tables e below s _ _ _ (T264.setTop (mkF m 77 #[.val (.long y0_0), .second, .val (.long y1_0), .second, .val (.long y2_0), .second, .val (.long y3_0), .second, .val (.int x4_0), .val (.ref b1), .val (.long y0_0), .second, .val (.long y1_0), .second, .val (.int (((x4_0.toUInt32 >>> ((2 : Int32) &&& 31).toUInt32).toInt32) &&& (3 : Int32))), .val (.ref b261), .unset] [(.long y1_0), (.long y1_0)]))
          refine own_step (fun t k => XS.lcmp X264.here hx rfl (hb hby at_77) rfl k) ?_
          show own_Ends p.tables e below s _ _ _ (T264.setTop (mkF m 78 #[.val (.long y0_0), .second, .val (.long y1_0), .second, .val (.long y2_0), .second, .val (.long y3_0), .second, .val (.int x4_0), .val (.ref b1), .val (.long y0_0), .second, .val (.long y1_0), .second, .val (.int (((x4_0.toUInt32 >>> ((2 : Int32) &&& 31).toUInt32).toInt32) &&& (3 : Int32))), .val (.ref b261), .unset] [(.int (lcmpW y1_0 y1_0))]))
          by_cases hc78_268 : (lcmpW y1_0 y1_0) = (0 : Int32)
          · skip
            refine own_step (fun t k => XS.ifNo X264.here hx rfl (hb hby at_78) rfl ((if0 _ _).trans (teq hc78_268).2) k) ?_
            show own_Ends p.tables e below s _ _ _ (T264.setTop (mkF m 81 #[.val (.long y0_0), .second, .val (.long y1_0), .second, .val (.long y2_0), .second, .val (.long y3_0), .second, .val (.int x4_0), .val (.ref b1), .val (.long y0_0), .second, .val (.long y1_0), .second, .val (.int (((x4_0.toUInt32 >>> ((2 : Int32) &&& 31).toUInt32).toInt32) &&& (3 : Int32))), .val (.ref b261), .unset] []))
            refine own_step (fun t k => XS.iconst X264.here hx rfl (hb hby at_81) k) ?_
            show own_Ends p.tables e below s _ _ _ (T264.setTop (mkF m 82 #[.val (.long y0_0), .second, .val (.long y1_0), .second, .val (.long y2_0), .second, .val (.long y3_0), .second, .val (.int x4_0), .val (.ref b1), .val (.long y0_0), .second, .val (.long y1_0), .second, .val (.int (((x4_0.toUInt32 >>> ((2 : Int32) &&& 31).toUInt32).toInt32) &&& (3 : Int32))), .val (.ref b261), .unset] [(.int (1 : Int32))]))
            refine own_step (fun t k => XS.goto X264.here hx rfl (pc0 := 82) (pc' := 86) rfl (hb hby at_82) (by decide) (by decide) k) ?_
            show own_Ends p.tables e below s _ _ _ (T264.setTop (mkF m 86 #[.val (.long y0_0), .second, .val (.long y1_0), .second, .val (.long y2_0), .second, .val (.long y3_0), .second, .val (.int x4_0), .val (.ref b1), .val (.long y0_0), .second, .val (.long y1_0), .second, .val (.int (((x4_0.toUInt32 >>> ((2 : Int32) &&& 31).toUInt32).toInt32) &&& (3 : Int32))), .val (.ref b261), .unset] [(.int (1 : Int32))]))
            refine own_step (fun t k => XS.istore X264.here hx rfl (hb hby at_86) rfl (l' := #[.val (.long y0_0), .second, .val (.long y1_0), .second, .val (.long y2_0), .second, .val (.long y3_0), .second, .val (.int x4_0), .val (.ref b1), .val (.long y0_0), .second, .val (.long y1_0), .second, .val (.int (((x4_0.toUInt32 >>> ((2 : Int32) &&& 31).toUInt32).toInt32) &&& (3 : Int32))), .val (.ref b261), .val (.int (1 : Int32))]) rfl k) ?_
            show own_Ends p.tables e below s _ _ _ (T264.setTop (mkF m 88 #[.val (.long y0_0), .second, .val (.long y1_0), .second, .val (.long y2_0), .second, .val (.long y3_0), .second, .val (.int x4_0), .val (.ref b1), .val (.long y0_0), .second, .val (.long y1_0), .second, .val (.int (((x4_0.toUInt32 >>> ((2 : Int32) &&& 31).toUInt32).toInt32) &&& (3 : Int32))), .val (.ref b261), .val (.int (1 : Int32))] []))
            refine own_step (fun t k => XS.aload X264.here hx rfl (hb hby at_88) rfl rfl k) ?_
            show own_Ends p.tables e below s _ _ _ (T264.setTop (mkF m 90 #[.val (.long y0_0), .second, .val (.long y1_0), .second, .val (.long y2_0), .second, .val (.long y3_0), .second, .val (.int x4_0), .val (.ref b1), .val (.long y0_0), .second, .val (.long y1_0), .second, .val (.int (((x4_0.toUInt32 >>> ((2 : Int32) &&& 31).toUInt32).toInt32) &&& (3 : Int32))), .val (.ref b261), .val (.int (1 : Int32))] [(.ref b1)]))
            refine own_step (fun t k => XS.aload X264.here hx rfl (hb hby at_90) rfl rfl k) ?_
            show own_Ends p.tables e below s _ _ _ (T264.setTop (mkF m 92 #[.val (.long y0_0), .second, .val (.long y1_0), .second, .val (.long y2_0), .second, .val (.long y3_0), .second, .val (.int x4_0), .val (.ref b1), .val (.long y0_0), .second, .val (.long y1_0), .second, .val (.int (((x4_0.toUInt32 >>> ((2 : Int32) &&& 31).toUInt32).toInt32) &&& (3 : Int32))), .val (.ref b261), .val (.int (1 : Int32))] [(.ref b261), (.ref b1)]))
            have F269 : Fld Z T264.heap b1 "com/example/swanhall/swanhall/core/Cell" "x" "J" (.long y0_0) := ((p4_1.ext E261).keep K264q (ninS ne_b1_b261 nin0))
            have F270 : Fld Z T264.heap b1 "com/example/swanhall/swanhall/core/Cell" "y" "J" (.long y1_0) := ((p4_2.ext E261).keep K264q (ninS ne_b1_b261 nin0))
            have O271 : Old Z n0 T264.heap := (O263.keep K264q (allS g_b261 all0))
            have F273 : Exa Z T264.heap b1 "com/example/swanhall/swanhall/core/Cell" := ((p4_0.ext E261).keep K264q)
            obtain ⟨cq272, kq272, q272a, q272b, q272c⟩ := isOf hZ rfl F273
            obtain ⟨_, _, ⟨T272, L272, k272, n272⟩, -, X272, ⟨Lc272, hQ272, l272, y272, z272⟩, st272⟩ := X264.virtualBack hx (y := (⟨"com/example/swanhall/swanhall/core/Cell", "equals", "(Ljava/lang/Object;)Z"⟩ : MethodName)) (z := (⟨"com/example/swanhall/swanhall/core/Cell", "equals", "(Ljava/lang/Object;)Z"⟩ : MethodName)) hown (mvT hZ (hw _ (List.mem_of_getElem? (i := 18) rfl))) (mvT hZ (hw _ (List.mem_of_getElem? (i := 19) rfl))) (notFace_of_selects (args := #[]) (mvT hZ (hw _ (List.mem_of_getElem? (i := 21) rfl)))) (mvT hZ (hw _ (List.mem_of_getElem? (i := 21) rfl))) (mvT hZ (hw _ (List.mem_of_getElem? (i := 20) rfl))) (by decide) (backOf (W := 0) (rm4 l Z a0 hw [] b1 b261 y0_0 y0_0 y1_0 y1_0 T264.heap n0 O271 p264_0 p264_1 F269 p264_2 F270) hZ (hw _ (List.mem_of_getElem? (i := 22) rfl)) (hw _ (List.mem_of_getElem? (i := 2) rfl)) (by decide) (by decide)) q272a q272c (g := (mkF m 92 #[.val (.long y0_0), .second, .val (.long y1_0), .second, .val (.long y2_0), .second, .val (.long y3_0), .second, .val (.int x4_0), .val (.ref b1), .val (.long y0_0), .second, .val (.long y1_0), .second, .val (.int (((x4_0.toUInt32 >>> ((2 : Int32) &&& 31).toUInt32).toInt32) &&& (3 : Int32))), .val (.ref b261), .val (.int (1 : Int32))] [(.ref b261), (.ref b1)])) rfl (by rw [hml]; rfl) (Steps.refl _) (argsL := [(.ref b261)]) (rest := []) (lenOf pd_3 rfl) rfl (by show 2 * 0 + _ ≤ _; exact Nat.le_of_eq rfl) (hb hby at_92) (fun _ _ => ⟨rfl, rfl, (by decide : 2 + 0 ≤ _), (by decide : 4 + 0 ≤ _)⟩)
            dsimp only [Pt.U, Pt.locs, Pt.cells, Pt.slots] at X272 l272 y272 z272 st272 hQ272
            subst y272 z272
            obtain ⟨rfl, N272q, e272⟩ := hQ272
            refine own_step (fun t k => st272.trans k) ?_
            have N274 : Fr n0 L272 := by rw [l272]; exact Fr.app N265 N272q
            show own_Ends p.tables e below s _ _ _ (T272.setTop (mkF m 95 #[.val (.long y0_0), .second, .val (.long y1_0), .second, .val (.long y2_0), .second, .val (.long y3_0), .second, .val (.int x4_0), .val (.ref b1), .val (.long y0_0), .second, .val (.long y1_0), .second, .val (.int (((x4_0.toUInt32 >>> ((2 : Int32) &&& 31).toUInt32).toInt32) &&& (3 : Int32))), .val (.ref b261), .val (.int (1 : Int32))] [(.int (own_r4 y0_0 y0_0 y1_0 y1_0))]))
            refine own_step (fun t k => XS.iload X272.here hx rfl (hb hby at_95) rfl k) ?_
            show own_Ends p.tables e below s _ _ _ (T272.setTop (mkF m 97 #[.val (.long y0_0), .second, .val (.long y1_0), .second, .val (.long y2_0), .second, .val (.long y3_0), .second, .val (.int x4_0), .val (.ref b1), .val (.long y0_0), .second, .val (.long y1_0), .second, .val (.int (((x4_0.toUInt32 >>> ((2 : Int32) &&& 31).toUInt32).toInt32) &&& (3 : Int32))), .val (.ref b261), .val (.int (1 : Int32))] [(.int (1 : Int32)), (.int (own_r4 y0_0 y0_0 y1_0 y1_0))]))
            by_cases hc97_275 : (own_r4 y0_0 y0_0 y1_0 y1_0) = (1 : Int32)
            · skip
              refine own_step (fun t k => XS.icmpNo X272.here hx rfl (hb hby at_97) rfl (teq hc97_275).2 k) ?_
              show own_Ends p.tables e below s _ _ _ (T272.setTop (mkF m 100 #[.val (.long y0_0), .second, .val (.long y1_0), .second, .val (.long y2_0), .second, .val (.long y3_0), .second, .val (.int x4_0), .val (.ref b1), .val (.long y0_0), .second, .val (.long y1_0), .second, .val (.int (((x4_0.toUInt32 >>> ((2 : Int32) &&& 31).toUInt32).toInt32) &&& (3 : Int32))), .val (.ref b261), .val (.int (1 : Int32))] []))
              refine own_step (fun t k => XS.aload X272.here hx rfl (hb hby at_100) rfl rfl k) ?_
              show own_Ends p.tables e below s _ _ _ (T272.setTop (mkF m 102 #[.val (.long y0_0), .second, .val (.long y1_0), .second, .val (.long y2_0), .second, .val (.long y3_0), .second, .val (.int x4_0), .val (.ref b1), .val (.long y0_0), .second, .val (.long y1_0), .second, .val (.int (((x4_0.toUInt32 >>> ((2 : Int32) &&& 31).toUInt32).toInt32) &&& (3 : Int32))), .val (.ref b261), .val (.int (1 : Int32))] [(.ref b261)]))
              refine own_step (fun t k => XS.aload X272.here hx rfl (hb hby at_102) rfl rfl k) ?_
              show own_Ends p.tables e below s _ _ _ (T272.setTop (mkF m 104 #[.val (.long y0_0), .second, .val (.long y1_0), .second, .val (.long y2_0), .second, .val (.long y3_0), .second, .val (.int x4_0), .val (.ref b1), .val (.long y0_0), .second, .val (.long y1_0), .second, .val (.int (((x4_0.toUInt32 >>> ((2 : Int32) &&& 31).toUInt32).toInt32) &&& (3 : Int32))), .val (.ref b261), .val (.int (1 : Int32))] [(.ref b1), (.ref b261)]))
              obtain ⟨cq276, kq276, q276a, q276b, q276c⟩ := isOf hZ e272 p264_0
              obtain ⟨_, _, ⟨T276, L276, k276, n276⟩, -, X276, ⟨Lc276, hQ276, l276, y276, z276⟩, st276⟩ := X272.virtualBack hx (y := (⟨"com/example/swanhall/swanhall/core/Cell", "equals", "(Ljava/lang/Object;)Z"⟩ : MethodName)) (z := (⟨"com/example/swanhall/swanhall/core/Cell", "equals", "(Ljava/lang/Object;)Z"⟩ : MethodName)) hown (mvT hZ (hw _ (List.mem_of_getElem? (i := 18) rfl))) (mvT hZ (hw _ (List.mem_of_getElem? (i := 19) rfl))) (notFace_of_selects (args := #[]) (mvT hZ (hw _ (List.mem_of_getElem? (i := 21) rfl)))) (mvT hZ (hw _ (List.mem_of_getElem? (i := 21) rfl))) (mvT hZ (hw _ (List.mem_of_getElem? (i := 20) rfl))) (by decide) (backOf (W := 0) (rm4 l Z a0 hw [] b261 b1 y0_0 y0_0 y1_0 y1_0 T264.heap n0 O271 F273 F269 p264_1 F270 p264_2) hZ (hw _ (List.mem_of_getElem? (i := 22) rfl)) (hw _ (List.mem_of_getElem? (i := 2) rfl)) (by decide) (by decide)) q276a q276c (g := (mkF m 104 #[.val (.long y0_0), .second, .val (.long y1_0), .second, .val (.long y2_0), .second, .val (.long y3_0), .second, .val (.int x4_0), .val (.ref b1), .val (.long y0_0), .second, .val (.long y1_0), .second, .val (.int (((x4_0.toUInt32 >>> ((2 : Int32) &&& 31).toUInt32).toInt32) &&& (3 : Int32))), .val (.ref b261), .val (.int (1 : Int32))] [(.ref b1), (.ref b261)])) rfl (by rw [hml]; rfl) (Steps.refl _) (argsL := [(.ref b1)]) (rest := []) (lenOf pd_3 rfl) rfl (by show 2 * 0 + _ ≤ _; exact Nat.le_of_eq rfl) (hb hby at_104) (fun _ _ => ⟨rfl, e272, (by decide : 2 + 0 ≤ _), (by decide : 4 + 0 ≤ _)⟩)
              dsimp only [Pt.U, Pt.locs, Pt.cells, Pt.slots] at X276 l276 y276 z276 st276 hQ276
              subst y276 z276
              obtain ⟨rfl, N276q, e276⟩ := hQ276
              refine own_step (fun t k => st276.trans k) ?_
              have N277 : Fr n0 L276 := by rw [l276]; exact Fr.app N274 N276q
              show own_Ends p.tables e below s _ _ _ (T276.setTop (mkF m 107 #[.val (.long y0_0), .second, .val (.long y1_0), .second, .val (.long y2_0), .second, .val (.long y3_0), .second, .val (.int x4_0), .val (.ref b1), .val (.long y0_0), .second, .val (.long y1_0), .second, .val (.int (((x4_0.toUInt32 >>> ((2 : Int32) &&& 31).toUInt32).toInt32) &&& (3 : Int32))), .val (.ref b261), .val (.int (1 : Int32))] [(.int (own_r4 y0_0 y0_0 y1_0 y1_0))]))
              refine own_step (fun t k => XS.iload X276.here hx rfl (hb hby at_107) rfl k) ?_
              show own_Ends p.tables e below s _ _ _ (T276.setTop (mkF m 109 #[.val (.long y0_0), .second, .val (.long y1_0), .second, .val (.long y2_0), .second, .val (.long y3_0), .second, .val (.int x4_0), .val (.ref b1), .val (.long y0_0), .second, .val (.long y1_0), .second, .val (.int (((x4_0.toUInt32 >>> ((2 : Int32) &&& 31).toUInt32).toInt32) &&& (3 : Int32))), .val (.ref b261), .val (.int (1 : Int32))] [(.int (1 : Int32)), (.int (own_r4 y0_0 y0_0 y1_0 y1_0))]))
              refine own_step (fun t k => XS.icmpNo X276.here hx rfl (hb hby at_109) rfl (teq hc97_275).2 k) ?_
              show own_Ends p.tables e below s _ _ _ (T276.setTop (mkF m 112 #[.val (.long y0_0), .second, .val (.long y1_0), .second, .val (.long y2_0), .second, .val (.long y3_0), .second, .val (.int x4_0), .val (.ref b1), .val (.long y0_0), .second, .val (.long y1_0), .second, .val (.int (((x4_0.toUInt32 >>> ((2 : Int32) &&& 31).toUInt32).toInt32) &&& (3 : Int32))), .val (.ref b261), .val (.int (1 : Int32))] []))
              refine own_step (fun t k => XS.aload X276.here hx rfl (hb hby at_112) rfl rfl k) ?_
              show own_Ends p.tables e below s _ _ _ (T276.setTop (mkF m 114 #[.val (.long y0_0), .second, .val (.long y1_0), .second, .val (.long y2_0), .second, .val (.long y3_0), .second, .val (.int x4_0), .val (.ref b1), .val (.long y0_0), .second, .val (.long y1_0), .second, .val (.int (((x4_0.toUInt32 >>> ((2 : Int32) &&& 31).toUInt32).toInt32) &&& (3 : Int32))), .val (.ref b261), .val (.int (1 : Int32))] [(.ref b1)]))
              refine own_step (fun t k => XS.aload X276.here hx rfl (hb hby at_114) rfl rfl k) ?_
              show own_Ends p.tables e below s _ _ _ (T276.setTop (mkF m 116 #[.val (.long y0_0), .second, .val (.long y1_0), .second, .val (.long y2_0), .second, .val (.long y3_0), .second, .val (.int x4_0), .val (.ref b1), .val (.long y0_0), .second, .val (.long y1_0), .second, .val (.int (((x4_0.toUInt32 >>> ((2 : Int32) &&& 31).toUInt32).toInt32) &&& (3 : Int32))), .val (.ref b261), .val (.int (1 : Int32))] [(.ref b1), (.ref b1)]))
              obtain ⟨cq278, kq278, q278a, q278b, q278c⟩ := isOf hZ e276 F273
              obtain ⟨_, _, ⟨T278, L278, k278, n278⟩, -, X278, ⟨Lc278, hQ278, l278, y278, z278⟩, st278⟩ := X276.virtualBack hx (y := (⟨"com/example/swanhall/swanhall/core/Cell", "equals", "(Ljava/lang/Object;)Z"⟩ : MethodName)) (z := (⟨"com/example/swanhall/swanhall/core/Cell", "equals", "(Ljava/lang/Object;)Z"⟩ : MethodName)) hown (mvT hZ (hw _ (List.mem_of_getElem? (i := 18) rfl))) (mvT hZ (hw _ (List.mem_of_getElem? (i := 19) rfl))) (notFace_of_selects (args := #[]) (mvT hZ (hw _ (List.mem_of_getElem? (i := 21) rfl)))) (mvT hZ (hw _ (List.mem_of_getElem? (i := 21) rfl))) (mvT hZ (hw _ (List.mem_of_getElem? (i := 20) rfl))) (by decide) (backOf (W := 0) (rm4 l Z a0 hw [] b1 b1 y0_0 y0_0 y1_0 y1_0 T264.heap n0 O271 F273 F269 F269 F270 F270) hZ (hw _ (List.mem_of_getElem? (i := 22) rfl)) (hw _ (List.mem_of_getElem? (i := 2) rfl)) (by decide) (by decide)) q278a q278c (g := (mkF m 116 #[.val (.long y0_0), .second, .val (.long y1_0), .second, .val (.long y2_0), .second, .val (.long y3_0), .second, .val (.int x4_0), .val (.ref b1), .val (.long y0_0), .second, .val (.long y1_0), .second, .val (.int (((x4_0.toUInt32 >>> ((2 : Int32) &&& 31).toUInt32).toInt32) &&& (3 : Int32))), .val (.ref b261), .val (.int (1 : Int32))] [(.ref b1), (.ref b1)])) rfl (by rw [hml]; rfl) (Steps.refl _) (argsL := [(.ref b1)]) (rest := []) (lenOf pd_3 rfl) rfl (by show 2 * 0 + _ ≤ _; exact Nat.le_of_eq rfl) (hb hby at_116) (fun _ _ => ⟨rfl, e276, (by decide : 2 + 0 ≤ _), (by decide : 4 + 0 ≤ _)⟩)
              dsimp only [Pt.U, Pt.locs, Pt.cells, Pt.slots] at X278 l278 y278 z278 st278 hQ278
              subst y278 z278
              obtain ⟨rfl, N278q, e278⟩ := hQ278
              refine own_step (fun t k => st278.trans k) ?_
              have N279 : Fr n0 L278 := by rw [l278]; exact Fr.app N277 N278q
              show own_Ends p.tables e below s _ _ _ (T278.setTop (mkF m 119 #[.val (.long y0_0), .second, .val (.long y1_0), .second, .val (.long y2_0), .second, .val (.long y3_0), .second, .val (.int x4_0), .val (.ref b1), .val (.long y0_0), .second, .val (.long y1_0), .second, .val (.int (((x4_0.toUInt32 >>> ((2 : Int32) &&& 31).toUInt32).toInt32) &&& (3 : Int32))), .val (.ref b261), .val (.int (1 : Int32))] [(.int (own_r4 y0_0 y0_0 y1_0 y1_0))]))
              by_cases hc119_280 : (own_r4 y0_0 y0_0 y1_0 y1_0) = (0 : Int32)
              · skip
                refine own_step (fun t k => XS.ifYes X278.here hx rfl (pc0 := 119) (pc' := 126) rfl (hb hby at_119) rfl ((if0 _ _).trans (teq hc119_280).1) (by decide) (by decide) k) ?_
                show own_Ends p.tables e below s _ _ _ (T278.setTop (mkF m 126 #[.val (.long y0_0), .second, .val (.long y1_0), .second, .val (.long y2_0), .second, .val (.long y3_0), .second, .val (.int x4_0), .val (.ref b1), .val (.long y0_0), .second, .val (.long y1_0), .second, .val (.int (((x4_0.toUInt32 >>> ((2 : Int32) &&& 31).toUInt32).toInt32) &&& (3 : Int32))), .val (.ref b261), .val (.int (1 : Int32))] []))
                refine own_step (fun t k => XS.iconst X278.here hx rfl (hb hby at_126) k) ?_
                show own_Ends p.tables e below s _ _ _ (T278.setTop (mkF m 127 #[.val (.long y0_0), .second, .val (.long y1_0), .second, .val (.long y2_0), .second, .val (.long y3_0), .second, .val (.int x4_0), .val (.ref b1), .val (.long y0_0), .second, .val (.long y1_0), .second, .val (.int (((x4_0.toUInt32 >>> ((2 : Int32) &&& 31).toUInt32).toInt32) &&& (3 : Int32))), .val (.ref b261), .val (.int (1 : Int32))] [(.int (0 : Int32))]))
                exfalso
                exact absurd hc119_280 (by rw [own_eq4]; simp)
              · skip
                refine own_step (fun t k => XS.ifNo X278.here hx rfl (hb hby at_119) rfl ((if0 _ _).trans (feq hc119_280).1) k) ?_
                show own_Ends p.tables e below s _ _ _ (T278.setTop (mkF m 122 #[.val (.long y0_0), .second, .val (.long y1_0), .second, .val (.long y2_0), .second, .val (.long y3_0), .second, .val (.int x4_0), .val (.ref b1), .val (.long y0_0), .second, .val (.long y1_0), .second, .val (.int (((x4_0.toUInt32 >>> ((2 : Int32) &&& 31).toUInt32).toInt32) &&& (3 : Int32))), .val (.ref b261), .val (.int (1 : Int32))] []))
                refine own_step (fun t k => XS.iconst X278.here hx rfl (hb hby at_122) k) ?_
                show own_Ends p.tables e below s _ _ _ (T278.setTop (mkF m 123 #[.val (.long y0_0), .second, .val (.long y1_0), .second, .val (.long y2_0), .second, .val (.long y3_0), .second, .val (.int x4_0), .val (.ref b1), .val (.long y0_0), .second, .val (.long y1_0), .second, .val (.int (((x4_0.toUInt32 >>> ((2 : Int32) &&& 31).toUInt32).toInt32) &&& (3 : Int32))), .val (.ref b261), .val (.int (1 : Int32))] [(.int (1 : Int32))]))
                refine own_step (fun t k => XS.goto X278.here hx rfl (pc0 := 123) (pc' := 127) rfl (hb hby at_123) (by decide) (by decide) k) ?_
                show own_Ends p.tables e below s _ _ _ (T278.setTop (mkF m 127 #[.val (.long y0_0), .second, .val (.long y1_0), .second, .val (.long y2_0), .second, .val (.long y3_0), .second, .val (.int x4_0), .val (.ref b1), .val (.long y0_0), .second, .val (.long y1_0), .second, .val (.int (((x4_0.toUInt32 >>> ((2 : Int32) &&& 31).toUInt32).toInt32) &&& (3 : Int32))), .val (.ref b261), .val (.int (1 : Int32))] [(.int (1 : Int32))]))
                exact own_retN X278 hx (t := .boolean) Bd.returns (by simp) (hb hby at_127) hnl (by rw [e278]; exact ⟨rfl, N279⟩) (by decide) (by decide)
            · skip
              refine own_step (fun t k => XS.icmpYes X272.here hx rfl (pc0 := 97) (pc' := 126) rfl (hb hby at_97) rfl (feq hc97_275).2 (by decide) (by decide) k) ?_
              show own_Ends p.tables e below s _ _ _ (T272.setTop (mkF m 126 #[.val (.long y0_0), .second, .val (.long y1_0), .second, .val (.long y2_0), .second, .val (.long y3_0), .second, .val (.int x4_0), .val (.ref b1), .val (.long y0_0), .second, .val (.long y1_0), .second, .val (.int (((x4_0.toUInt32 >>> ((2 : Int32) &&& 31).toUInt32).toInt32) &&& (3 : Int32))), .val (.ref b261), .val (.int (1 : Int32))] []))
              refine own_step (fun t k => XS.iconst X272.here hx rfl (hb hby at_126) k) ?_
              show own_Ends p.tables e below s _ _ _ (T272.setTop (mkF m 127 #[.val (.long y0_0), .second, .val (.long y1_0), .second, .val (.long y2_0), .second, .val (.long y3_0), .second, .val (.int x4_0), .val (.ref b1), .val (.long y0_0), .second, .val (.long y1_0), .second, .val (.int (((x4_0.toUInt32 >>> ((2 : Int32) &&& 31).toUInt32).toInt32) &&& (3 : Int32))), .val (.ref b261), .val (.int (1 : Int32))] [(.int (0 : Int32))]))
              exfalso
              exact hc97_275 (by rw [own_eq4]; simp)
          · skip
            refine own_step (fun t k => XS.ifYes X264.here hx rfl (pc0 := 78) (pc' := 85) rfl (hb hby at_78) rfl ((if0 _ _).trans (feq hc78_268).2) (by decide) (by decide) k) ?_
            show own_Ends p.tables e below s _ _ _ (T264.setTop (mkF m 85 #[.val (.long y0_0), .second, .val (.long y1_0), .second, .val (.long y2_0), .second, .val (.long y3_0), .second, .val (.int x4_0), .val (.ref b1), .val (.long y0_0), .second, .val (.long y1_0), .second, .val (.int (((x4_0.toUInt32 >>> ((2 : Int32) &&& 31).toUInt32).toInt32) &&& (3 : Int32))), .val (.ref b261), .unset] []))
            refine own_step (fun t k => XS.iconst X264.here hx rfl (hb hby at_85) k) ?_
            show own_Ends p.tables e below s _ _ _ (T264.setTop (mkF m 86 #[.val (.long y0_0), .second, .val (.long y1_0), .second, .val (.long y2_0), .second, .val (.long y3_0), .second, .val (.int x4_0), .val (.ref b1), .val (.long y0_0), .second, .val (.long y1_0), .second, .val (.int (((x4_0.toUInt32 >>> ((2 : Int32) &&& 31).toUInt32).toInt32) &&& (3 : Int32))), .val (.ref b261), .unset] [(.int (0 : Int32))]))
            refine own_step (fun t k => XS.istore X264.here hx rfl (hb hby at_86) rfl (l' := #[.val (.long y0_0), .second, .val (.long y1_0), .second, .val (.long y2_0), .second, .val (.long y3_0), .second, .val (.int x4_0), .val (.ref b1), .val (.long y0_0), .second, .val (.long y1_0), .second, .val (.int (((x4_0.toUInt32 >>> ((2 : Int32) &&& 31).toUInt32).toInt32) &&& (3 : Int32))), .val (.ref b261), .val (.int (0 : Int32))]) rfl k) ?_
            show own_Ends p.tables e below s _ _ _ (T264.setTop (mkF m 88 #[.val (.long y0_0), .second, .val (.long y1_0), .second, .val (.long y2_0), .second, .val (.long y3_0), .second, .val (.int x4_0), .val (.ref b1), .val (.long y0_0), .second, .val (.long y1_0), .second, .val (.int (((x4_0.toUInt32 >>> ((2 : Int32) &&& 31).toUInt32).toInt32) &&& (3 : Int32))), .val (.ref b261), .val (.int (0 : Int32))] []))
            refine own_step (fun t k => XS.aload X264.here hx rfl (hb hby at_88) rfl rfl k) ?_
            show own_Ends p.tables e below s _ _ _ (T264.setTop (mkF m 90 #[.val (.long y0_0), .second, .val (.long y1_0), .second, .val (.long y2_0), .second, .val (.long y3_0), .second, .val (.int x4_0), .val (.ref b1), .val (.long y0_0), .second, .val (.long y1_0), .second, .val (.int (((x4_0.toUInt32 >>> ((2 : Int32) &&& 31).toUInt32).toInt32) &&& (3 : Int32))), .val (.ref b261), .val (.int (0 : Int32))] [(.ref b1)]))
            refine own_step (fun t k => XS.aload X264.here hx rfl (hb hby at_90) rfl rfl k) ?_
            show own_Ends p.tables e below s _ _ _ (T264.setTop (mkF m 92 #[.val (.long y0_0), .second, .val (.long y1_0), .second, .val (.long y2_0), .second, .val (.long y3_0), .second, .val (.int x4_0), .val (.ref b1), .val (.long y0_0), .second, .val (.long y1_0), .second, .val (.int (((x4_0.toUInt32 >>> ((2 : Int32) &&& 31).toUInt32).toInt32) &&& (3 : Int32))), .val (.ref b261), .val (.int (0 : Int32))] [(.ref b261), (.ref b1)]))
            have F281 : Fld Z T264.heap b1 "com/example/swanhall/swanhall/core/Cell" "x" "J" (.long y0_0) := ((p4_1.ext E261).keep K264q (ninS ne_b1_b261 nin0))
            have F282 : Fld Z T264.heap b1 "com/example/swanhall/swanhall/core/Cell" "y" "J" (.long y1_0) := ((p4_2.ext E261).keep K264q (ninS ne_b1_b261 nin0))
            have O283 : Old Z n0 T264.heap := (O263.keep K264q (allS g_b261 all0))
            have F285 : Exa Z T264.heap b1 "com/example/swanhall/swanhall/core/Cell" := ((p4_0.ext E261).keep K264q)
            obtain ⟨cq284, kq284, q284a, q284b, q284c⟩ := isOf hZ rfl F285
            obtain ⟨_, _, ⟨T284, L284, k284, n284⟩, -, X284, ⟨Lc284, hQ284, l284, y284, z284⟩, st284⟩ := X264.virtualBack hx (y := (⟨"com/example/swanhall/swanhall/core/Cell", "equals", "(Ljava/lang/Object;)Z"⟩ : MethodName)) (z := (⟨"com/example/swanhall/swanhall/core/Cell", "equals", "(Ljava/lang/Object;)Z"⟩ : MethodName)) hown (mvT hZ (hw _ (List.mem_of_getElem? (i := 18) rfl))) (mvT hZ (hw _ (List.mem_of_getElem? (i := 19) rfl))) (notFace_of_selects (args := #[]) (mvT hZ (hw _ (List.mem_of_getElem? (i := 21) rfl)))) (mvT hZ (hw _ (List.mem_of_getElem? (i := 21) rfl))) (mvT hZ (hw _ (List.mem_of_getElem? (i := 20) rfl))) (by decide) (backOf (W := 0) (rm4 l Z a0 hw [] b1 b261 y0_0 y0_0 y1_0 y1_0 T264.heap n0 O283 p264_0 p264_1 F281 p264_2 F282) hZ (hw _ (List.mem_of_getElem? (i := 22) rfl)) (hw _ (List.mem_of_getElem? (i := 2) rfl)) (by decide) (by decide)) q284a q284c (g := (mkF m 92 #[.val (.long y0_0), .second, .val (.long y1_0), .second, .val (.long y2_0), .second, .val (.long y3_0), .second, .val (.int x4_0), .val (.ref b1), .val (.long y0_0), .second, .val (.long y1_0), .second, .val (.int (((x4_0.toUInt32 >>> ((2 : Int32) &&& 31).toUInt32).toInt32) &&& (3 : Int32))), .val (.ref b261), .val (.int (0 : Int32))] [(.ref b261), (.ref b1)])) rfl (by rw [hml]; rfl) (Steps.refl _) (argsL := [(.ref b261)]) (rest := []) (lenOf pd_3 rfl) rfl (by show 2 * 0 + _ ≤ _; exact Nat.le_of_eq rfl) (hb hby at_92) (fun _ _ => ⟨rfl, rfl, (by decide : 2 + 0 ≤ _), (by decide : 4 + 0 ≤ _)⟩)
            dsimp only [Pt.U, Pt.locs, Pt.cells, Pt.slots] at X284 l284 y284 z284 st284 hQ284
            subst y284 z284
            obtain ⟨rfl, N284q, e284⟩ := hQ284
            refine own_step (fun t k => st284.trans k) ?_
            have N286 : Fr n0 L284 := by rw [l284]; exact Fr.app N265 N284q
            show own_Ends p.tables e below s _ _ _ (T284.setTop (mkF m 95 #[.val (.long y0_0), .second, .val (.long y1_0), .second, .val (.long y2_0), .second, .val (.long y3_0), .second, .val (.int x4_0), .val (.ref b1), .val (.long y0_0), .second, .val (.long y1_0), .second, .val (.int (((x4_0.toUInt32 >>> ((2 : Int32) &&& 31).toUInt32).toInt32) &&& (3 : Int32))), .val (.ref b261), .val (.int (0 : Int32))] [(.int (own_r4 y0_0 y0_0 y1_0 y1_0))]))
            refine own_step (fun t k => XS.iload X284.here hx rfl (hb hby at_95) rfl k) ?_
            show own_Ends p.tables e below s _ _ _ (T284.setTop (mkF m 97 #[.val (.long y0_0), .second, .val (.long y1_0), .second, .val (.long y2_0), .second, .val (.long y3_0), .second, .val (.int x4_0), .val (.ref b1), .val (.long y0_0), .second, .val (.long y1_0), .second, .val (.int (((x4_0.toUInt32 >>> ((2 : Int32) &&& 31).toUInt32).toInt32) &&& (3 : Int32))), .val (.ref b261), .val (.int (0 : Int32))] [(.int (0 : Int32)), (.int (own_r4 y0_0 y0_0 y1_0 y1_0))]))
            by_cases hc97_287 : (own_r4 y0_0 y0_0 y1_0 y1_0) = (0 : Int32)
            · skip
              refine own_step (fun t k => XS.icmpNo X284.here hx rfl (hb hby at_97) rfl (teq hc97_287).2 k) ?_
              show own_Ends p.tables e below s _ _ _ (T284.setTop (mkF m 100 #[.val (.long y0_0), .second, .val (.long y1_0), .second, .val (.long y2_0), .second, .val (.long y3_0), .second, .val (.int x4_0), .val (.ref b1), .val (.long y0_0), .second, .val (.long y1_0), .second, .val (.int (((x4_0.toUInt32 >>> ((2 : Int32) &&& 31).toUInt32).toInt32) &&& (3 : Int32))), .val (.ref b261), .val (.int (0 : Int32))] []))
              refine own_step (fun t k => XS.aload X284.here hx rfl (hb hby at_100) rfl rfl k) ?_
              show own_Ends p.tables e below s _ _ _ (T284.setTop (mkF m 102 #[.val (.long y0_0), .second, .val (.long y1_0), .second, .val (.long y2_0), .second, .val (.long y3_0), .second, .val (.int x4_0), .val (.ref b1), .val (.long y0_0), .second, .val (.long y1_0), .second, .val (.int (((x4_0.toUInt32 >>> ((2 : Int32) &&& 31).toUInt32).toInt32) &&& (3 : Int32))), .val (.ref b261), .val (.int (0 : Int32))] [(.ref b261)]))
              refine own_step (fun t k => XS.aload X284.here hx rfl (hb hby at_102) rfl rfl k) ?_
              show own_Ends p.tables e below s _ _ _ (T284.setTop (mkF m 104 #[.val (.long y0_0), .second, .val (.long y1_0), .second, .val (.long y2_0), .second, .val (.long y3_0), .second, .val (.int x4_0), .val (.ref b1), .val (.long y0_0), .second, .val (.long y1_0), .second, .val (.int (((x4_0.toUInt32 >>> ((2 : Int32) &&& 31).toUInt32).toInt32) &&& (3 : Int32))), .val (.ref b261), .val (.int (0 : Int32))] [(.ref b1), (.ref b261)]))
              obtain ⟨cq288, kq288, q288a, q288b, q288c⟩ := isOf hZ e284 p264_0
              obtain ⟨_, _, ⟨T288, L288, k288, n288⟩, -, X288, ⟨Lc288, hQ288, l288, y288, z288⟩, st288⟩ := X284.virtualBack hx (y := (⟨"com/example/swanhall/swanhall/core/Cell", "equals", "(Ljava/lang/Object;)Z"⟩ : MethodName)) (z := (⟨"com/example/swanhall/swanhall/core/Cell", "equals", "(Ljava/lang/Object;)Z"⟩ : MethodName)) hown (mvT hZ (hw _ (List.mem_of_getElem? (i := 18) rfl))) (mvT hZ (hw _ (List.mem_of_getElem? (i := 19) rfl))) (notFace_of_selects (args := #[]) (mvT hZ (hw _ (List.mem_of_getElem? (i := 21) rfl)))) (mvT hZ (hw _ (List.mem_of_getElem? (i := 21) rfl))) (mvT hZ (hw _ (List.mem_of_getElem? (i := 20) rfl))) (by decide) (backOf (W := 0) (rm4 l Z a0 hw [] b261 b1 y0_0 y0_0 y1_0 y1_0 T264.heap n0 O283 F285 F281 p264_1 F282 p264_2) hZ (hw _ (List.mem_of_getElem? (i := 22) rfl)) (hw _ (List.mem_of_getElem? (i := 2) rfl)) (by decide) (by decide)) q288a q288c (g := (mkF m 104 #[.val (.long y0_0), .second, .val (.long y1_0), .second, .val (.long y2_0), .second, .val (.long y3_0), .second, .val (.int x4_0), .val (.ref b1), .val (.long y0_0), .second, .val (.long y1_0), .second, .val (.int (((x4_0.toUInt32 >>> ((2 : Int32) &&& 31).toUInt32).toInt32) &&& (3 : Int32))), .val (.ref b261), .val (.int (0 : Int32))] [(.ref b1), (.ref b261)])) rfl (by rw [hml]; rfl) (Steps.refl _) (argsL := [(.ref b1)]) (rest := []) (lenOf pd_3 rfl) rfl (by show 2 * 0 + _ ≤ _; exact Nat.le_of_eq rfl) (hb hby at_104) (fun _ _ => ⟨rfl, e284, (by decide : 2 + 0 ≤ _), (by decide : 4 + 0 ≤ _)⟩)
              dsimp only [Pt.U, Pt.locs, Pt.cells, Pt.slots] at X288 l288 y288 z288 st288 hQ288
              subst y288 z288
              obtain ⟨rfl, N288q, e288⟩ := hQ288
              refine own_step (fun t k => st288.trans k) ?_
              have N289 : Fr n0 L288 := by rw [l288]; exact Fr.app N286 N288q
              show own_Ends p.tables e below s _ _ _ (T288.setTop (mkF m 107 #[.val (.long y0_0), .second, .val (.long y1_0), .second, .val (.long y2_0), .second, .val (.long y3_0), .second, .val (.int x4_0), .val (.ref b1), .val (.long y0_0), .second, .val (.long y1_0), .second, .val (.int (((x4_0.toUInt32 >>> ((2 : Int32) &&& 31).toUInt32).toInt32) &&& (3 : Int32))), .val (.ref b261), .val (.int (0 : Int32))] [(.int (own_r4 y0_0 y0_0 y1_0 y1_0))]))
              refine own_step (fun t k => XS.iload X288.here hx rfl (hb hby at_107) rfl k) ?_
              show own_Ends p.tables e below s _ _ _ (T288.setTop (mkF m 109 #[.val (.long y0_0), .second, .val (.long y1_0), .second, .val (.long y2_0), .second, .val (.long y3_0), .second, .val (.int x4_0), .val (.ref b1), .val (.long y0_0), .second, .val (.long y1_0), .second, .val (.int (((x4_0.toUInt32 >>> ((2 : Int32) &&& 31).toUInt32).toInt32) &&& (3 : Int32))), .val (.ref b261), .val (.int (0 : Int32))] [(.int (0 : Int32)), (.int (own_r4 y0_0 y0_0 y1_0 y1_0))]))
              refine own_step (fun t k => XS.icmpNo X288.here hx rfl (hb hby at_109) rfl (teq hc97_287).2 k) ?_
              show own_Ends p.tables e below s _ _ _ (T288.setTop (mkF m 112 #[.val (.long y0_0), .second, .val (.long y1_0), .second, .val (.long y2_0), .second, .val (.long y3_0), .second, .val (.int x4_0), .val (.ref b1), .val (.long y0_0), .second, .val (.long y1_0), .second, .val (.int (((x4_0.toUInt32 >>> ((2 : Int32) &&& 31).toUInt32).toInt32) &&& (3 : Int32))), .val (.ref b261), .val (.int (0 : Int32))] []))
              refine own_step (fun t k => XS.aload X288.here hx rfl (hb hby at_112) rfl rfl k) ?_
              show own_Ends p.tables e below s _ _ _ (T288.setTop (mkF m 114 #[.val (.long y0_0), .second, .val (.long y1_0), .second, .val (.long y2_0), .second, .val (.long y3_0), .second, .val (.int x4_0), .val (.ref b1), .val (.long y0_0), .second, .val (.long y1_0), .second, .val (.int (((x4_0.toUInt32 >>> ((2 : Int32) &&& 31).toUInt32).toInt32) &&& (3 : Int32))), .val (.ref b261), .val (.int (0 : Int32))] [(.ref b1)]))
              refine own_step (fun t k => XS.aload X288.here hx rfl (hb hby at_114) rfl rfl k) ?_
              show own_Ends p.tables e below s _ _ _ (T288.setTop (mkF m 116 #[.val (.long y0_0), .second, .val (.long y1_0), .second, .val (.long y2_0), .second, .val (.long y3_0), .second, .val (.int x4_0), .val (.ref b1), .val (.long y0_0), .second, .val (.long y1_0), .second, .val (.int (((x4_0.toUInt32 >>> ((2 : Int32) &&& 31).toUInt32).toInt32) &&& (3 : Int32))), .val (.ref b261), .val (.int (0 : Int32))] [(.ref b1), (.ref b1)]))
              obtain ⟨cq290, kq290, q290a, q290b, q290c⟩ := isOf hZ e288 F285
              obtain ⟨_, _, ⟨T290, L290, k290, n290⟩, -, X290, ⟨Lc290, hQ290, l290, y290, z290⟩, st290⟩ := X288.virtualBack hx (y := (⟨"com/example/swanhall/swanhall/core/Cell", "equals", "(Ljava/lang/Object;)Z"⟩ : MethodName)) (z := (⟨"com/example/swanhall/swanhall/core/Cell", "equals", "(Ljava/lang/Object;)Z"⟩ : MethodName)) hown (mvT hZ (hw _ (List.mem_of_getElem? (i := 18) rfl))) (mvT hZ (hw _ (List.mem_of_getElem? (i := 19) rfl))) (notFace_of_selects (args := #[]) (mvT hZ (hw _ (List.mem_of_getElem? (i := 21) rfl)))) (mvT hZ (hw _ (List.mem_of_getElem? (i := 21) rfl))) (mvT hZ (hw _ (List.mem_of_getElem? (i := 20) rfl))) (by decide) (backOf (W := 0) (rm4 l Z a0 hw [] b1 b1 y0_0 y0_0 y1_0 y1_0 T264.heap n0 O283 F285 F281 F281 F282 F282) hZ (hw _ (List.mem_of_getElem? (i := 22) rfl)) (hw _ (List.mem_of_getElem? (i := 2) rfl)) (by decide) (by decide)) q290a q290c (g := (mkF m 116 #[.val (.long y0_0), .second, .val (.long y1_0), .second, .val (.long y2_0), .second, .val (.long y3_0), .second, .val (.int x4_0), .val (.ref b1), .val (.long y0_0), .second, .val (.long y1_0), .second, .val (.int (((x4_0.toUInt32 >>> ((2 : Int32) &&& 31).toUInt32).toInt32) &&& (3 : Int32))), .val (.ref b261), .val (.int (0 : Int32))] [(.ref b1), (.ref b1)])) rfl (by rw [hml]; rfl) (Steps.refl _) (argsL := [(.ref b1)]) (rest := []) (lenOf pd_3 rfl) rfl (by show 2 * 0 + _ ≤ _; exact Nat.le_of_eq rfl) (hb hby at_116) (fun _ _ => ⟨rfl, e288, (by decide : 2 + 0 ≤ _), (by decide : 4 + 0 ≤ _)⟩)
              dsimp only [Pt.U, Pt.locs, Pt.cells, Pt.slots] at X290 l290 y290 z290 st290 hQ290
              subst y290 z290
              obtain ⟨rfl, N290q, e290⟩ := hQ290
              refine own_step (fun t k => st290.trans k) ?_
              have N291 : Fr n0 L290 := by rw [l290]; exact Fr.app N289 N290q
              show own_Ends p.tables e below s _ _ _ (T290.setTop (mkF m 119 #[.val (.long y0_0), .second, .val (.long y1_0), .second, .val (.long y2_0), .second, .val (.long y3_0), .second, .val (.int x4_0), .val (.ref b1), .val (.long y0_0), .second, .val (.long y1_0), .second, .val (.int (((x4_0.toUInt32 >>> ((2 : Int32) &&& 31).toUInt32).toInt32) &&& (3 : Int32))), .val (.ref b261), .val (.int (0 : Int32))] [(.int (own_r4 y0_0 y0_0 y1_0 y1_0))]))
              refine own_step (fun t k => XS.ifYes X290.here hx rfl (pc0 := 119) (pc' := 126) rfl (hb hby at_119) rfl ((if0 _ _).trans (teq hc97_287).1) (by decide) (by decide) k) ?_
              show own_Ends p.tables e below s _ _ _ (T290.setTop (mkF m 126 #[.val (.long y0_0), .second, .val (.long y1_0), .second, .val (.long y2_0), .second, .val (.long y3_0), .second, .val (.int x4_0), .val (.ref b1), .val (.long y0_0), .second, .val (.long y1_0), .second, .val (.int (((x4_0.toUInt32 >>> ((2 : Int32) &&& 31).toUInt32).toInt32) &&& (3 : Int32))), .val (.ref b261), .val (.int (0 : Int32))] []))
              refine own_step (fun t k => XS.iconst X290.here hx rfl (hb hby at_126) k) ?_
              show own_Ends p.tables e below s _ _ _ (T290.setTop (mkF m 127 #[.val (.long y0_0), .second, .val (.long y1_0), .second, .val (.long y2_0), .second, .val (.long y3_0), .second, .val (.int x4_0), .val (.ref b1), .val (.long y0_0), .second, .val (.long y1_0), .second, .val (.int (((x4_0.toUInt32 >>> ((2 : Int32) &&& 31).toUInt32).toInt32) &&& (3 : Int32))), .val (.ref b261), .val (.int (0 : Int32))] [(.int (0 : Int32))]))
              exfalso
              exact absurd hc97_287 (by rw [own_eq4]; simp)
            · skip
              refine own_step (fun t k => XS.icmpYes X284.here hx rfl (pc0 := 97) (pc' := 126) rfl (hb hby at_97) rfl (feq hc97_287).2 (by decide) (by decide) k) ?_
              show own_Ends p.tables e below s _ _ _ (T284.setTop (mkF m 126 #[.val (.long y0_0), .second, .val (.long y1_0), .second, .val (.long y2_0), .second, .val (.long y3_0), .second, .val (.int x4_0), .val (.ref b1), .val (.long y0_0), .second, .val (.long y1_0), .second, .val (.int (((x4_0.toUInt32 >>> ((2 : Int32) &&& 31).toUInt32).toInt32) &&& (3 : Int32))), .val (.ref b261), .val (.int (0 : Int32))] []))
              refine own_step (fun t k => XS.iconst X284.here hx rfl (hb hby at_126) k) ?_
              show own_Ends p.tables e below s _ _ _ (T284.setTop (mkF m 127 #[.val (.long y0_0), .second, .val (.long y1_0), .second, .val (.long y2_0), .second, .val (.long y3_0), .second, .val (.int x4_0), .val (.ref b1), .val (.long y0_0), .second, .val (.long y1_0), .second, .val (.int (((x4_0.toUInt32 >>> ((2 : Int32) &&& 31).toUInt32).toInt32) &&& (3 : Int32))), .val (.ref b261), .val (.int (0 : Int32))] [(.int (0 : Int32))]))
              exfalso
              exact hc78_268 ((own_lc _ _).mpr rfl)
        · skip
          refine own_step (fun t k => XS.ifYes X264.here hx rfl (pc0 := 71) (pc' := 85) rfl (hb hby at_71) rfl ((if0 _ _).trans (feq hc71_267).2) (by decide) (by decide) k) ?_
          show own_Ends p.tables e below s _ _ _ (T264.setTop (mkF m 85 #[.val (.long y0_0), .second, .val (.long y1_0), .second, .val (.long y2_0), .second, .val (.long y3_0), .second, .val (.int x4_0), .val (.ref b1), .val (.long y0_0), .second, .val (.long y1_0), .second, .val (.int (((x4_0.toUInt32 >>> ((2 : Int32) &&& 31).toUInt32).toInt32) &&& (3 : Int32))), .val (.ref b261), .unset] []))
          refine own_step (fun t k => XS.iconst X264.here hx rfl (hb hby at_85) k) ?_
          show own_Ends p.tables e below s _ _ _ (T264.setTop (mkF m 86 #[.val (.long y0_0), .second, .val (.long y1_0), .second, .val (.long y2_0), .second, .val (.long y3_0), .second, .val (.int x4_0), .val (.ref b1), .val (.long y0_0), .second, .val (.long y1_0), .second, .val (.int (((x4_0.toUInt32 >>> ((2 : Int32) &&& 31).toUInt32).toInt32) &&& (3 : Int32))), .val (.ref b261), .unset] [(.int (0 : Int32))]))
          refine own_step (fun t k => XS.istore X264.here hx rfl (hb hby at_86) rfl (l' := #[.val (.long y0_0), .second, .val (.long y1_0), .second, .val (.long y2_0), .second, .val (.long y3_0), .second, .val (.int x4_0), .val (.ref b1), .val (.long y0_0), .second, .val (.long y1_0), .second, .val (.int (((x4_0.toUInt32 >>> ((2 : Int32) &&& 31).toUInt32).toInt32) &&& (3 : Int32))), .val (.ref b261), .val (.int (0 : Int32))]) rfl k) ?_
          show own_Ends p.tables e below s _ _ _ (T264.setTop (mkF m 88 #[.val (.long y0_0), .second, .val (.long y1_0), .second, .val (.long y2_0), .second, .val (.long y3_0), .second, .val (.int x4_0), .val (.ref b1), .val (.long y0_0), .second, .val (.long y1_0), .second, .val (.int (((x4_0.toUInt32 >>> ((2 : Int32) &&& 31).toUInt32).toInt32) &&& (3 : Int32))), .val (.ref b261), .val (.int (0 : Int32))] []))
          refine own_step (fun t k => XS.aload X264.here hx rfl (hb hby at_88) rfl rfl k) ?_
          show own_Ends p.tables e below s _ _ _ (T264.setTop (mkF m 90 #[.val (.long y0_0), .second, .val (.long y1_0), .second, .val (.long y2_0), .second, .val (.long y3_0), .second, .val (.int x4_0), .val (.ref b1), .val (.long y0_0), .second, .val (.long y1_0), .second, .val (.int (((x4_0.toUInt32 >>> ((2 : Int32) &&& 31).toUInt32).toInt32) &&& (3 : Int32))), .val (.ref b261), .val (.int (0 : Int32))] [(.ref b1)]))
          refine own_step (fun t k => XS.aload X264.here hx rfl (hb hby at_90) rfl rfl k) ?_
          show own_Ends p.tables e below s _ _ _ (T264.setTop (mkF m 92 #[.val (.long y0_0), .second, .val (.long y1_0), .second, .val (.long y2_0), .second, .val (.long y3_0), .second, .val (.int x4_0), .val (.ref b1), .val (.long y0_0), .second, .val (.long y1_0), .second, .val (.int (((x4_0.toUInt32 >>> ((2 : Int32) &&& 31).toUInt32).toInt32) &&& (3 : Int32))), .val (.ref b261), .val (.int (0 : Int32))] [(.ref b261), (.ref b1)]))
          have F292 : Fld Z T264.heap b1 "com/example/swanhall/swanhall/core/Cell" "x" "J" (.long y0_0) := ((p4_1.ext E261).keep K264q (ninS ne_b1_b261 nin0))
          have F293 : Fld Z T264.heap b1 "com/example/swanhall/swanhall/core/Cell" "y" "J" (.long y1_0) := ((p4_2.ext E261).keep K264q (ninS ne_b1_b261 nin0))
          have O294 : Old Z n0 T264.heap := (O263.keep K264q (allS g_b261 all0))
          have F296 : Exa Z T264.heap b1 "com/example/swanhall/swanhall/core/Cell" := ((p4_0.ext E261).keep K264q)
          obtain ⟨cq295, kq295, q295a, q295b, q295c⟩ := isOf hZ rfl F296
          obtain ⟨_, _, ⟨T295, L295, k295, n295⟩, -, X295, ⟨Lc295, hQ295, l295, y295, z295⟩, st295⟩ := X264.virtualBack hx (y := (⟨"com/example/swanhall/swanhall/core/Cell", "equals", "(Ljava/lang/Object;)Z"⟩ : MethodName)) (z := (⟨"com/example/swanhall/swanhall/core/Cell", "equals", "(Ljava/lang/Object;)Z"⟩ : MethodName)) hown (mvT hZ (hw _ (List.mem_of_getElem? (i := 18) rfl))) (mvT hZ (hw _ (List.mem_of_getElem? (i := 19) rfl))) (notFace_of_selects (args := #[]) (mvT hZ (hw _ (List.mem_of_getElem? (i := 21) rfl)))) (mvT hZ (hw _ (List.mem_of_getElem? (i := 21) rfl))) (mvT hZ (hw _ (List.mem_of_getElem? (i := 20) rfl))) (by decide) (backOf (W := 0) (rm4 l Z a0 hw [] b1 b261 y0_0 y0_0 y1_0 y1_0 T264.heap n0 O294 p264_0 p264_1 F292 p264_2 F293) hZ (hw _ (List.mem_of_getElem? (i := 22) rfl)) (hw _ (List.mem_of_getElem? (i := 2) rfl)) (by decide) (by decide)) q295a q295c (g := (mkF m 92 #[.val (.long y0_0), .second, .val (.long y1_0), .second, .val (.long y2_0), .second, .val (.long y3_0), .second, .val (.int x4_0), .val (.ref b1), .val (.long y0_0), .second, .val (.long y1_0), .second, .val (.int (((x4_0.toUInt32 >>> ((2 : Int32) &&& 31).toUInt32).toInt32) &&& (3 : Int32))), .val (.ref b261), .val (.int (0 : Int32))] [(.ref b261), (.ref b1)])) rfl (by rw [hml]; rfl) (Steps.refl _) (argsL := [(.ref b261)]) (rest := []) (lenOf pd_3 rfl) rfl (by show 2 * 0 + _ ≤ _; exact Nat.le_of_eq rfl) (hb hby at_92) (fun _ _ => ⟨rfl, rfl, (by decide : 2 + 0 ≤ _), (by decide : 4 + 0 ≤ _)⟩)
          dsimp only [Pt.U, Pt.locs, Pt.cells, Pt.slots] at X295 l295 y295 z295 st295 hQ295
          subst y295 z295
          obtain ⟨rfl, N295q, e295⟩ := hQ295
          refine own_step (fun t k => st295.trans k) ?_
          have N297 : Fr n0 L295 := by rw [l295]; exact Fr.app N265 N295q
          show own_Ends p.tables e below s _ _ _ (T295.setTop (mkF m 95 #[.val (.long y0_0), .second, .val (.long y1_0), .second, .val (.long y2_0), .second, .val (.long y3_0), .second, .val (.int x4_0), .val (.ref b1), .val (.long y0_0), .second, .val (.long y1_0), .second, .val (.int (((x4_0.toUInt32 >>> ((2 : Int32) &&& 31).toUInt32).toInt32) &&& (3 : Int32))), .val (.ref b261), .val (.int (0 : Int32))] [(.int (own_r4 y0_0 y0_0 y1_0 y1_0))]))
          refine own_step (fun t k => XS.iload X295.here hx rfl (hb hby at_95) rfl k) ?_
          show own_Ends p.tables e below s _ _ _ (T295.setTop (mkF m 97 #[.val (.long y0_0), .second, .val (.long y1_0), .second, .val (.long y2_0), .second, .val (.long y3_0), .second, .val (.int x4_0), .val (.ref b1), .val (.long y0_0), .second, .val (.long y1_0), .second, .val (.int (((x4_0.toUInt32 >>> ((2 : Int32) &&& 31).toUInt32).toInt32) &&& (3 : Int32))), .val (.ref b261), .val (.int (0 : Int32))] [(.int (0 : Int32)), (.int (own_r4 y0_0 y0_0 y1_0 y1_0))]))
          by_cases hc97_298 : (own_r4 y0_0 y0_0 y1_0 y1_0) = (0 : Int32)
          · skip
            refine own_step (fun t k => XS.icmpNo X295.here hx rfl (hb hby at_97) rfl (teq hc97_298).2 k) ?_
            show own_Ends p.tables e below s _ _ _ (T295.setTop (mkF m 100 #[.val (.long y0_0), .second, .val (.long y1_0), .second, .val (.long y2_0), .second, .val (.long y3_0), .second, .val (.int x4_0), .val (.ref b1), .val (.long y0_0), .second, .val (.long y1_0), .second, .val (.int (((x4_0.toUInt32 >>> ((2 : Int32) &&& 31).toUInt32).toInt32) &&& (3 : Int32))), .val (.ref b261), .val (.int (0 : Int32))] []))
            refine own_step (fun t k => XS.aload X295.here hx rfl (hb hby at_100) rfl rfl k) ?_
            show own_Ends p.tables e below s _ _ _ (T295.setTop (mkF m 102 #[.val (.long y0_0), .second, .val (.long y1_0), .second, .val (.long y2_0), .second, .val (.long y3_0), .second, .val (.int x4_0), .val (.ref b1), .val (.long y0_0), .second, .val (.long y1_0), .second, .val (.int (((x4_0.toUInt32 >>> ((2 : Int32) &&& 31).toUInt32).toInt32) &&& (3 : Int32))), .val (.ref b261), .val (.int (0 : Int32))] [(.ref b261)]))
            refine own_step (fun t k => XS.aload X295.here hx rfl (hb hby at_102) rfl rfl k) ?_
            show own_Ends p.tables e below s _ _ _ (T295.setTop (mkF m 104 #[.val (.long y0_0), .second, .val (.long y1_0), .second, .val (.long y2_0), .second, .val (.long y3_0), .second, .val (.int x4_0), .val (.ref b1), .val (.long y0_0), .second, .val (.long y1_0), .second, .val (.int (((x4_0.toUInt32 >>> ((2 : Int32) &&& 31).toUInt32).toInt32) &&& (3 : Int32))), .val (.ref b261), .val (.int (0 : Int32))] [(.ref b1), (.ref b261)]))
            obtain ⟨cq299, kq299, q299a, q299b, q299c⟩ := isOf hZ e295 p264_0
            obtain ⟨_, _, ⟨T299, L299, k299, n299⟩, -, X299, ⟨Lc299, hQ299, l299, y299, z299⟩, st299⟩ := X295.virtualBack hx (y := (⟨"com/example/swanhall/swanhall/core/Cell", "equals", "(Ljava/lang/Object;)Z"⟩ : MethodName)) (z := (⟨"com/example/swanhall/swanhall/core/Cell", "equals", "(Ljava/lang/Object;)Z"⟩ : MethodName)) hown (mvT hZ (hw _ (List.mem_of_getElem? (i := 18) rfl))) (mvT hZ (hw _ (List.mem_of_getElem? (i := 19) rfl))) (notFace_of_selects (args := #[]) (mvT hZ (hw _ (List.mem_of_getElem? (i := 21) rfl)))) (mvT hZ (hw _ (List.mem_of_getElem? (i := 21) rfl))) (mvT hZ (hw _ (List.mem_of_getElem? (i := 20) rfl))) (by decide) (backOf (W := 0) (rm4 l Z a0 hw [] b261 b1 y0_0 y0_0 y1_0 y1_0 T264.heap n0 O294 F296 F292 p264_1 F293 p264_2) hZ (hw _ (List.mem_of_getElem? (i := 22) rfl)) (hw _ (List.mem_of_getElem? (i := 2) rfl)) (by decide) (by decide)) q299a q299c (g := (mkF m 104 #[.val (.long y0_0), .second, .val (.long y1_0), .second, .val (.long y2_0), .second, .val (.long y3_0), .second, .val (.int x4_0), .val (.ref b1), .val (.long y0_0), .second, .val (.long y1_0), .second, .val (.int (((x4_0.toUInt32 >>> ((2 : Int32) &&& 31).toUInt32).toInt32) &&& (3 : Int32))), .val (.ref b261), .val (.int (0 : Int32))] [(.ref b1), (.ref b261)])) rfl (by rw [hml]; rfl) (Steps.refl _) (argsL := [(.ref b1)]) (rest := []) (lenOf pd_3 rfl) rfl (by show 2 * 0 + _ ≤ _; exact Nat.le_of_eq rfl) (hb hby at_104) (fun _ _ => ⟨rfl, e295, (by decide : 2 + 0 ≤ _), (by decide : 4 + 0 ≤ _)⟩)
            dsimp only [Pt.U, Pt.locs, Pt.cells, Pt.slots] at X299 l299 y299 z299 st299 hQ299
            subst y299 z299
            obtain ⟨rfl, N299q, e299⟩ := hQ299
            refine own_step (fun t k => st299.trans k) ?_
            have N300 : Fr n0 L299 := by rw [l299]; exact Fr.app N297 N299q
            show own_Ends p.tables e below s _ _ _ (T299.setTop (mkF m 107 #[.val (.long y0_0), .second, .val (.long y1_0), .second, .val (.long y2_0), .second, .val (.long y3_0), .second, .val (.int x4_0), .val (.ref b1), .val (.long y0_0), .second, .val (.long y1_0), .second, .val (.int (((x4_0.toUInt32 >>> ((2 : Int32) &&& 31).toUInt32).toInt32) &&& (3 : Int32))), .val (.ref b261), .val (.int (0 : Int32))] [(.int (own_r4 y0_0 y0_0 y1_0 y1_0))]))
            refine own_step (fun t k => XS.iload X299.here hx rfl (hb hby at_107) rfl k) ?_
            show own_Ends p.tables e below s _ _ _ (T299.setTop (mkF m 109 #[.val (.long y0_0), .second, .val (.long y1_0), .second, .val (.long y2_0), .second, .val (.long y3_0), .second, .val (.int x4_0), .val (.ref b1), .val (.long y0_0), .second, .val (.long y1_0), .second, .val (.int (((x4_0.toUInt32 >>> ((2 : Int32) &&& 31).toUInt32).toInt32) &&& (3 : Int32))), .val (.ref b261), .val (.int (0 : Int32))] [(.int (0 : Int32)), (.int (own_r4 y0_0 y0_0 y1_0 y1_0))]))
            refine own_step (fun t k => XS.icmpNo X299.here hx rfl (hb hby at_109) rfl (teq hc97_298).2 k) ?_
            show own_Ends p.tables e below s _ _ _ (T299.setTop (mkF m 112 #[.val (.long y0_0), .second, .val (.long y1_0), .second, .val (.long y2_0), .second, .val (.long y3_0), .second, .val (.int x4_0), .val (.ref b1), .val (.long y0_0), .second, .val (.long y1_0), .second, .val (.int (((x4_0.toUInt32 >>> ((2 : Int32) &&& 31).toUInt32).toInt32) &&& (3 : Int32))), .val (.ref b261), .val (.int (0 : Int32))] []))
            refine own_step (fun t k => XS.aload X299.here hx rfl (hb hby at_112) rfl rfl k) ?_
            show own_Ends p.tables e below s _ _ _ (T299.setTop (mkF m 114 #[.val (.long y0_0), .second, .val (.long y1_0), .second, .val (.long y2_0), .second, .val (.long y3_0), .second, .val (.int x4_0), .val (.ref b1), .val (.long y0_0), .second, .val (.long y1_0), .second, .val (.int (((x4_0.toUInt32 >>> ((2 : Int32) &&& 31).toUInt32).toInt32) &&& (3 : Int32))), .val (.ref b261), .val (.int (0 : Int32))] [(.ref b1)]))
            refine own_step (fun t k => XS.aload X299.here hx rfl (hb hby at_114) rfl rfl k) ?_
            show own_Ends p.tables e below s _ _ _ (T299.setTop (mkF m 116 #[.val (.long y0_0), .second, .val (.long y1_0), .second, .val (.long y2_0), .second, .val (.long y3_0), .second, .val (.int x4_0), .val (.ref b1), .val (.long y0_0), .second, .val (.long y1_0), .second, .val (.int (((x4_0.toUInt32 >>> ((2 : Int32) &&& 31).toUInt32).toInt32) &&& (3 : Int32))), .val (.ref b261), .val (.int (0 : Int32))] [(.ref b1), (.ref b1)]))
            obtain ⟨cq301, kq301, q301a, q301b, q301c⟩ := isOf hZ e299 F296
            obtain ⟨_, _, ⟨T301, L301, k301, n301⟩, -, X301, ⟨Lc301, hQ301, l301, y301, z301⟩, st301⟩ := X299.virtualBack hx (y := (⟨"com/example/swanhall/swanhall/core/Cell", "equals", "(Ljava/lang/Object;)Z"⟩ : MethodName)) (z := (⟨"com/example/swanhall/swanhall/core/Cell", "equals", "(Ljava/lang/Object;)Z"⟩ : MethodName)) hown (mvT hZ (hw _ (List.mem_of_getElem? (i := 18) rfl))) (mvT hZ (hw _ (List.mem_of_getElem? (i := 19) rfl))) (notFace_of_selects (args := #[]) (mvT hZ (hw _ (List.mem_of_getElem? (i := 21) rfl)))) (mvT hZ (hw _ (List.mem_of_getElem? (i := 21) rfl))) (mvT hZ (hw _ (List.mem_of_getElem? (i := 20) rfl))) (by decide) (backOf (W := 0) (rm4 l Z a0 hw [] b1 b1 y0_0 y0_0 y1_0 y1_0 T264.heap n0 O294 F296 F292 F292 F293 F293) hZ (hw _ (List.mem_of_getElem? (i := 22) rfl)) (hw _ (List.mem_of_getElem? (i := 2) rfl)) (by decide) (by decide)) q301a q301c (g := (mkF m 116 #[.val (.long y0_0), .second, .val (.long y1_0), .second, .val (.long y2_0), .second, .val (.long y3_0), .second, .val (.int x4_0), .val (.ref b1), .val (.long y0_0), .second, .val (.long y1_0), .second, .val (.int (((x4_0.toUInt32 >>> ((2 : Int32) &&& 31).toUInt32).toInt32) &&& (3 : Int32))), .val (.ref b261), .val (.int (0 : Int32))] [(.ref b1), (.ref b1)])) rfl (by rw [hml]; rfl) (Steps.refl _) (argsL := [(.ref b1)]) (rest := []) (lenOf pd_3 rfl) rfl (by show 2 * 0 + _ ≤ _; exact Nat.le_of_eq rfl) (hb hby at_116) (fun _ _ => ⟨rfl, e299, (by decide : 2 + 0 ≤ _), (by decide : 4 + 0 ≤ _)⟩)
            dsimp only [Pt.U, Pt.locs, Pt.cells, Pt.slots] at X301 l301 y301 z301 st301 hQ301
            subst y301 z301
            obtain ⟨rfl, N301q, e301⟩ := hQ301
            refine own_step (fun t k => st301.trans k) ?_
            have N302 : Fr n0 L301 := by rw [l301]; exact Fr.app N300 N301q
            show own_Ends p.tables e below s _ _ _ (T301.setTop (mkF m 119 #[.val (.long y0_0), .second, .val (.long y1_0), .second, .val (.long y2_0), .second, .val (.long y3_0), .second, .val (.int x4_0), .val (.ref b1), .val (.long y0_0), .second, .val (.long y1_0), .second, .val (.int (((x4_0.toUInt32 >>> ((2 : Int32) &&& 31).toUInt32).toInt32) &&& (3 : Int32))), .val (.ref b261), .val (.int (0 : Int32))] [(.int (own_r4 y0_0 y0_0 y1_0 y1_0))]))
            refine own_step (fun t k => XS.ifYes X301.here hx rfl (pc0 := 119) (pc' := 126) rfl (hb hby at_119) rfl ((if0 _ _).trans (teq hc97_298).1) (by decide) (by decide) k) ?_
            show own_Ends p.tables e below s _ _ _ (T301.setTop (mkF m 126 #[.val (.long y0_0), .second, .val (.long y1_0), .second, .val (.long y2_0), .second, .val (.long y3_0), .second, .val (.int x4_0), .val (.ref b1), .val (.long y0_0), .second, .val (.long y1_0), .second, .val (.int (((x4_0.toUInt32 >>> ((2 : Int32) &&& 31).toUInt32).toInt32) &&& (3 : Int32))), .val (.ref b261), .val (.int (0 : Int32))] []))
            refine own_step (fun t k => XS.iconst X301.here hx rfl (hb hby at_126) k) ?_
            show own_Ends p.tables e below s _ _ _ (T301.setTop (mkF m 127 #[.val (.long y0_0), .second, .val (.long y1_0), .second, .val (.long y2_0), .second, .val (.long y3_0), .second, .val (.int x4_0), .val (.ref b1), .val (.long y0_0), .second, .val (.long y1_0), .second, .val (.int (((x4_0.toUInt32 >>> ((2 : Int32) &&& 31).toUInt32).toInt32) &&& (3 : Int32))), .val (.ref b261), .val (.int (0 : Int32))] [(.int (0 : Int32))]))
            exfalso
            exact absurd hc97_298 (by rw [own_eq4]; simp)
          · skip
            refine own_step (fun t k => XS.icmpYes X295.here hx rfl (pc0 := 97) (pc' := 126) rfl (hb hby at_97) rfl (feq hc97_298).2 (by decide) (by decide) k) ?_
            show own_Ends p.tables e below s _ _ _ (T295.setTop (mkF m 126 #[.val (.long y0_0), .second, .val (.long y1_0), .second, .val (.long y2_0), .second, .val (.long y3_0), .second, .val (.int x4_0), .val (.ref b1), .val (.long y0_0), .second, .val (.long y1_0), .second, .val (.int (((x4_0.toUInt32 >>> ((2 : Int32) &&& 31).toUInt32).toInt32) &&& (3 : Int32))), .val (.ref b261), .val (.int (0 : Int32))] []))
            refine own_step (fun t k => XS.iconst X295.here hx rfl (hb hby at_126) k) ?_
            show own_Ends p.tables e below s _ _ _ (T295.setTop (mkF m 127 #[.val (.long y0_0), .second, .val (.long y1_0), .second, .val (.long y2_0), .second, .val (.long y3_0), .second, .val (.int x4_0), .val (.ref b1), .val (.long y0_0), .second, .val (.long y1_0), .second, .val (.int (((x4_0.toUInt32 >>> ((2 : Int32) &&& 31).toUInt32).toInt32) &&& (3 : Int32))), .val (.ref b261), .val (.int (0 : Int32))] [(.int (0 : Int32))]))
            exfalso
            exact hc71_267 ((own_lc _ _).mpr rfl)
      · skip
        refine own_step (fun t k => XS.ifYes X4.here hx rfl (pc0 := 51) (pc' := 128) rfl (hb hby at_51) rfl ((if0 _ _).trans (feq hc51_259).2) (by decide) (by decide) k) ?_
        show own_Ends p.tables e below s _ _ _ (T4.setTop (mkF m 128 #[.val (.long y0_0), .second, .val (.long y1_0), .second, .val (.long y2_0), .second, .val (.long y3_0), .second, .val (.int x4_0), .val (.ref b1), .val (.long y0_0), .second, .val (.long y1_0), .second, .val (.int (((x4_0.toUInt32 >>> ((2 : Int32) &&& 31).toUInt32).toInt32) &&& (3 : Int32))), .unset, .unset] []))
        refine own_step (fun t k => XS.iload X4.here hx rfl (hb hby at_128) rfl k) ?_
        show own_Ends p.tables e below s _ _ _ (T4.setTop (mkF m 130 #[.val (.long y0_0), .second, .val (.long y1_0), .second, .val (.long y2_0), .second, .val (.long y3_0), .second, .val (.int x4_0), .val (.ref b1), .val (.long y0_0), .second, .val (.long y1_0), .second, .val (.int (((x4_0.toUInt32 >>> ((2 : Int32) &&& 31).toUInt32).toInt32) &&& (3 : Int32))), .unset, .unset] [(.int (((x4_0.toUInt32 >>> ((2 : Int32) &&& 31).toUInt32).toInt32) &&& (3 : Int32)))]))
        refine own_step (fun t k => XS.iconst X4.here hx rfl (hb hby at_130) k) ?_
        show own_Ends p.tables e below s _ _ _ (T4.setTop (mkF m 131 #[.val (.long y0_0), .second, .val (.long y1_0), .second, .val (.long y2_0), .second, .val (.long y3_0), .second, .val (.int x4_0), .val (.ref b1), .val (.long y0_0), .second, .val (.long y1_0), .second, .val (.int (((x4_0.toUInt32 >>> ((2 : Int32) &&& 31).toUInt32).toInt32) &&& (3 : Int32))), .unset, .unset] [(.int (1 : Int32)), (.int (((x4_0.toUInt32 >>> ((2 : Int32) &&& 31).toUInt32).toInt32) &&& (3 : Int32)))]))
        by_cases hc131_303 : (((x4_0.toUInt32 >>> ((2 : Int32) &&& 31).toUInt32).toInt32) &&& (3 : Int32)) = (1 : Int32)
        · skip
          refine own_step (fun t k => XS.icmpNo X4.here hx rfl (hb hby at_131) rfl (teq hc131_303).2 k) ?_
          show own_Ends p.tables e below s _ _ _ (T4.setTop (mkF m 134 #[.val (.long y0_0), .second, .val (.long y1_0), .second, .val (.long y2_0), .second, .val (.long y3_0), .second, .val (.int x4_0), .val (.ref b1), .val (.long y0_0), .second, .val (.long y1_0), .second, .val (.int (((x4_0.toUInt32 >>> ((2 : Int32) &&& 31).toUInt32).toInt32) &&& (3 : Int32))), .unset, .unset] []))
          refine own_step (fun t k => XS.aload X4.here hx rfl (hb hby at_134) rfl rfl k) ?_
          show own_Ends p.tables e below s _ _ _ (T4.setTop (mkF m 136 #[.val (.long y0_0), .second, .val (.long y1_0), .second, .val (.long y2_0), .second, .val (.long y3_0), .second, .val (.int x4_0), .val (.ref b1), .val (.long y0_0), .second, .val (.long y1_0), .second, .val (.int (((x4_0.toUInt32 >>> ((2 : Int32) &&& 31).toUInt32).toInt32) &&& (3 : Int32))), .unset, .unset] [(.ref b1)]))
          refine own_step (fun t k => XS.aconstNull X4.here hx rfl (hb hby at_136) k) ?_
          show own_Ends p.tables e below s _ _ _ (T4.setTop (mkF m 137 #[.val (.long y0_0), .second, .val (.long y1_0), .second, .val (.long y2_0), .second, .val (.long y3_0), .second, .val (.int x4_0), .val (.ref b1), .val (.long y0_0), .second, .val (.long y1_0), .second, .val (.int (((x4_0.toUInt32 >>> ((2 : Int32) &&& 31).toUInt32).toInt32) &&& (3 : Int32))), .unset, .unset] [.null, (.ref b1)]))
          have O304 : Old Z n0 T4.heap := (O3.keep K4q (allS g_b1 all0))
          obtain ⟨cq305, kq305, q305a, q305b, q305c⟩ := isOf hZ rfl p4_0
          obtain ⟨_, _, ⟨T305, L305, k305, n305⟩, -, X305, ⟨Lc305, hQ305, l305, y305, z305⟩, st305⟩ := X4.virtualBack hx (y := (⟨"com/example/swanhall/swanhall/core/Cell", "equals", "(Ljava/lang/Object;)Z"⟩ : MethodName)) (z := (⟨"com/example/swanhall/swanhall/core/Cell", "equals", "(Ljava/lang/Object;)Z"⟩ : MethodName)) hown (mvT hZ (hw _ (List.mem_of_getElem? (i := 18) rfl))) (mvT hZ (hw _ (List.mem_of_getElem? (i := 19) rfl))) (notFace_of_selects (args := #[]) (mvT hZ (hw _ (List.mem_of_getElem? (i := 21) rfl)))) (mvT hZ (hw _ (List.mem_of_getElem? (i := 21) rfl))) (mvT hZ (hw _ (List.mem_of_getElem? (i := 20) rfl))) (by decide) (backOf (W := 0) (rm4n l Z a0 hw [] b1 T4.heap n0 O304 ) hZ (hw _ (List.mem_of_getElem? (i := 22) rfl)) (hw _ (List.mem_of_getElem? (i := 2) rfl)) (by decide) (by decide)) q305a q305c (g := (mkF m 137 #[.val (.long y0_0), .second, .val (.long y1_0), .second, .val (.long y2_0), .second, .val (.long y3_0), .second, .val (.int x4_0), .val (.ref b1), .val (.long y0_0), .second, .val (.long y1_0), .second, .val (.int (((x4_0.toUInt32 >>> ((2 : Int32) &&& 31).toUInt32).toInt32) &&& (3 : Int32))), .unset, .unset] [.null, (.ref b1)])) rfl (by rw [hml]; rfl) (Steps.refl _) (argsL := [.null]) (rest := []) (lenOf pd_3 rfl) rfl (by show 2 * 0 + _ ≤ _; exact Nat.le_of_eq rfl) (hb hby at_137) (fun _ _ => ⟨rfl, rfl, (by decide : 1 + 0 ≤ _), (by decide : 2 + 0 ≤ _)⟩)
          dsimp only [Pt.U, Pt.locs, Pt.cells, Pt.slots] at X305 l305 y305 z305 st305 hQ305
          subst y305 z305
          obtain ⟨rfl, N305q, e305⟩ := hQ305
          refine own_step (fun t k => st305.trans k) ?_
          have N306 : Fr n0 L305 := by rw [l305]; exact Fr.app N5 N305q
          show own_Ends p.tables e below s _ _ _ (T305.setTop (mkF m 140 #[.val (.long y0_0), .second, .val (.long y1_0), .second, .val (.long y2_0), .second, .val (.long y3_0), .second, .val (.int x4_0), .val (.ref b1), .val (.long y0_0), .second, .val (.long y1_0), .second, .val (.int (((x4_0.toUInt32 >>> ((2 : Int32) &&& 31).toUInt32).toInt32) &&& (3 : Int32))), .unset, .unset] [(.int (0 : Int32))]))
          refine own_step (fun t k => XS.ifNo X305.here hx rfl (hb hby at_140) rfl ((if0 _ _).trans (teq (by decide : (0 : Int32) = (0 : Int32))).2) k) ?_
          show own_Ends p.tables e below s _ _ _ (T305.setTop (mkF m 143 #[.val (.long y0_0), .second, .val (.long y1_0), .second, .val (.long y2_0), .second, .val (.long y3_0), .second, .val (.int x4_0), .val (.ref b1), .val (.long y0_0), .second, .val (.long y1_0), .second, .val (.int (((x4_0.toUInt32 >>> ((2 : Int32) &&& 31).toUInt32).toInt32) &&& (3 : Int32))), .unset, .unset] []))
          refine own_step (fun t k => XS.iconst X305.here hx rfl (hb hby at_143) k) ?_
          show own_Ends p.tables e below s _ _ _ (T305.setTop (mkF m 144 #[.val (.long y0_0), .second, .val (.long y1_0), .second, .val (.long y2_0), .second, .val (.long y3_0), .second, .val (.int x4_0), .val (.ref b1), .val (.long y0_0), .second, .val (.long y1_0), .second, .val (.int (((x4_0.toUInt32 >>> ((2 : Int32) &&& 31).toUInt32).toInt32) &&& (3 : Int32))), .unset, .unset] [(.int (1 : Int32))]))
          refine own_step (fun t k => XS.goto X305.here hx rfl (pc0 := 144) (pc' := 148) rfl (hb hby at_144) (by decide) (by decide) k) ?_
          show own_Ends p.tables e below s _ _ _ (T305.setTop (mkF m 148 #[.val (.long y0_0), .second, .val (.long y1_0), .second, .val (.long y2_0), .second, .val (.long y3_0), .second, .val (.int x4_0), .val (.ref b1), .val (.long y0_0), .second, .val (.long y1_0), .second, .val (.int (((x4_0.toUInt32 >>> ((2 : Int32) &&& 31).toUInt32).toInt32) &&& (3 : Int32))), .unset, .unset] [(.int (1 : Int32))]))
          exact own_retN X305 hx (t := .boolean) Bd.returns (by simp) (hb hby at_148) hnl (by rw [e305]; exact ⟨rfl, N306⟩) (by decide) (by decide)
        · skip
          refine own_step (fun t k => XS.icmpYes X4.here hx rfl (pc0 := 131) (pc' := 149) rfl (hb hby at_131) rfl (feq hc131_303).2 (by decide) (by decide) k) ?_
          show own_Ends p.tables e below s _ _ _ (T4.setTop (mkF m 149 #[.val (.long y0_0), .second, .val (.long y1_0), .second, .val (.long y2_0), .second, .val (.long y3_0), .second, .val (.int x4_0), .val (.ref b1), .val (.long y0_0), .second, .val (.long y1_0), .second, .val (.int (((x4_0.toUInt32 >>> ((2 : Int32) &&& 31).toUInt32).toInt32) &&& (3 : Int32))), .unset, .unset] []))
          refine own_step (fun t k => XS.iload X4.here hx rfl (hb hby at_149) rfl k) ?_
          show own_Ends p.tables e below s _ _ _ (T4.setTop (mkF m 151 #[.val (.long y0_0), .second, .val (.long y1_0), .second, .val (.long y2_0), .second, .val (.long y3_0), .second, .val (.int x4_0), .val (.ref b1), .val (.long y0_0), .second, .val (.long y1_0), .second, .val (.int (((x4_0.toUInt32 >>> ((2 : Int32) &&& 31).toUInt32).toInt32) &&& (3 : Int32))), .unset, .unset] [(.int (((x4_0.toUInt32 >>> ((2 : Int32) &&& 31).toUInt32).toInt32) &&& (3 : Int32)))]))
          refine own_step (fun t k => XS.iconst X4.here hx rfl (hb hby at_151) k) ?_
          show own_Ends p.tables e below s _ _ _ (T4.setTop (mkF m 152 #[.val (.long y0_0), .second, .val (.long y1_0), .second, .val (.long y2_0), .second, .val (.long y3_0), .second, .val (.int x4_0), .val (.ref b1), .val (.long y0_0), .second, .val (.long y1_0), .second, .val (.int (((x4_0.toUInt32 >>> ((2 : Int32) &&& 31).toUInt32).toInt32) &&& (3 : Int32))), .unset, .unset] [(.int (2 : Int32)), (.int (((x4_0.toUInt32 >>> ((2 : Int32) &&& 31).toUInt32).toInt32) &&& (3 : Int32)))]))
          by_cases hc152_307 : (((x4_0.toUInt32 >>> ((2 : Int32) &&& 31).toUInt32).toInt32) &&& (3 : Int32)) = (2 : Int32)
          · skip
            refine own_step (fun t k => XS.icmpNo X4.here hx rfl (hb hby at_152) rfl (teq hc152_307).2 k) ?_
            show own_Ends p.tables e below s _ _ _ (T4.setTop (mkF m 155 #[.val (.long y0_0), .second, .val (.long y1_0), .second, .val (.long y2_0), .second, .val (.long y3_0), .second, .val (.int x4_0), .val (.ref b1), .val (.long y0_0), .second, .val (.long y1_0), .second, .val (.int (((x4_0.toUInt32 >>> ((2 : Int32) &&& 31).toUInt32).toInt32) &&& (3 : Int32))), .unset, .unset] []))
            refine own_step (fun t k => XS.aload X4.here hx rfl (hb hby at_155) rfl rfl k) ?_
            show own_Ends p.tables e below s _ _ _ (T4.setTop (mkF m 157 #[.val (.long y0_0), .second, .val (.long y1_0), .second, .val (.long y2_0), .second, .val (.long y3_0), .second, .val (.int x4_0), .val (.ref b1), .val (.long y0_0), .second, .val (.long y1_0), .second, .val (.int (((x4_0.toUInt32 >>> ((2 : Int32) &&& 31).toUInt32).toInt32) &&& (3 : Int32))), .unset, .unset] [(.ref b1)]))
            refine own_step (fun t k => XS.lloadN X4.here hx rfl (hb hby at_157) rfl k) ?_
            show own_Ends p.tables e below s _ _ _ (T4.setTop (mkF m 158 #[.val (.long y0_0), .second, .val (.long y1_0), .second, .val (.long y2_0), .second, .val (.long y3_0), .second, .val (.int x4_0), .val (.ref b1), .val (.long y0_0), .second, .val (.long y1_0), .second, .val (.int (((x4_0.toUInt32 >>> ((2 : Int32) &&& 31).toUInt32).toInt32) &&& (3 : Int32))), .unset, .unset] [(.long y0_0), (.ref b1)]))
            have O308 : Old Z n0 T4.heap := (O3.keep K4q (allS g_b1 all0))
            obtain ⟨_, _, ⟨T309, L309, k309, n309⟩, -, X309, ⟨Lc309, hQ309, l309, y309, z309⟩, st309⟩ := Jvm.LawKit.callS X4 hx (y := (⟨"java/lang/Long", "valueOf", "(J)Ljava/lang/Long;"⟩ : MethodName)) hown (mvT hZ (hw _ (List.mem_of_getElem? (i := 56) rfl))) (mvT hZ (hw _ (List.mem_of_getElem? (i := 57) rfl))) (mvT hZ (hw _ (List.mem_of_getElem? (i := 58) rfl))) (mvT hZ (hw _ (List.mem_of_getElem? (i := 59) rfl))) (by decide) (backOf (W := 1) (rm10 l Z a0 hw [] w_cache clC y0_0 T4.heap n0 O308 BXA BXS BXB S_cache) hZ (hw _ (List.mem_of_getElem? (i := 59) rfl)) (hw _ (List.mem_of_getElem? (i := 58) rfl)) (by decide) (by decide)) (g := (mkF m 158 #[.val (.long y0_0), .second, .val (.long y1_0), .second, .val (.long y2_0), .second, .val (.long y3_0), .second, .val (.int x4_0), .val (.ref b1), .val (.long y0_0), .second, .val (.long y1_0), .second, .val (.int (((x4_0.toUInt32 >>> ((2 : Int32) &&& 31).toUInt32).toInt32) &&& (3 : Int32))), .unset, .unset] [(.long y0_0), (.ref b1)])) rfl (by rw [hml]; rfl) (argsL := [(.long y0_0)]) (rest := [(.ref b1)]) (lenOf pd_4 rfl) rfl (by show 2 * 0 + _ ≤ _; exact Nat.le_of_eq rfl) (hb hby at_158) (fun _ _ => ⟨rfl, rfl, (by decide : 1 + 1 ≤ _), (by decide : 2 + 1 ≤ _)⟩)
            dsimp only [Pt.U, Pt.locs, Pt.cells, Pt.slots] at X309 l309 y309 z309 st309 hQ309
            subst y309 z309
            obtain ⟨rL_309, rfl, N309q, K309q, p309_0⟩ := hQ309
            refine own_step (fun t k => st309 _ k) ?_
            have N310 : Fr n0 L309 := by rw [l309]; exact Fr.app N5 N309q
            have K311 : Keep h0 T309.heap [] := K6.trans K309q all0
            show own_Ends p.tables e below s _ _ _ (T309.setTop (mkF m 161 #[.val (.long y0_0), .second, .val (.long y1_0), .second, .val (.long y2_0), .second, .val (.long y3_0), .second, .val (.int x4_0), .val (.ref b1), .val (.long y0_0), .second, .val (.long y1_0), .second, .val (.int (((x4_0.toUInt32 >>> ((2 : Int32) &&& 31).toUInt32).toInt32) &&& (3 : Int32))), .unset, .unset] [(.ref rL_309), (.ref b1)]))
            have O312 : Old Z n0 T309.heap := (O308.keep K309q all0)
            have F314 : Exa Z T309.heap b1 "com/example/swanhall/swanhall/core/Cell" := (p4_0.keep K309q)
            obtain ⟨cq313, kq313, q313a, q313b, q313c⟩ := isOf hZ rfl F314
            obtain ⟨_, _, ⟨T313, L313, k313, n313⟩, -, X313, ⟨Lc313, hQ313, l313, y313, z313⟩, st313⟩ := X309.virtualBack hx (y := (⟨"com/example/swanhall/swanhall/core/Cell", "equals", "(Ljava/lang/Object;)Z"⟩ : MethodName)) (z := (⟨"com/example/swanhall/swanhall/core/Cell", "equals", "(Ljava/lang/Object;)Z"⟩ : MethodName)) hown (mvT hZ (hw _ (List.mem_of_getElem? (i := 18) rfl))) (mvT hZ (hw _ (List.mem_of_getElem? (i := 19) rfl))) (notFace_of_selects (args := #[]) (mvT hZ (hw _ (List.mem_of_getElem? (i := 21) rfl)))) (mvT hZ (hw _ (List.mem_of_getElem? (i := 21) rfl))) (mvT hZ (hw _ (List.mem_of_getElem? (i := 20) rfl))) (by decide) (backOf (W := 0) (rm4l l Z a0 hw [] b1 rL_309 T309.heap n0 O312 p309_0) hZ (hw _ (List.mem_of_getElem? (i := 22) rfl)) (hw _ (List.mem_of_getElem? (i := 2) rfl)) (by decide) (by decide)) q313a q313c (g := (mkF m 161 #[.val (.long y0_0), .second, .val (.long y1_0), .second, .val (.long y2_0), .second, .val (.long y3_0), .second, .val (.int x4_0), .val (.ref b1), .val (.long y0_0), .second, .val (.long y1_0), .second, .val (.int (((x4_0.toUInt32 >>> ((2 : Int32) &&& 31).toUInt32).toInt32) &&& (3 : Int32))), .unset, .unset] [(.ref rL_309), (.ref b1)])) rfl (by rw [hml]; rfl) (Steps.refl _) (argsL := [(.ref rL_309)]) (rest := []) (lenOf pd_3 rfl) rfl (by show 2 * 0 + _ ≤ _; exact Nat.le_of_eq rfl) (hb hby at_161) (fun _ _ => ⟨rfl, rfl, (by decide : 2 + 0 ≤ _), (by decide : 3 + 0 ≤ _)⟩)
            dsimp only [Pt.U, Pt.locs, Pt.cells, Pt.slots] at X313 l313 y313 z313 st313 hQ313
            subst y313 z313
            obtain ⟨rfl, N313q, e313⟩ := hQ313
            refine own_step (fun t k => st313.trans k) ?_
            have N315 : Fr n0 L313 := by rw [l313]; exact Fr.app N310 N313q
            show own_Ends p.tables e below s _ _ _ (T313.setTop (mkF m 164 #[.val (.long y0_0), .second, .val (.long y1_0), .second, .val (.long y2_0), .second, .val (.long y3_0), .second, .val (.int x4_0), .val (.ref b1), .val (.long y0_0), .second, .val (.long y1_0), .second, .val (.int (((x4_0.toUInt32 >>> ((2 : Int32) &&& 31).toUInt32).toInt32) &&& (3 : Int32))), .unset, .unset] [(.int (0 : Int32))]))
            refine own_step (fun t k => XS.ifNo X313.here hx rfl (hb hby at_164) rfl ((if0 _ _).trans (teq (by decide : (0 : Int32) = (0 : Int32))).2) k) ?_
            show own_Ends p.tables e below s _ _ _ (T313.setTop (mkF m 167 #[.val (.long y0_0), .second, .val (.long y1_0), .second, .val (.long y2_0), .second, .val (.long y3_0), .second, .val (.int x4_0), .val (.ref b1), .val (.long y0_0), .second, .val (.long y1_0), .second, .val (.int (((x4_0.toUInt32 >>> ((2 : Int32) &&& 31).toUInt32).toInt32) &&& (3 : Int32))), .unset, .unset] []))
            refine own_step (fun t k => XS.iconst X313.here hx rfl (hb hby at_167) k) ?_
            show own_Ends p.tables e below s _ _ _ (T313.setTop (mkF m 168 #[.val (.long y0_0), .second, .val (.long y1_0), .second, .val (.long y2_0), .second, .val (.long y3_0), .second, .val (.int x4_0), .val (.ref b1), .val (.long y0_0), .second, .val (.long y1_0), .second, .val (.int (((x4_0.toUInt32 >>> ((2 : Int32) &&& 31).toUInt32).toInt32) &&& (3 : Int32))), .unset, .unset] [(.int (1 : Int32))]))
            refine own_step (fun t k => XS.goto X313.here hx rfl (pc0 := 168) (pc' := 172) rfl (hb hby at_168) (by decide) (by decide) k) ?_
            show own_Ends p.tables e below s _ _ _ (T313.setTop (mkF m 172 #[.val (.long y0_0), .second, .val (.long y1_0), .second, .val (.long y2_0), .second, .val (.long y3_0), .second, .val (.int x4_0), .val (.ref b1), .val (.long y0_0), .second, .val (.long y1_0), .second, .val (.int (((x4_0.toUInt32 >>> ((2 : Int32) &&& 31).toUInt32).toInt32) &&& (3 : Int32))), .unset, .unset] [(.int (1 : Int32))]))
            exact own_retN X313 hx (t := .boolean) Bd.returns (by simp) (hb hby at_172) hnl (by rw [e313]; exact ⟨rfl, N315⟩) (by decide) (by decide)
          · skip
            refine own_step (fun t k => XS.icmpYes X4.here hx rfl (pc0 := 152) (pc' := 173) rfl (hb hby at_152) rfl (feq hc152_307).2 (by decide) (by decide) k) ?_
            show own_Ends p.tables e below s _ _ _ (T4.setTop (mkF m 173 #[.val (.long y0_0), .second, .val (.long y1_0), .second, .val (.long y2_0), .second, .val (.long y3_0), .second, .val (.int x4_0), .val (.ref b1), .val (.long y0_0), .second, .val (.long y1_0), .second, .val (.int (((x4_0.toUInt32 >>> ((2 : Int32) &&& 31).toUInt32).toInt32) &&& (3 : Int32))), .unset, .unset] []))
            refine own_step (fun t k => XS.iconst X4.here hx rfl (hb hby at_173) k) ?_
            show own_Ends p.tables e below s _ _ _ (T4.setTop (mkF m 174 #[.val (.long y0_0), .second, .val (.long y1_0), .second, .val (.long y2_0), .second, .val (.long y3_0), .second, .val (.int x4_0), .val (.ref b1), .val (.long y0_0), .second, .val (.long y1_0), .second, .val (.int (((x4_0.toUInt32 >>> ((2 : Int32) &&& 31).toUInt32).toInt32) &&& (3 : Int32))), .unset, .unset] [(.int (1 : Int32))]))
            have O316 : Old Z n0 T4.heap := (O3.keep K4q (allS g_b1 all0))
            obtain ⟨T317, h317, k317, X317, e317, E317, A317, st317⟩ := newP X4 hx hZ (hw _ (List.mem_of_getElem? (i := 25) rfl)) rfl (g := (mkF m 174 #[.val (.long y0_0), .second, .val (.long y1_0), .second, .val (.long y2_0), .second, .val (.long y3_0), .second, .val (.int x4_0), .val (.ref b1), .val (.long y0_0), .second, .val (.long y1_0), .second, .val (.int (((x4_0.toUInt32 >>> ((2 : Int32) &&& 31).toUInt32).toInt32) &&& (3 : Int32))), .unset, .unset] [(.int (1 : Int32))])) rfl (hb hby at_174) rfl (by decide) (cap := 1) (by decide) (by decide) (by decide) (by decide)
            obtain ⟨b317, g317⟩ : ∃ z, z = T4.heap.size := ⟨_, rfl⟩
            rw [← g317] at A317 st317
            have g_b317 : n0 ≤ b317 := Nat.le_trans (Nat.le_trans (Nat.le_of_eq O316.1.symm) O316.2.1) (Nat.le_of_eq g317.symm)
            have sz_b317 : h0.size ≤ b317 := Nat.le_trans K6.1 (Nat.le_of_eq g317.symm)
            have ne_b1_b317 : b1 ≠ b317 := Nat.ne_of_lt (Nat.lt_of_lt_of_le p4_0.lt (Nat.le_of_eq g317.symm))
            have V317 : Arv Z h317 b317 k317 .char (1 : Int32) [] (.int (0 : Int32)) := Arv.new A317 (by decide)
            have V317p : Arv Z h317 b317 k317 .char (1 : Int32) [(.int (0 : Int32))] (.int (0 : Int32)) := V317.pad (pad_rep [] (.int (0 : Int32)) 1)
            refine own_step (fun t k => st317 _ k) ?_
            have K318 : Keep h0 h317 [] := K6.ext E317
            show own_Ends p.tables e below s _ _ _ (T317.setTop (mkF m 176 #[.val (.long y0_0), .second, .val (.long y1_0), .second, .val (.long y2_0), .second, .val (.long y3_0), .second, .val (.int x4_0), .val (.ref b1), .val (.long y0_0), .second, .val (.long y1_0), .second, .val (.int (((x4_0.toUInt32 >>> ((2 : Int32) &&& 31).toUInt32).toInt32) &&& (3 : Int32))), .unset, .unset] [(.ref b317)]))
            refine own_step (fun t k => XS.astore X317.here hx rfl (hb hby at_176) rfl rfl (l' := #[.val (.long y0_0), .second, .val (.long y1_0), .second, .val (.long y2_0), .second, .val (.long y3_0), .second, .val (.int x4_0), .val (.ref b1), .val (.long y0_0), .second, .val (.long y1_0), .second, .val (.int (((x4_0.toUInt32 >>> ((2 : Int32) &&& 31).toUInt32).toInt32) &&& (3 : Int32))), .val (.ref b317), .unset]) rfl k) ?_
            show own_Ends p.tables e below s _ _ _ (T317.setTop (mkF m 178 #[.val (.long y0_0), .second, .val (.long y1_0), .second, .val (.long y2_0), .second, .val (.long y3_0), .second, .val (.int x4_0), .val (.ref b1), .val (.long y0_0), .second, .val (.long y1_0), .second, .val (.int (((x4_0.toUInt32 >>> ((2 : Int32) &&& 31).toUInt32).toInt32) &&& (3 : Int32))), .val (.ref b317), .unset] []))
            refine own_step (fun t k => XS.aload X317.here hx rfl (hb hby at_178) rfl rfl k) ?_
            show own_Ends p.tables e below s _ _ _ (T317.setTop (mkF m 180 #[.val (.long y0_0), .second, .val (.long y1_0), .second, .val (.long y2_0), .second, .val (.long y3_0), .second, .val (.int x4_0), .val (.ref b1), .val (.long y0_0), .second, .val (.long y1_0), .second, .val (.int (((x4_0.toUInt32 >>> ((2 : Int32) &&& 31).toUInt32).toInt32) &&& (3 : Int32))), .val (.ref b317), .unset] [(.ref b317)]))
            refine own_step (fun t k => XS.iconst X317.here hx rfl (hb hby at_180) k) ?_
            show own_Ends p.tables e below s _ _ _ (T317.setTop (mkF m 181 #[.val (.long y0_0), .second, .val (.long y1_0), .second, .val (.long y2_0), .second, .val (.long y3_0), .second, .val (.int x4_0), .val (.ref b1), .val (.long y0_0), .second, .val (.long y1_0), .second, .val (.int (((x4_0.toUInt32 >>> ((2 : Int32) &&& 31).toUInt32).toInt32) &&& (3 : Int32))), .val (.ref b317), .unset] [(.int (0 : Int32)), (.ref b317)]))
            refine own_step (fun t k => XS.lloadN X317.here hx rfl (hb hby at_181) rfl k) ?_
            show own_Ends p.tables e below s _ _ _ (T317.setTop (mkF m 182 #[.val (.long y0_0), .second, .val (.long y1_0), .second, .val (.long y2_0), .second, .val (.long y3_0), .second, .val (.int x4_0), .val (.ref b1), .val (.long y0_0), .second, .val (.long y1_0), .second, .val (.int (((x4_0.toUInt32 >>> ((2 : Int32) &&& 31).toUInt32).toInt32) &&& (3 : Int32))), .val (.ref b317), .unset] [(.long y0_0), (.int (0 : Int32)), (.ref b317)]))
            refine own_step (fun t k => X317.ldc2Long hx hown (mvT hZ (hw _ (List.mem_of_getElem? (i := 26) rfl))) (g := (mkF m 182 #[.val (.long y0_0), .second, .val (.long y1_0), .second, .val (.long y2_0), .second, .val (.long y3_0), .second, .val (.int x4_0), .val (.ref b1), .val (.long y0_0), .second, .val (.long y1_0), .second, .val (.int (((x4_0.toUInt32 >>> ((2 : Int32) &&& 31).toUInt32).toInt32) &&& (3 : Int32))), .val (.ref b317), .unset] [(.long y0_0), (.int (0 : Int32)), (.ref b317)])) rfl (hb hby at_182) _ k) ?_
            show own_Ends p.tables e below s _ _ _ (T317.setTop (mkF m 185 #[.val (.long y0_0), .second, .val (.long y1_0), .second, .val (.long y2_0), .second, .val (.long y3_0), .second, .val (.int x4_0), .val (.ref b1), .val (.long y0_0), .second, .val (.long y1_0), .second, .val (.int (((x4_0.toUInt32 >>> ((2 : Int32) &&& 31).toUInt32).toInt32) &&& (3 : Int32))), .val (.ref b317), .unset] [(.long (255 : Int64)), (.long y0_0), (.int (0 : Int32)), (.ref b317)]))
            refine own_step (fun t k => XS.land X317.here hx rfl (hb hby at_185) rfl k) ?_
            show own_Ends p.tables e below s _ _ _ (T317.setTop (mkF m 186 #[.val (.long y0_0), .second, .val (.long y1_0), .second, .val (.long y2_0), .second, .val (.long y3_0), .second, .val (.int x4_0), .val (.ref b1), .val (.long y0_0), .second, .val (.long y1_0), .second, .val (.int (((x4_0.toUInt32 >>> ((2 : Int32) &&& 31).toUInt32).toInt32) &&& (3 : Int32))), .val (.ref b317), .unset] [(.long (y0_0 &&& (255 : Int64))), (.int (0 : Int32)), (.ref b317)]))
            refine own_step (fun t k => XS.l2i X317.here hx rfl (hb hby at_186) rfl k) ?_
            show own_Ends p.tables e below s _ _ _ (T317.setTop (mkF m 187 #[.val (.long y0_0), .second, .val (.long y1_0), .second, .val (.long y2_0), .second, .val (.long y3_0), .second, .val (.int x4_0), .val (.ref b1), .val (.long y0_0), .second, .val (.long y1_0), .second, .val (.int (((x4_0.toUInt32 >>> ((2 : Int32) &&& 31).toUInt32).toInt32) &&& (3 : Int32))), .val (.ref b317), .unset] [(.int ((y0_0 &&& (255 : Int64)).toInt32)), (.int (0 : Int32)), (.ref b317)]))
            refine own_step (fun t k => XS.i2c X317.here hx rfl (hb hby at_187) rfl k) ?_
            show own_Ends p.tables e below s _ _ _ (T317.setTop (mkF m 188 #[.val (.long y0_0), .second, .val (.long y1_0), .second, .val (.long y2_0), .second, .val (.long y3_0), .second, .val (.int x4_0), .val (.ref b1), .val (.long y0_0), .second, .val (.long y1_0), .second, .val (.int (((x4_0.toUInt32 >>> ((2 : Int32) &&& 31).toUInt32).toInt32) &&& (3 : Int32))), .val (.ref b317), .unset] [(.int (((y0_0 &&& (255 : Int64)).toInt32).toUInt32.toUInt16.toUInt32.toInt32)), (.int (0 : Int32)), (.ref b317)]))
            obtain ⟨cl319, Ar319, q319, S319, N319, H319, G319⟩ := id V317p
            have hin319 : ¬ ((0 : Int32) < 0 ∨ cl319.slots.size ≤ ((0 : Int32)).toNatClampNeg) := inb_of S319 ⟨by decide, by decide⟩
            obtain ⟨T320, h320, X320, e320, W320, st320⟩ := stC X317 hx hZ e317 Ar319 (j := (0 : Int32)) hin319 (g := (mkF m 188 #[.val (.long y0_0), .second, .val (.long y1_0), .second, .val (.long y2_0), .second, .val (.long y3_0), .second, .val (.int x4_0), .val (.ref b1), .val (.long y0_0), .second, .val (.long y1_0), .second, .val (.int (((x4_0.toUInt32 >>> ((2 : Int32) &&& 31).toUInt32).toInt32) &&& (3 : Int32))), .val (.ref b317), .unset] [(.int (((y0_0 &&& (255 : Int64)).toInt32).toUInt32.toUInt16.toUInt32.toInt32)), (.int (0 : Int32)), (.ref b317)])) rfl rfl (hb hby at_188)
            refine own_step (fun t k => st320 _ k) ?_
            have V320 : Arv Z h320 b317 k317 .char (1 : Int32) [(.int (nar .char (((y0_0 &&& (255 : Int64)).toInt32).toUInt32.toUInt16.toUInt32.toInt32)))] (.int (0 : Int32)) := Arv.set Ar319 q319 S319 N319 H319 G319 (fits_nar_char _) W320 0 rfl (Nat.le_of_ble_eq_true rfl)
            have K321 : Keep h0 h320 [] := K318.wr W320 (Or.inr sz_b317)
            have N322 := Fr.snoc X320 N5 g_b317
            show own_Ends p.tables e below s _ _ _ (T320.setTop (mkF m 189 #[.val (.long y0_0), .second, .val (.long y1_0), .second, .val (.long y2_0), .second, .val (.long y3_0), .second, .val (.int x4_0), .val (.ref b1), .val (.long y0_0), .second, .val (.long y1_0), .second, .val (.int (((x4_0.toUInt32 >>> ((2 : Int32) &&& 31).toUInt32).toInt32) &&& (3 : Int32))), .val (.ref b317), .unset] []))
            refine own_step (fun t k => XS.aload X320.here hx rfl (hb hby at_189) rfl rfl k) ?_
            show own_Ends p.tables e below s _ _ _ (T320.setTop (mkF m 191 #[.val (.long y0_0), .second, .val (.long y1_0), .second, .val (.long y2_0), .second, .val (.long y3_0), .second, .val (.int x4_0), .val (.ref b1), .val (.long y0_0), .second, .val (.long y1_0), .second, .val (.int (((x4_0.toUInt32 >>> ((2 : Int32) &&& 31).toUInt32).toInt32) &&& (3 : Int32))), .val (.ref b317), .unset] [(.ref b1)]))
            have O323 : Old Z n0 h320 := ((O316.ext E317).wr W320 g_b317)
            have F324 : Exa Z h320 b1 "com/example/swanhall/swanhall/core/Cell" := ((p4_0.ext E317).wr W320)
            obtain ⟨T325, h325, X325, e325, E325, A325, D325, -, st325⟩ := newO X320 hx hZ hown (hw _ (List.mem_of_getElem? (i := 27) rfl)) (hw _ (List.mem_of_getElem? (i := 28) rfl)) (hw _ (List.mem_of_getElem? (i := 29) rfl)) e320 (g := (mkF m 191 #[.val (.long y0_0), .second, .val (.long y1_0), .second, .val (.long y2_0), .second, .val (.long y3_0), .second, .val (.int x4_0), .val (.ref b1), .val (.long y0_0), .second, .val (.long y1_0), .second, .val (.int (((x4_0.toUInt32 >>> ((2 : Int32) &&& 31).toUInt32).toInt32) &&& (3 : Int32))), .val (.ref b317), .unset] [(.ref b1)])) rfl (hb hby at_191) (by decide) (by decide)
            obtain ⟨b325, g325⟩ : ∃ z, z = h320.size := ⟨_, rfl⟩
            rw [← g325] at A325 D325 st325
            have g_b325 : n0 ≤ b325 := Nat.le_trans (Nat.le_trans (Nat.le_of_eq O323.1.symm) O323.2.1) (Nat.le_of_eq g325.symm)
            have sz_b325 : h0.size ≤ b325 := Nat.le_trans K321.1 (Nat.le_of_eq g325.symm)
            have ne_b1_b325 : b1 ≠ b325 := Nat.ne_of_lt (Nat.lt_of_lt_of_le F324.lt (Nat.le_of_eq g325.symm))
            have ne_b317_b325 : b317 ≠ b325 := Nat.ne_of_lt (Nat.lt_of_lt_of_le V320.lt (Nat.le_of_eq g325.symm))
            have F325_coder : Fld Z h325 b325 "java/lang/String" "coder" "B" (.int (0 : Int32)) := D325 (Or.inr (hw _ (List.mem_of_getElem? (i := 51) rfl))) (ty := .byte) (by decide)
            have F325_value : Fld Z h325 b325 "java/lang/String" "value" "[B" .null := D325 (Or.inr (hw _ (List.mem_of_getElem? (i := 53) rfl))) (ty := (.array .byte)) (by decide)
            refine own_step (fun t k => st325 _ k) ?_
            have K326 : Keep h0 h325 [] := K321.ext E325
            show own_Ends p.tables e below s _ _ _ (T325.setTop (mkF m 194 #[.val (.long y0_0), .second, .val (.long y1_0), .second, .val (.long y2_0), .second, .val (.long y3_0), .second, .val (.int x4_0), .val (.ref b1), .val (.long y0_0), .second, .val (.long y1_0), .second, .val (.int (((x4_0.toUInt32 >>> ((2 : Int32) &&& 31).toUInt32).toInt32) &&& (3 : Int32))), .val (.ref b317), .unset] [(.ref b325), (.ref b1)]))
            refine own_step (fun t k => XS.dup X325.here hx rfl (hb hby at_194) rfl rfl k) ?_
            show own_Ends p.tables e below s _ _ _ (T325.setTop (mkF m 195 #[.val (.long y0_0), .second, .val (.long y1_0), .second, .val (.long y2_0), .second, .val (.long y3_0), .second, .val (.int x4_0), .val (.ref b1), .val (.long y0_0), .second, .val (.long y1_0), .second, .val (.int (((x4_0.toUInt32 >>> ((2 : Int32) &&& 31).toUInt32).toInt32) &&& (3 : Int32))), .val (.ref b317), .unset] [(.ref b325), (.ref b325), (.ref b1)]))
            refine own_step (fun t k => XS.aload X325.here hx rfl (hb hby at_195) rfl rfl k) ?_
            show own_Ends p.tables e below s _ _ _ (T325.setTop (mkF m 197 #[.val (.long y0_0), .second, .val (.long y1_0), .second, .val (.long y2_0), .second, .val (.long y3_0), .second, .val (.int x4_0), .val (.ref b1), .val (.long y0_0), .second, .val (.long y1_0), .second, .val (.int (((x4_0.toUInt32 >>> ((2 : Int32) &&& 31).toUInt32).toInt32) &&& (3 : Int32))), .val (.ref b317), .unset] [(.ref b317), (.ref b325), (.ref b325), (.ref b1)]))
            have O327 : Old Z n0 h325 := (O323.ext E325)
            have F328 : Arv Z h325 b317 k317 .char (1 : Int32) [(.int (nar .char (((y0_0 &&& (255 : Int64)).toInt32).toUInt32.toUInt16.toUInt32.toInt32)))] (.int (0 : Int32)) := (V320.ext E325)
            have hws : ∀ d ∈ StrChars.Road.words, d.before a0 Z = true := fun d hd => hw d ((by decide +kernel : ∀ d ∈ StrChars.Road.words, d ∈ tables_1) d hd)
            obtain ⟨_, _, ⟨T329, L329, k329, n329⟩, -, X329, ⟨Lc329, hQ329, l329, y329, z329⟩, st329⟩ := X325.specialBack hx (y := (⟨"java/lang/String", "<init>", "([C)V"⟩ : MethodName)) rfl hown (mvT hZ (hw _ (List.mem_of_getElem? (i := 30) rfl))) (mvT hZ (hw _ (List.mem_of_getElem? (i := 31) rfl))) (mvT hZ (hw _ (List.mem_of_getElem? (i := 32) rfl))) (by decide) (StrChars.Road.backV (W := 2) hZ hws (kI := 4) (hw _ (List.mem_of_getElem? (i := 28) rfl)) (cs := [nar .char (((y0_0 &&& (255 : Int64)).toInt32).toUInt32.toUInt16.toUInt32.toInt32)]) (bs := [(nar .char (((y0_0 &&& (255 : Int64)).toInt32).toUInt32.toUInt16.toUInt32.toInt32)).toInt8.toInt32]) (n := 1) g_b325 (Nat.le_trans (Nat.le_of_eq O327.1.symm) O327.2.1) A325 F325_value F325_coder F328 (S_COMPACT_STRINGS.ext O327.2) hcs rfl rfl (by decide) (by decide) (own_lat y0_0) rfl (by decide) (by decide)) (g := (mkF m 197 #[.val (.long y0_0), .second, .val (.long y1_0), .second, .val (.long y2_0), .second, .val (.long y3_0), .second, .val (.int x4_0), .val (.ref b1), .val (.long y0_0), .second, .val (.long y1_0), .second, .val (.int (((x4_0.toUInt32 >>> ((2 : Int32) &&& 31).toUInt32).toInt32) &&& (3 : Int32))), .val (.ref b317), .unset] [(.ref b317), (.ref b325), (.ref b325), (.ref b1)])) rfl (by rw [hml]; rfl) (Steps.refl _) (a := b325) (argsL := [(.ref b317)]) (rest := [(.ref b325), (.ref b1)]) (lenOf pd_5 rfl) rfl (by show 2 * 0 + _ ≤ _; exact Nat.le_of_eq rfl) (hb hby at_197) (fun _ _ => ⟨rfl, e325, (by decide : 3 + 1 ≤ _), (by decide : 7 + 1 ≤ _)⟩)
            dsimp only [Pt.U, Pt.locs, Pt.cells, Pt.slots] at X329 l329 y329 z329 st329 hQ329
            subst y329 z329
            obtain ⟨rfl, N329q, K329q, -⟩ := hQ329
            refine own_step (fun t k => st329.trans k) ?_
            have N330 : Fr n0 L329 := by rw [l329]; exact Fr.app N322 N329q
            have K331 : Keep h0 T329.heap [] := K326.trans K329q (allS (Or.inr sz_b325) all0)
            show own_Ends p.tables e below s _ _ _ (T329.setTop (mkF m 200 #[.val (.long y0_0), .second, .val (.long y1_0), .second, .val (.long y2_0), .second, .val (.long y3_0), .second, .val (.int x4_0), .val (.ref b1), .val (.long y0_0), .second, .val (.long y1_0), .second, .val (.int (((x4_0.toUInt32 >>> ((2 : Int32) &&& 31).toUInt32).toInt32) &&& (3 : Int32))), .val (.ref b317), .unset] [(.ref b325), (.ref b1)]))
            have F332 : Exa Z T329.heap b325 "java/lang/String" := (A325.keep K329q)
            have O333 : Old Z n0 T329.heap := (O327.keep K329q (allS g_b325 all0))
            have F335 : Exa Z T329.heap b1 "com/example/swanhall/swanhall/core/Cell" := ((F324.ext E325).keep K329q)
            obtain ⟨cq334, kq334, q334a, q334b, q334c⟩ := isOf hZ rfl F335
            obtain ⟨_, _, ⟨T334, L334, k334, n334⟩, -, X334, ⟨Lc334, hQ334, l334, y334, z334⟩, st334⟩ := X329.virtualBack hx (y := (⟨"com/example/swanhall/swanhall/core/Cell", "equals", "(Ljava/lang/Object;)Z"⟩ : MethodName)) (z := (⟨"com/example/swanhall/swanhall/core/Cell", "equals", "(Ljava/lang/Object;)Z"⟩ : MethodName)) hown (mvT hZ (hw _ (List.mem_of_getElem? (i := 18) rfl))) (mvT hZ (hw _ (List.mem_of_getElem? (i := 19) rfl))) (notFace_of_selects (args := #[]) (mvT hZ (hw _ (List.mem_of_getElem? (i := 21) rfl)))) (mvT hZ (hw _ (List.mem_of_getElem? (i := 21) rfl))) (mvT hZ (hw _ (List.mem_of_getElem? (i := 20) rfl))) (by decide) (backOf (W := 0) (rm4s l Z a0 hw [] b1 b325 T329.heap n0 O333 F332) hZ (hw _ (List.mem_of_getElem? (i := 22) rfl)) (hw _ (List.mem_of_getElem? (i := 2) rfl)) (by decide) (by decide)) q334a q334c (g := (mkF m 200 #[.val (.long y0_0), .second, .val (.long y1_0), .second, .val (.long y2_0), .second, .val (.long y3_0), .second, .val (.int x4_0), .val (.ref b1), .val (.long y0_0), .second, .val (.long y1_0), .second, .val (.int (((x4_0.toUInt32 >>> ((2 : Int32) &&& 31).toUInt32).toInt32) &&& (3 : Int32))), .val (.ref b317), .unset] [(.ref b325), (.ref b1)])) rfl (by rw [hml]; rfl) (Steps.refl _) (argsL := [(.ref b325)]) (rest := []) (lenOf pd_3 rfl) rfl (by show 2 * 0 + _ ≤ _; exact Nat.le_of_eq rfl) (hb hby at_200) (fun _ _ => ⟨rfl, rfl, (by decide : 4 + 0 ≤ _), (by decide : 8 + 0 ≤ _)⟩)
            dsimp only [Pt.U, Pt.locs, Pt.cells, Pt.slots] at X334 l334 y334 z334 st334 hQ334
            subst y334 z334
            obtain ⟨rfl, N334q, e334⟩ := hQ334
            refine own_step (fun t k => st334.trans k) ?_
            have N336 : Fr n0 L334 := by rw [l334]; exact Fr.app N330 N334q
            show own_Ends p.tables e below s _ _ _ (T334.setTop (mkF m 203 #[.val (.long y0_0), .second, .val (.long y1_0), .second, .val (.long y2_0), .second, .val (.long y3_0), .second, .val (.int x4_0), .val (.ref b1), .val (.long y0_0), .second, .val (.long y1_0), .second, .val (.int (((x4_0.toUInt32 >>> ((2 : Int32) &&& 31).toUInt32).toInt32) &&& (3 : Int32))), .val (.ref b317), .unset] [(.int (0 : Int32))]))
            refine own_step (fun t k => XS.ifNo X334.here hx rfl (hb hby at_203) rfl ((if0 _ _).trans (teq (by decide : (0 : Int32) = (0 : Int32))).2) k) ?_
            show own_Ends p.tables e below s _ _ _ (T334.setTop (mkF m 206 #[.val (.long y0_0), .second, .val (.long y1_0), .second, .val (.long y2_0), .second, .val (.long y3_0), .second, .val (.int x4_0), .val (.ref b1), .val (.long y0_0), .second, .val (.long y1_0), .second, .val (.int (((x4_0.toUInt32 >>> ((2 : Int32) &&& 31).toUInt32).toInt32) &&& (3 : Int32))), .val (.ref b317), .unset] []))
            refine own_step (fun t k => XS.iconst X334.here hx rfl (hb hby at_206) k) ?_
            show own_Ends p.tables e below s _ _ _ (T334.setTop (mkF m 207 #[.val (.long y0_0), .second, .val (.long y1_0), .second, .val (.long y2_0), .second, .val (.long y3_0), .second, .val (.int x4_0), .val (.ref b1), .val (.long y0_0), .second, .val (.long y1_0), .second, .val (.int (((x4_0.toUInt32 >>> ((2 : Int32) &&& 31).toUInt32).toInt32) &&& (3 : Int32))), .val (.ref b317), .unset] [(.int (1 : Int32))]))
            refine own_step (fun t k => XS.goto X334.here hx rfl (pc0 := 207) (pc' := 211) rfl (hb hby at_207) (by decide) (by decide) k) ?_
            show own_Ends p.tables e below s _ _ _ (T334.setTop (mkF m 211 #[.val (.long y0_0), .second, .val (.long y1_0), .second, .val (.long y2_0), .second, .val (.long y3_0), .second, .val (.int x4_0), .val (.ref b1), .val (.long y0_0), .second, .val (.long y1_0), .second, .val (.int (((x4_0.toUInt32 >>> ((2 : Int32) &&& 31).toUInt32).toInt32) &&& (3 : Int32))), .val (.ref b317), .unset] [(.int (1 : Int32))]))
            exact own_retN X334 hx (t := .boolean) Bd.returns (by simp) (hb hby at_211) hnl (by rw [e334]; exact ⟨rfl, N336⟩) (by decide) (by decide)
set_option maxRecDepth 65536 in
set_option maxHeartbeats 40000000 in
theorem comes_1 {Post : Tables → Env → Array Value → State → Outcome → State → Prop} (hpost : ∀ tb e args s v u, (limb_1_1.after args s (.returned v) u = true ∧ limb_1_2.after args s (.returned v) u = true ∧ True) → FrameEnd s (.returned v) u (Jvm.fieldLocs frame_1_writes args s ++ Jvm.arrayLocs frame_1_arrays args s ++ Jvm.staticLocs frame_1_statics s) 16 128 → Post tb e args s (.returned v) u) :
    ArmFor flags0 classFile x code maxLocals ret World_1 tables_1 room_1 Calls_1 rest_1 Pre_1 Post := by
  intro l hfl _ _ p e ha hc hk s m args below hf hA hF happ hP
  obtain ⟨hcalls, hrest, hpre⟩ := hP
  obtain ⟨-, -, -, hnamed, -, -, -, hat⟩ := (Spec.applies_iff hf).mp happ
  obtain ⟨hg, hn⟩ := and_e (Cond.before_iff.mp (show (Jvm.Cond.and given_1 narrow_1).before args s = true from hpre))
  obtain ⟨hh1a, hh1b⟩ := and_e hg
  obtain ⟨hh2a, hh2b⟩ := and_e hh1b
  obtain ⟨hh3a, hh3b⟩ := and_e hh2b
  obtain ⟨hh4a, hh4b⟩ := and_e hh3b
  obtain ⟨hh5a, hh5b⟩ := and_e hh4b
  obtain ⟨w0, w1, w2, w3, w4, rfl⟩ : ∃ w0 w1 w2 w3 w4 : Value, args = #[w0, w1, w2, w3, w4] := by
    have hs : args.size = 5 := by simpa [Cond.value, given_1] using hh1a
    obtain ⟨L⟩ := args
    match L, hs with
    | [w0, w1, w2, w3, w4], _ => exact ⟨w0, w1, w2, w3, w4, rfl⟩
  have hw := fun d (hd : d ∈ tables_1) => atoms_spec (ws := Jvm.Cond.code x code maxLocals ret :: tables_1) hat d (List.mem_cons_of_mem _ hd)
  have hfit : Fit s := fun {y c} hc i hi => by
    obtain ⟨ha, rfl⟩ := Array.getElem?_eq_some_iff.mp hc
    have q := List.all_eq_true.mp ((Array.all_eq_true_iff_forall_mem.mp hF) _ (Array.getElem_mem ha)) i (List.mem_range.mpr hi)
    simpa [Array.getElem?_eq_getElem hi] using q
  obtain ⟨hsets, hown0⟩ := atoms_of _ (rest_1_c_eq ▸ (show rest_1_c.before _ s = true from hrest))
  have hr0 := Cond.before_iff.mp hown0
  obtain ⟨i0, ei0⟩ := isL_v hh2a
  obtain rfl : w0 = (.long i0) := Option.some.inj ei0
  obtain ⟨i1, ei1⟩ := isL_v hh3a
  obtain rfl : w1 = (.long i1) := Option.some.inj ei1
  obtain ⟨i2, ei2⟩ := isL_v hh4a
  obtain rfl : w2 = (.long i2) := Option.some.inj ei2
  obtain ⟨i3, ei3⟩ := isL_v hh5a
  obtain rfl : w3 = (.long i3) := Option.some.inj ei3
  obtain ⟨i4, ei4⟩ := is_v hh5b
  obtain rfl : w4 = (.int i4) := Option.some.inj ei4
  have n3 := not_v (Cond.before_iff.mp (hsets _ (List.mem_of_getElem? (i := 2) rfl)))
  obtain ⟨w_COMPACT_STRINGS, e6⟩ := is_v (Cond.before_iff.mp (hsets _ (List.mem_of_getElem? (i := 1) rfl)))
  have S_COMPACT_STRINGS : Sta s s.heap "java/lang/String" "COMPACT_STRINGS" "Z" (.int w_COMPACT_STRINGS) := Sta.start e6 (Or.inl (hsets _ (List.mem_of_getElem? (i := 0) rfl)))
  have hcs : ¬ (w_COMPACT_STRINGS = (0 : Int32)) := gotF (Cond.eq_ints e6 (Term.int_eval (0))) n3
  obtain ⟨w_cache, ev_c⟩ := exa_v (Cond.before_iff.mp (hsets _ (List.mem_of_getElem? (i := 12) rfl)))
  have S_cache : Sta s s.heap "java/lang/Long$LongCache" "cache" "[Ljava/lang/Long;" (.ref w_cache) := Sta.start ev_c (Or.inl (hsets _ (List.mem_of_getElem? (i := 10) rfl)))
  obtain ⟨clC, BXA⟩ := Arr.start ev_c (Cond.before_iff.mp (hsets _ (List.mem_of_getElem? (i := 11) rfl)))
  obtain ⟨hq1, hq2⟩ := own_len ev_c (Cond.before_iff.mp (hsets _ (List.mem_of_getElem? (i := 13) rfl))) (Arr.fin (Vm.Alike.refl _) BXA)
  have BXS : clC.slots.size = (256 : Int32).toNatClampNeg := by rw [← hq2]; simp only [Int32.toNatClampNeg, len_toInt hq1]; rfl
  have BXB := own_cache (fun _ => ev_c) BXA (Cond.before_iff.mp (hsets _ (List.mem_of_getElem? (i := 14) rfl)))
  obtain ⟨n, o, h1, h2, h3, _, L, rfl, ⟨rfl, N⟩, hq⟩ := rm0 l s _ hw tables_1 w_COMPACT_STRINGS w_cache clC i0 i1 i2 i3 i4 s.heap s.heap.size (Old.start s) S_COMPACT_STRINGS BXA BXS BXB hcs S_cache p e ha hc hk s m _ below hf ((Spec.applies_iff_loose hf).mp happ).1 ⟨rfl, State.Warmed39.refl s, rfl⟩ trivial
  refine ⟨n, _, h1, h2, h3, hpost _ _ _ _ _ _ ⟨Cond.after_iff.mpr rfl, Cond.after_iff.mpr (eq_i res_at (Term.int_eval (1)) rfl), trivial⟩ ⟨hq.1, hq.2.1, (hq.2.2.sift fun y hy => Or.inr (N y hy)).mono (by decide) (by decide)⟩⟩
theorem main_1_1 : Claimed_1_1 := comes_1 fun _ _ _ _ _ _ h hF => ⟨h.1, hF⟩
theorem main_1_2 : Claimed_1_2 := comes_1 fun _ _ _ _ _ _ h hF => ⟨h.2.1, hF⟩
end Jvm.Pilot.@@N@@
namespace Jvm.Pilot.@@N@@
open Jvm Jvm.ClassFile Sem Op Lib Jvm.Free Jvm.Stand Jvm.Pilot.@@N@@.Jvm.D
/-! MADE BY PROGRAM (witnessworld.py) out of the Statement's table words and the real class files: 25 classes; the members and pool entries that the words name. The judged class is class 1, her method 1. -/
namespace start1
open Jvm.ClassFile
def u (s : String) : CpInfo := .utf8 (stringToUtf16 s)
/-- a pool by its gaps: so many unusable entries, then the entry; so many at the end -/
def gap : Nat → List CpInfo → List CpInfo
  | 0, r => r
  | n + 1, r => .unusable :: gap n r
def poolList (es : List (Nat × CpInfo)) (last : Nat) : List CpInfo := es.foldr (fun e r => gap e.1 (e.2 :: r)) (gap last [])
def pool (es : List (Nat × CpInfo)) (last : Nat) : Array CpInfo := ⟨poolList es last⟩
def fileOf (pool : Array CpInfo) (this : Nat) (attrs : Array Attribute := #[]) (ms : Array MethodInfo := #[]) (fl : Nat := 33) (sup : Nat := 0) (ifs : Array Nat := #[]) (fds : Array FieldInfo := #[]) : ClassFile where
  minorVersion := 0
  majorVersion := 65
  constantPool := pool
  accessFlags := fl
  thisClass := this
  superClass := sup
  interfaces := ifs
  fields := fds
  methods := ms
  attributes := attrs
def plain (name : String) (sup : Option ClassId) : Class where
  name := name
  kind := .ordinary
  loader := none
  accessFlags := 33
  super := sup
  interfaces := #[]
  cf := none
  fields := #[]
  methods := #[]
  instanceTypes := #[]
  staticTypes := #[]
  resolved := #[]
  callSites := []
  init := .initialized
  statics := none
  mirror := none

def pool0 : Array CpInfo := pool [(5, u "<init>"), (0, u "()V"), (1, .class_ 10), (1, u "java/lang/Object")] 113

def k0c0 : Code := { maxStack := 0, maxLocals := 1, code := object_method_1_code, exceptionTable := #[], attributes := #[] }
def k0m0 : Method := { name := "<init>", desc := "()V", sig := { parameters := [], returnType := none }, accessFlags := 1, code := some k0c0 }
/-- java/lang/Object -/
def k0 : Class := { plain "java/lang/Object" none with
  accessFlags := 33
  interfaces := #[]
  cf := some (fileOf pool0 8 #[] #[{ accessFlags := 1, nameIndex := 5, descriptorIndex := 6, attributes := #[] }] 33 0 #[] #[])
  fields := #[]
  methods := #[k0m0]
  instanceTypes := #[]
  staticTypes := #[]
  resolved := Array.replicate 124 none
  statics := none }

def pool1 : Array CpInfo := pool [(2, .class_ 4), (1, u "java/lang/Object"), (0, u "<init>"), (0, u "()V"), (0, .class_ 8), (0, u "com/example/swanhall/swanhall/core/Cell"), (0, .methodref 7 10), (0, .nameAndType 5 11), (0, u "(JJ)V"), (0, .methodref 7 13), (0, .nameAndType 14 15), (0, u "equals"), (0, u "(Ljava/lang/Object;)Z"), (0, .methodref 17 18), (0, .class_ 19), (0, .nameAndType 20 21), (0, u "java/lang/Long"), (0, u "valueOf"), (0, u "(J)Ljava/lang/Long;"), (0, .long 255), (1, .class_ 25), (0, u "java/lang/String"), (0, .methodref 24 27), (0, .nameAndType 5 28), (0, u "([C)V"), (0, .class_ 30), (0, u "com/example/swanhall/swanhall/core/CellEqualsPinLaw"), (2, u "law"), (0, u "(JJJJI)Z")] 5

def k1m0 : Method := { name := "<init>", desc := "()V", sig := { parameters := [], returnType := none }, accessFlags := 2, code := none }
def k1c1 : Code := { maxStack := 6, maxLocals := 17, code := code, exceptionTable := #[], attributes := #[] }
def k1m1 : Method := { name := "law", desc := "(JJJJI)Z", sig := { parameters := [.long, .long, .long, .long, .int], returnType := some .boolean }, accessFlags := 9, code := some k1c1 }
/-- com/example/swanhall/swanhall/core/CellEqualsPinLaw -/
def k1 : Class := { plain "com/example/swanhall/swanhall/core/CellEqualsPinLaw" (some 0) with
  accessFlags := 49
  interfaces := #[]
  cf := some (fileOf pool1 29 #[] #[{ accessFlags := 2, nameIndex := 5, descriptorIndex := 6, attributes := #[] }, { accessFlags := 9, nameIndex := 33, descriptorIndex := 34, attributes := #[] }] 49 2 #[] #[])
  fields := #[]
  methods := #[k1m0, k1m1]
  instanceTypes := #[]
  staticTypes := #[]
  resolved := Array.replicate 40 none
  statics := none }

def pool2 : Array CpInfo := pool [(1, .methodref 2 3), (0, .class_ 4), (0, .nameAndType 5 6), (0, u "java/lang/Object"), (0, u "<init>"), (0, u "()V"), (0, .class_ 8), (0, u "java/lang/Record")] 13

def k2c0 : Code := { maxStack := 1, maxLocals := 1, code := jdk_30_method_1_code, exceptionTable := #[], attributes := #[] }
def k2m0 : Method := { name := "<init>", desc := "()V", sig := { parameters := [], returnType := none }, accessFlags := 4, code := some k2c0 }
/-- java/lang/Record -/
def k2 : Class := { plain "java/lang/Record" (some 0) with
  accessFlags := 1057
  interfaces := #[]
  cf := some (fileOf pool2 7 #[] #[{ accessFlags := 4, nameIndex := 5, descriptorIndex := 6, attributes := #[] }] 1057 2 #[] #[])
  fields := #[]
  methods := #[k2m0]
  instanceTypes := #[]
  staticTypes := #[]
  resolved := Array.replicate 22 none
  statics := none }

def pool3 : Array CpInfo := pool [(1, .methodref 2 3), (0, .class_ 4), (0, .nameAndType 5 6), (0, u "java/lang/Record"), (0, u "<init>"), (0, u "()V"), (0, .fieldref 8 9), (0, .class_ 10), (0, .nameAndType 11 12), (0, u "com/example/swanhall/swanhall/core/Cell"), (0, u "x"), (0, u "J"), (0, .fieldref 8 14), (0, .nameAndType 15 12), (0, u "y"), (11, u "(JJ)V"), (29, u "equals"), (0, u "(Ljava/lang/Object;)Z")] 31

def k3c0 : Code := { maxStack := 3, maxLocals := 5, code := prog_29_method_1_code, exceptionTable := #[], attributes := #[] }
def k3m0 : Method := { name := "<init>", desc := "(JJ)V", sig := { parameters := [.long, .long], returnType := none }, accessFlags := 1, code := some k3c0 }
def k3c1 : Code := { maxStack := 4, maxLocals := 3, code := prog_29_method_5_code, exceptionTable := #[], attributes := #[] }
def k3m1 : Method := { name := "equals", desc := "(Ljava/lang/Object;)Z", sig := { parameters := [(.object "java/lang/Object")], returnType := some .boolean }, accessFlags := 1, code := some k3c1 }
/-- com/example/swanhall/swanhall/core/Cell -/
def k3 : Class := { plain "com/example/swanhall/swanhall/core/Cell" (some 2) with
  accessFlags := 49
  interfaces := #[]
  cf := some (fileOf pool3 8 #[] #[{ accessFlags := 1, nameIndex := 5, descriptorIndex := 27, attributes := #[] }, { accessFlags := 1, nameIndex := 57, descriptorIndex := 58, attributes := #[] }] 49 2 #[] #[{ accessFlags := 18, nameIndex := 11, descriptorIndex := 12, attributes := #[] }, { accessFlags := 18, nameIndex := 15, descriptorIndex := 12, attributes := #[] }])
  fields := #[{ name := "x", type := .long, accessFlags := 18, slot := 0, constantValue := 0 }, { name := "y", type := .long, accessFlags := 18, slot := 1, constantValue := 0 }]
  methods := #[k3m0, k3m1]
  instanceTypes := #[.long, .long]
  staticTypes := #[]
  resolved := Array.replicate 90 none
  statics := none }

def pool4 : Array CpInfo := pool [(1, .class_ 2), (0, u "java/io/Serializable"), (0, .class_ 4), (0, u "java/lang/Object")] 2

/-- java/io/Serializable -/
def k4 : Class := { plain "java/io/Serializable" (some 0) with
  accessFlags := 1537
  interfaces := #[]
  cf := some (fileOf pool4 1 #[] #[] 1537 3 #[] #[])
  fields := #[]
  methods := #[]
  instanceTypes := #[]
  staticTypes := #[]
  resolved := Array.replicate 7 none
  statics := none }

def pool5 : Array CpInfo := pool [(1, .class_ 2), (0, u "java/lang/Comparable"), (0, .class_ 4), (0, u "java/lang/Object")] 7

/-- java/lang/Comparable -/
def k5 : Class := { plain "java/lang/Comparable" (some 0) with
  accessFlags := 1537
  interfaces := #[]
  cf := some (fileOf pool5 1 #[] #[] 1537 3 #[] #[])
  fields := #[]
  methods := #[]
  instanceTypes := #[]
  staticTypes := #[]
  resolved := Array.replicate 12 none
  statics := none }

def pool6 : Array CpInfo := pool [(2, .class_ 4), (1, u "java/lang/CharSequence"), (42, .class_ 48), (0, u "java/lang/CharSequence$1CodePointIterator"), (10, .class_ 60), (0, u "java/lang/CharSequence$1CharIterator"), (5, .class_ 67), (0, u "java/lang/Object")] 63

/-- java/lang/CharSequence -/
def k6 : Class := { plain "java/lang/CharSequence" (some 0) with
  accessFlags := 1537
  interfaces := #[]
  cf := some (fileOf pool6 2 #[.nestMembers #[47, 59]] #[] 1537 66 #[] #[])
  fields := #[]
  methods := #[]
  instanceTypes := #[]
  staticTypes := #[]
  resolved := Array.replicate 131 none
  statics := none }

def pool7 : Array CpInfo := pool [(1, .class_ 2), (0, u "java/lang/constant/Constable"), (0, .class_ 4), (0, u "java/lang/Object")] 6

/-- java/lang/constant/Constable -/
def k7 : Class := { plain "java/lang/constant/Constable" (some 0) with
  accessFlags := 1537
  interfaces := #[]
  cf := some (fileOf pool7 1 #[] #[] 1537 3 #[] #[])
  fields := #[]
  methods := #[]
  instanceTypes := #[]
  staticTypes := #[]
  resolved := Array.replicate 11 none
  statics := none }

def pool8 : Array CpInfo := pool [(1, .class_ 2), (0, u "java/lang/constant/ConstantDesc"), (0, .class_ 4), (0, u "java/lang/Object")] 32

/-- java/lang/constant/ConstantDesc -/
def k8 : Class := { plain "java/lang/constant/ConstantDesc" (some 0) with
  accessFlags := 1537
  interfaces := #[]
  cf := some (fileOf pool8 1 #[] #[] 1537 3 #[] #[])
  fields := #[]
  methods := #[]
  instanceTypes := #[]
  staticTypes := #[]
  resolved := Array.replicate 37 none
  statics := none }

def pool9 : Array CpInfo := pool [(1, .methodref 2 3), (0, .class_ 4), (0, .nameAndType 5 6), (0, u "java/lang/Object"), (0, u "<init>"), (0, u "()V"), (2, .fieldref 10 11), (0, .class_ 12), (0, .nameAndType 13 14), (0, u "java/lang/String"), (0, u "value"), (0, u "[B"), (0, .fieldref 10 16), (0, .nameAndType 17 18), (0, u "coder"), (0, u "B"), (2, u "hash"), (0, u "I"), (2, u "hashIsZero"), (0, u "Z"), (0, .methodref 10 28), (0, .nameAndType 5 29), (0, u "([CIILjava/lang/Void;)V"), (8, .fieldref 10 39), (0, .nameAndType 40 26), (0, u "COMPACT_STRINGS"), (1, .class_ 44), (1, u "java/lang/StringUTF16"), (0, u "compress"), (1, .methodref 42 48), (0, .nameAndType 49 50), (0, u "coderFromArrayLen"), (0, u "([BI)B"), (126, .methodref 42 178), (0, .nameAndType 45 179), (0, u "([CII)[B"), (395, .class_ 576), (0, u "java/lang/CharSequence"), (22, u "CASE_INSENSITIVE_ORDER"), (0, u "Ljava/util/Comparator;"), (409, u "([C)V"), (90, u "serialPersistentFields"), (0, u "[Ljava/io/ObjectStreamField;"), (0, .class_ 1104), (0, u "java/lang/String$CaseInsensitiveComparator"), (1, .class_ 1107), (0, u "java/io/Serializable"), (0, .class_ 1109), (0, u "java/lang/Comparable"), (0, .class_ 1111), (0, u "java/lang/constant/Constable"), (0, .class_ 1113), (0, u "java/lang/constant/ConstantDesc"), (2, u "serialVersionUID"), (0, u "J"), (3, u "REPL"), (0, u "C"), (2, u "LATIN1"), (1, u "UTF16")] 323

def k9m0 : Method := { name := "<init>", desc := "()V", sig := { parameters := [], returnType := none }, accessFlags := 1, code := none }
def k9c1 : Code := { maxStack := 5, maxLocals := 2, code := jdk_42_method_3_code, exceptionTable := #[], attributes := #[] }
def k9m1 : Method := { name := "<init>", desc := "([C)V", sig := { parameters := [(.array .char)], returnType := none }, accessFlags := 1, code := some k9c1 }
def k9c2 : Code := { maxStack := 4, maxLocals := 6, code := jdk_42_method_149_code, exceptionTable := #[], attributes := #[] }
def k9m2 : Method := { name := "<init>", desc := "([CIILjava/lang/Void;)V", sig := { parameters := [(.array .char), .int, .int, (.object "java/lang/Void")], returnType := none }, accessFlags := 2, code := some k9c2 }
/-- java/lang/String -/
def k9 : Class := { plain "java/lang/String" (some 0) with
  accessFlags := 49
  interfaces := #[4, 5, 6, 7, 8]
  cf := some (fileOf pool9 10 #[.nestMembers #[1103]] #[{ accessFlags := 1, nameIndex := 5, descriptorIndex := 6, attributes := #[] }, { accessFlags := 1, nameIndex := 5, descriptorIndex := 1010, attributes := #[] }, { accessFlags := 2, nameIndex := 5, descriptorIndex := 29, attributes := #[] }] 49 2 #[1106, 1108, 575, 1110, 1112] #[{ accessFlags := 18, nameIndex := 13, descriptorIndex := 14, attributes := #[] }, { accessFlags := 18, nameIndex := 17, descriptorIndex := 18, attributes := #[] }, { accessFlags := 2, nameIndex := 21, descriptorIndex := 22, attributes := #[] }, { accessFlags := 2, nameIndex := 25, descriptorIndex := 26, attributes := #[] }, { accessFlags := 26, nameIndex := 1116, descriptorIndex := 1117, attributes := #[] }, { accessFlags := 24, nameIndex := 40, descriptorIndex := 26, attributes := #[] }, { accessFlags := 26, nameIndex := 1101, descriptorIndex := 1102, attributes := #[] }, { accessFlags := 26, nameIndex := 1121, descriptorIndex := 1122, attributes := #[] }, { accessFlags := 25, nameIndex := 599, descriptorIndex := 600, attributes := #[] }, { accessFlags := 24, nameIndex := 1125, descriptorIndex := 18, attributes := #[] }, { accessFlags := 24, nameIndex := 1127, descriptorIndex := 18, attributes := #[] }])
  fields := #[{ name := "value", type := (.array .byte), accessFlags := 18, slot := 0, constantValue := 0 }, { name := "coder", type := .byte, accessFlags := 18, slot := 1, constantValue := 0 }, { name := "hash", type := .int, accessFlags := 2, slot := 2, constantValue := 0 }, { name := "hashIsZero", type := .boolean, accessFlags := 2, slot := 3, constantValue := 0 }, { name := "serialVersionUID", type := .long, accessFlags := 26, slot := 0, constantValue := 0 }, { name := "COMPACT_STRINGS", type := .boolean, accessFlags := 24, slot := 1, constantValue := 0 }, { name := "serialPersistentFields", type := (.array (.object "java/io/ObjectStreamField")), accessFlags := 26, slot := 2, constantValue := 0 }, { name := "REPL", type := .char, accessFlags := 26, slot := 3, constantValue := 0 }, { name := "CASE_INSENSITIVE_ORDER", type := (.object "java/util/Comparator"), accessFlags := 25, slot := 4, constantValue := 0 }, { name := "LATIN1", type := .byte, accessFlags := 24, slot := 5, constantValue := 0 }, { name := "UTF16", type := .byte, accessFlags := 24, slot := 6, constantValue := 0 }]
  methods := #[k9m0, k9m1, k9m2]
  instanceTypes := #[(.array .byte), .byte, .int, .boolean]
  staticTypes := #[.long, .boolean, (.array (.object "java/io/ObjectStreamField")), .char, (.object "java/util/Comparator"), .byte, .byte]
  resolved := Array.replicate 1451 none
  statics := some 0 }

def pool10 : Array CpInfo := pool [(6, .class_ 8), (1, u "java/lang/Object"), (0, u "<init>"), (0, u "()V"), (1, .class_ 14), (1, u "java/lang/StringUTF16"), (31, u "$assertionsDisabled"), (0, u "Z"), (13, u "HI_BYTE_SHIFT"), (0, u "I"), (2, u "LO_BYTE_SHIFT"), (49, .methodref 12 116), (0, .nameAndType 117 118), (0, u "compress"), (0, u "([CI[BII)I"), (3, u "([CII)[B"), (138, u "coderFromArrayLen"), (0, u "([BI)B"), (106, .class_ 371), (1, u "java/lang/StringUTF16$LinesSpliterator"), (58, u "MAX_LENGTH"), (196, .class_ 628), (0, u "java/lang/StringUTF16$CodePointsSpliterator"), (0, .class_ 630), (0, u "java/lang/StringUTF16$CharsSpliterator")] 4

def k10m0 : Method := { name := "<init>", desc := "()V", sig := { parameters := [], returnType := none }, accessFlags := 0, code := none }
def k10c1 : Code := { maxStack := 2, maxLocals := 2, code := jdk_52_method_15_code, exceptionTable := #[], attributes := #[] }
def k10m1 : Method := { name := "coderFromArrayLen", desc := "([BI)B", sig := { parameters := [(.array .byte), .int], returnType := some .byte }, accessFlags := 8, code := some k10c1 }
def k10c2 : Code := { maxStack := 5, maxLocals := 6, code := jdk_52_method_16_code, exceptionTable := #[], attributes := #[] }
def k10m2 : Method := { name := "compress", desc := "([CII)[B", sig := { parameters := [(.array .char), .int, .int], returnType := some (.array .byte) }, accessFlags := 9, code := some k10c2 }
def k10c3 : Code := { maxStack := 3, maxLocals := 7, code := jdk_52_method_21_code, exceptionTable := #[], attributes := #[] }
def k10m3 : Method := { name := "compress", desc := "([CI[BII)I", sig := { parameters := [(.array .char), .int, (.array .byte), .int, .int], returnType := some .int }, accessFlags := 9, code := some k10c3 }
/-- java/lang/StringUTF16 -/
def k10 : Class := { plain "java/lang/StringUTF16" (some 0) with
  accessFlags := 48
  interfaces := #[]
  cf := some (fileOf pool10 12 #[.nestMembers #[627, 629, 369]] #[{ accessFlags := 0, nameIndex := 9, descriptorIndex := 10, attributes := #[] }, { accessFlags := 8, nameIndex := 261, descriptorIndex := 262, attributes := #[] }, { accessFlags := 9, nameIndex := 117, descriptorIndex := 122, attributes := #[] }, { accessFlags := 9, nameIndex := 117, descriptorIndex := 118, attributes := #[] }] 48 6 #[] #[{ accessFlags := 26, nameIndex := 61, descriptorIndex := 62, attributes := #[] }, { accessFlags := 26, nameIndex := 65, descriptorIndex := 62, attributes := #[] }, { accessFlags := 24, nameIndex := 430, descriptorIndex := 62, attributes := #[] }, { accessFlags := 4120, nameIndex := 46, descriptorIndex := 47, attributes := #[] }])
  fields := #[{ name := "HI_BYTE_SHIFT", type := .int, accessFlags := 26, slot := 0, constantValue := 0 }, { name := "LO_BYTE_SHIFT", type := .int, accessFlags := 26, slot := 1, constantValue := 0 }, { name := "MAX_LENGTH", type := .int, accessFlags := 24, slot := 2, constantValue := 0 }, { name := "$assertionsDisabled", type := .boolean, accessFlags := 4120, slot := 3, constantValue := 0 }]
  methods := #[k10m0, k10m1, k10m2, k10m3]
  instanceTypes := #[]
  staticTypes := #[.int, .int, .int, .boolean]
  resolved := Array.replicate 635 none
  statics := none }

def pool11 : Array CpInfo := pool [(1, .methodref 2 3), (0, .class_ 4), (0, .nameAndType 5 6), (0, u "java/lang/Object"), (0, u "<init>"), (0, u "()V"), (1, .class_ 10), (1, u "java/lang/Number"), (2, .class_ 14), (0, u "java/io/Serializable"), (0, u "serialVersionUID"), (0, u "J")] 20

def k11c0 : Code := { maxStack := 1, maxLocals := 1, code := jdk_18_method_1_code, exceptionTable := #[], attributes := #[] }
def k11m0 : Method := { name := "<init>", desc := "()V", sig := { parameters := [], returnType := none }, accessFlags := 1, code := some k11c0 }
/-- java/lang/Number -/
def k11 : Class := { plain "java/lang/Number" (some 0) with
  accessFlags := 1057
  interfaces := #[4]
  cf := some (fileOf pool11 8 #[] #[{ accessFlags := 1, nameIndex := 5, descriptorIndex := 6, attributes := #[] }] 1057 2 #[13] #[{ accessFlags := 26, nameIndex := 15, descriptorIndex := 16, attributes := #[] }])
  fields := #[{ name := "serialVersionUID", type := .long, accessFlags := 26, slot := 0, constantValue := 0 }]
  methods := #[k11m0]
  instanceTypes := #[]
  staticTypes := #[.long]
  resolved := Array.replicate 37 none
  statics := none }

def pool12 : Array CpInfo := pool [(1, .class_ 2), (0, u "java/lang/Long"), (55, .nameAndType 59 60), (0, u "<init>"), (0, u "()V"), (24, u "valueOf"), (143, u "(J)Ljava/lang/Long;"), (0, .long 18446744073709551488), (1, .long 127), (1, .fieldref 235 236), (0, .class_ 237), (0, .nameAndType 238 239), (0, u "java/lang/Long$LongCache"), (0, u "cache"), (0, u "[Ljava/lang/Long;"), (0, .methodref 1 241), (0, .nameAndType 59 242), (0, u "(J)V"), (27, .methodref 271 58), (0, .class_ 272), (0, u "java/lang/Number"), (0, .fieldref 1 274), (0, .nameAndType 275 276), (0, u "value"), (0, u "J"), (84, u "TYPE"), (0, u "Ljava/lang/Class;"), (0, .class_ 364), (0, u "java/lang/Comparable"), (0, .class_ 366), (0, u "java/lang/constant/Constable"), (0, .class_ 368), (0, u "java/lang/constant/ConstantDesc"), (0, u "MIN_VALUE"), (1, u "MAX_VALUE"), (4, u "SIZE"), (0, u "I"), (1, u "BYTES"), (1, u "serialVersionUID")] 142

def k12c0 : Code := { maxStack := 4, maxLocals := 3, code := jdk_35_method_24_code, exceptionTable := #[], attributes := #[] }
def k12m0 : Method := { name := "valueOf", desc := "(J)Ljava/lang/Long;", sig := { parameters := [.long], returnType := some (.object "java/lang/Long") }, accessFlags := 9, code := some k12c0 }
def k12c1 : Code := { maxStack := 3, maxLocals := 3, code := jdk_35_method_26_code, exceptionTable := #[], attributes := #[] }
def k12m1 : Method := { name := "<init>", desc := "(J)V", sig := { parameters := [.long], returnType := none }, accessFlags := 1, code := some k12c1 }
/-- java/lang/Long -/
def k12 : Class := { plain "java/lang/Long" (some 11) with
  accessFlags := 49
  interfaces := #[5, 7, 8]
  cf := some (fileOf pool12 1 #[.nestMembers #[235]] #[{ accessFlags := 9, nameIndex := 85, descriptorIndex := 229, attributes := #[] }, { accessFlags := 1, nameIndex := 59, descriptorIndex := 242, attributes := #[] }] 49 271 #[363, 365, 367] #[{ accessFlags := 25, nameIndex := 369, descriptorIndex := 276, attributes := #[] }, { accessFlags := 25, nameIndex := 371, descriptorIndex := 276, attributes := #[] }, { accessFlags := 25, nameIndex := 361, descriptorIndex := 362, attributes := #[] }, { accessFlags := 18, nameIndex := 275, descriptorIndex := 276, attributes := #[] }, { accessFlags := 25, nameIndex := 376, descriptorIndex := 377, attributes := #[] }, { accessFlags := 25, nameIndex := 379, descriptorIndex := 377, attributes := #[] }, { accessFlags := 26, nameIndex := 381, descriptorIndex := 276, attributes := #[] }])
  fields := #[{ name := "MIN_VALUE", type := .long, accessFlags := 25, slot := 0, constantValue := 0 }, { name := "MAX_VALUE", type := .long, accessFlags := 25, slot := 1, constantValue := 0 }, { name := "TYPE", type := (.object "java/lang/Class"), accessFlags := 25, slot := 2, constantValue := 0 }, { name := "value", type := .long, accessFlags := 18, slot := 0, constantValue := 0 }, { name := "SIZE", type := .int, accessFlags := 25, slot := 3, constantValue := 0 }, { name := "BYTES", type := .int, accessFlags := 25, slot := 4, constantValue := 0 }, { name := "serialVersionUID", type := .long, accessFlags := 26, slot := 5, constantValue := 0 }]
  methods := #[k12m0, k12m1]
  instanceTypes := #[.long]
  staticTypes := #[.long, .long, (.object "java/lang/Class"), .int, .int, .long]
  resolved := Array.replicate 524 none
  statics := none }

def pool13 : Array CpInfo := pool [(2, .class_ 4), (1, u "java/lang/Object"), (0, u "<init>"), (0, u "()V"), (0, .class_ 8), (0, u "java/lang/Long"), (7, .class_ 18), (1, u "java/lang/Long$LongCache"), (0, u "$assertionsDisabled"), (0, u "Z"), (8, u "archivedCache"), (0, u "[Ljava/lang/Long;"), (7, u "cache")] 24

def k13m0 : Method := { name := "<init>", desc := "()V", sig := { parameters := [], returnType := none }, accessFlags := 2, code := none }
/-- java/lang/Long$LongCache -/
def k13 : Class := { plain "java/lang/Long$LongCache" (some 0) with
  accessFlags := 48
  interfaces := #[]
  cf := some (fileOf pool13 16 #[.nestHost 7] #[{ accessFlags := 2, nameIndex := 5, descriptorIndex := 6, attributes := #[] }] 48 2 #[] #[{ accessFlags := 24, nameIndex := 38, descriptorIndex := 30, attributes := #[] }, { accessFlags := 8, nameIndex := 29, descriptorIndex := 30, attributes := #[] }, { accessFlags := 4120, nameIndex := 19, descriptorIndex := 20, attributes := #[] }])
  fields := #[{ name := "cache", type := (.array (.object "java/lang/Long")), accessFlags := 24, slot := 0, constantValue := 0 }, { name := "archivedCache", type := (.array (.object "java/lang/Long")), accessFlags := 8, slot := 1, constantValue := 0 }, { name := "$assertionsDisabled", type := .boolean, accessFlags := 4120, slot := 2, constantValue := 0 }]
  methods := #[k13m0]
  instanceTypes := #[]
  staticTypes := #[(.array (.object "java/lang/Long")), (.array (.object "java/lang/Long")), .boolean]
  resolved := Array.replicate 63 none
  statics := some 1 }

def pool14 : Array CpInfo := pool [(4, .class_ 6), (1, u "java/lang/Object"), (0, u "<init>"), (0, u "()V"), (5, .class_ 16), (1, u "java/lang/StringLatin1"), (104, u "$assertionsDisabled"), (0, u "Z"), (98, .class_ 223), (1, u "java/lang/StringLatin1$LinesSpliterator"), (166, .class_ 391), (0, u "java/lang/StringLatin1$CharsSpliterator")] 3

def k14m0 : Method := { name := "<init>", desc := "()V", sig := { parameters := [], returnType := none }, accessFlags := 0, code := none }
/-- java/lang/StringLatin1 -/
def k14 : Class := { plain "java/lang/StringLatin1" (some 0) with
  accessFlags := 48
  interfaces := #[]
  cf := some (fileOf pool14 14 #[.nestMembers #[390, 221]] #[{ accessFlags := 0, nameIndex := 7, descriptorIndex := 8, attributes := #[] }] 48 4 #[] #[{ accessFlags := 4120, nameIndex := 121, descriptorIndex := 122, attributes := #[] }])
  fields := #[{ name := "$assertionsDisabled", type := .boolean, accessFlags := 4120, slot := 0, constantValue := 0 }]
  methods := #[k14m0]
  instanceTypes := #[]
  staticTypes := #[.boolean]
  resolved := Array.replicate 395 none
  statics := none }

def pool15 : Array CpInfo := pool [(2, .class_ 4), (1, u "java/lang/Object"), (0, u "<init>"), (0, u "()V"), (17, .class_ 26), (1, u "jdk/internal/util/Preconditions"), (28, .class_ 56), (0, u "jdk/internal/util/Preconditions$4"), (57, .class_ 115), (0, u "jdk/internal/util/Preconditions$1"), (7, u "SIOOBE_FORMATTER"), (0, u "Ljava/util/function/BiFunction;"), (0, .class_ 126), (0, u "jdk/internal/util/Preconditions$2"), (3, u "AIOOBE_FORMATTER"), (0, .class_ 132), (0, u "jdk/internal/util/Preconditions$3"), (3, u "IOOBE_FORMATTER")] 57

def k15m0 : Method := { name := "<init>", desc := "()V", sig := { parameters := [], returnType := none }, accessFlags := 1, code := none }
/-- jdk/internal/util/Preconditions -/
def k15 : Class := { plain "jdk/internal/util/Preconditions" (some 0) with
  accessFlags := 33
  interfaces := #[]
  cf := some (fileOf pool15 24 #[.nestMembers #[55, 131, 125, 114]] #[{ accessFlags := 1, nameIndex := 5, descriptorIndex := 6, attributes := #[] }] 33 2 #[] #[{ accessFlags := 25, nameIndex := 123, descriptorIndex := 124, attributes := #[] }, { accessFlags := 25, nameIndex := 130, descriptorIndex := 124, attributes := #[] }, { accessFlags := 25, nameIndex := 136, descriptorIndex := 124, attributes := #[] }])
  fields := #[{ name := "SIOOBE_FORMATTER", type := (.object "java/util/function/BiFunction"), accessFlags := 25, slot := 0, constantValue := 0 }, { name := "AIOOBE_FORMATTER", type := (.object "java/util/function/BiFunction"), accessFlags := 25, slot := 1, constantValue := 0 }, { name := "IOOBE_FORMATTER", type := (.object "java/util/function/BiFunction"), accessFlags := 25, slot := 2, constantValue := 0 }]
  methods := #[k15m0]
  instanceTypes := #[]
  staticTypes := #[(.object "java/util/function/BiFunction"), (.object "java/util/function/BiFunction"), (.object "java/util/function/BiFunction")]
  resolved := Array.replicate 194 none
  statics := some 2 }

def pool16 : Array CpInfo := pool [(9, u "<init>"), (6, .class_ 18), (1, u "java/lang/Object"), (0, u "()V"), (1, .class_ 23), (1, u "jdk/internal/util/ArraysSupport"), (0, u "LOG2_ARRAY_LONG_INDEX_SCALE"), (0, u "I"), (2, u "U"), (0, u "Ljdk/internal/misc/Unsafe;"), (8, u "BIG_ENDIAN"), (0, u "Z"), (8, u "LOG2_BYTE_BIT_SIZE"), (4, u "LOG2_ARRAY_INT_INDEX_SCALE"), (54, u "JLA"), (0, u "Ljdk/internal/access/JavaLangAccess;"), (11, u "LOG2_ARRAY_BOOLEAN_INDEX_SCALE"), (9, u "LOG2_ARRAY_BYTE_INDEX_SCALE"), (5, u "LOG2_ARRAY_CHAR_INDEX_SCALE"), (5, u "LOG2_ARRAY_SHORT_INDEX_SCALE"), (18, u "LOG2_ARRAY_FLOAT_INDEX_SCALE"), (24, u "LOG2_ARRAY_DOUBLE_INDEX_SCALE"), (89, u "T_BOOLEAN"), (2, u "T_CHAR"), (1, u "T_FLOAT"), (1, u "T_DOUBLE"), (1, u "T_BYTE"), (1, u "T_SHORT"), (1, u "T_INT"), (1, u "T_LONG"), (1, u "SOFT_MAX_ARRAY_LENGTH")] 83

def k16m0 : Method := { name := "<init>", desc := "()V", sig := { parameters := [], returnType := none }, accessFlags := 2, code := none }
/-- jdk/internal/util/ArraysSupport -/
def k16 : Class := { plain "jdk/internal/util/ArraysSupport" (some 0) with
  accessFlags := 33
  interfaces := #[]
  cf := some (fileOf pool16 21 #[] #[{ accessFlags := 2, nameIndex := 9, descriptorIndex := 19, attributes := #[] }] 33 16 #[] #[{ accessFlags := 24, nameIndex := 28, descriptorIndex := 29, attributes := #[] }, { accessFlags := 26, nameIndex := 38, descriptorIndex := 39, attributes := #[] }, { accessFlags := 25, nameIndex := 121, descriptorIndex := 25, attributes := #[] }, { accessFlags := 25, nameIndex := 131, descriptorIndex := 25, attributes := #[] }, { accessFlags := 25, nameIndex := 137, descriptorIndex := 25, attributes := #[] }, { accessFlags := 25, nameIndex := 143, descriptorIndex := 25, attributes := #[] }, { accessFlags := 25, nameIndex := 53, descriptorIndex := 25, attributes := #[] }, { accessFlags := 25, nameIndex := 24, descriptorIndex := 25, attributes := #[] }, { accessFlags := 25, nameIndex := 162, descriptorIndex := 25, attributes := #[] }, { accessFlags := 25, nameIndex := 187, descriptorIndex := 25, attributes := #[] }, { accessFlags := 26, nameIndex := 48, descriptorIndex := 25, attributes := #[] }, { accessFlags := 25, nameIndex := 277, descriptorIndex := 25, attributes := #[] }, { accessFlags := 25, nameIndex := 280, descriptorIndex := 25, attributes := #[] }, { accessFlags := 25, nameIndex := 282, descriptorIndex := 25, attributes := #[] }, { accessFlags := 25, nameIndex := 284, descriptorIndex := 25, attributes := #[] }, { accessFlags := 25, nameIndex := 286, descriptorIndex := 25, attributes := #[] }, { accessFlags := 25, nameIndex := 288, descriptorIndex := 25, attributes := #[] }, { accessFlags := 25, nameIndex := 290, descriptorIndex := 25, attributes := #[] }, { accessFlags := 25, nameIndex := 292, descriptorIndex := 25, attributes := #[] }, { accessFlags := 26, nameIndex := 108, descriptorIndex := 109, attributes := #[] }, { accessFlags := 25, nameIndex := 294, descriptorIndex := 25, attributes := #[] }])
  fields := #[{ name := "U", type := (.object "jdk/internal/misc/Unsafe"), accessFlags := 24, slot := 0, constantValue := 0 }, { name := "BIG_ENDIAN", type := .boolean, accessFlags := 26, slot := 1, constantValue := 0 }, { name := "LOG2_ARRAY_BOOLEAN_INDEX_SCALE", type := .int, accessFlags := 25, slot := 2, constantValue := 0 }, { name := "LOG2_ARRAY_BYTE_INDEX_SCALE", type := .int, accessFlags := 25, slot := 3, constantValue := 0 }, { name := "LOG2_ARRAY_CHAR_INDEX_SCALE", type := .int, accessFlags := 25, slot := 4, constantValue := 0 }, { name := "LOG2_ARRAY_SHORT_INDEX_SCALE", type := .int, accessFlags := 25, slot := 5, constantValue := 0 }, { name := "LOG2_ARRAY_INT_INDEX_SCALE", type := .int, accessFlags := 25, slot := 6, constantValue := 0 }, { name := "LOG2_ARRAY_LONG_INDEX_SCALE", type := .int, accessFlags := 25, slot := 7, constantValue := 0 }, { name := "LOG2_ARRAY_FLOAT_INDEX_SCALE", type := .int, accessFlags := 25, slot := 8, constantValue := 0 }, { name := "LOG2_ARRAY_DOUBLE_INDEX_SCALE", type := .int, accessFlags := 25, slot := 9, constantValue := 0 }, { name := "LOG2_BYTE_BIT_SIZE", type := .int, accessFlags := 26, slot := 10, constantValue := 0 }, { name := "T_BOOLEAN", type := .int, accessFlags := 25, slot := 11, constantValue := 0 }, { name := "T_CHAR", type := .int, accessFlags := 25, slot := 12, constantValue := 0 }, { name := "T_FLOAT", type := .int, accessFlags := 25, slot := 13, constantValue := 0 }, { name := "T_DOUBLE", type := .int, accessFlags := 25, slot := 14, constantValue := 0 }, { name := "T_BYTE", type := .int, accessFlags := 25, slot := 15, constantValue := 0 }, { name := "T_SHORT", type := .int, accessFlags := 25, slot := 16, constantValue := 0 }, { name := "T_INT", type := .int, accessFlags := 25, slot := 17, constantValue := 0 }, { name := "T_LONG", type := .int, accessFlags := 25, slot := 18, constantValue := 0 }, { name := "JLA", type := (.object "jdk/internal/access/JavaLangAccess"), accessFlags := 26, slot := 19, constantValue := 0 }, { name := "SOFT_MAX_ARRAY_LENGTH", type := .int, accessFlags := 25, slot := 20, constantValue := 0 }]
  methods := #[k16m0]
  instanceTypes := #[]
  staticTypes := #[(.object "jdk/internal/misc/Unsafe"), .boolean, .int, .int, .int, .int, .int, .int, .int, .int, .int, .int, .int, .int, .int, .int, .int, .int, .int, (.object "jdk/internal/access/JavaLangAccess"), .int]
  resolved := Array.replicate 378 none
  statics := none }

def pool17 : Array CpInfo := pool [(1, u "java/lang/Cloneable"), (0, .class_ 1), (0, u "java/lang/Object"), (0, .class_ 3)] 3

/-- java/lang/Cloneable -/
def k17 : Class := { plain "java/lang/Cloneable" (some 0) with
  accessFlags := 1537
  interfaces := #[]
  cf := some (fileOf pool17 2 #[] #[] 1537 4 #[] #[])
  fields := #[]
  methods := #[]
  instanceTypes := #[]
  staticTypes := #[]
  resolved := Array.replicate 8 none
  statics := none }

/-- the primitive byte -/
def k18 : Class := { plain "byte" none with kind := .primitive 'B', accessFlags := 0x411 }
/-- [B -/
def k19 : Class := { plain "[B" (some 0) with kind := .array 18 .byte, interfaces := #[17, 4], accessFlags := 1041 }

/-- the primitive char -/
def k20 : Class := { plain "char" none with kind := .primitive 'C', accessFlags := 0x411 }
/-- [C -/
def k21 : Class := { plain "[C" (some 0) with kind := .array 20 .char, interfaces := #[17, 4], accessFlags := 1041 }

/-- the primitive int -/
def k22 : Class := { plain "int" none with kind := .primitive 'I', accessFlags := 0x411 }
/-- [I -/
def k23 : Class := { plain "[I" (some 0) with kind := .array 22 .int, interfaces := #[17, 4], accessFlags := 1041 }

/-- [Ljava/lang/Long; -/
def k24 : Class := { plain "[Ljava/lang/Long;" (some 0) with kind := .array 12 (.object "java/lang/Long"), interfaces := #[17, 4], accessFlags := 1041 }

def heap : Heap := #[{ cls := 9, slots := #[.long 0, .int 1, .null, .int 0, .null, .int 0, .int 0], vm := .statics 9 },
  { cls := 13, slots := #[.ref 3, .null, .int 0], vm := .statics 13 },
  { cls := 15, slots := #[.null, .null, .null], vm := .statics 15 },
  { cls := 24, slots := #[.ref 4, .ref 5, .ref 6, .ref 7, .ref 8, .ref 9, .ref 10, .ref 11, .ref 12, .ref 13, .ref 14, .ref 15, .ref 16, .ref 17, .ref 18, .ref 19, .ref 20, .ref 21, .ref 22, .ref 23, .ref 24, .ref 25, .ref 26, .ref 27, .ref 28, .ref 29, .ref 30, .ref 31, .ref 32, .ref 33, .ref 34, .ref 35, .ref 36, .ref 37, .ref 38, .ref 39, .ref 40, .ref 41, .ref 42, .ref 43, .ref 44, .ref 45, .ref 46, .ref 47, .ref 48, .ref 49, .ref 50, .ref 51, .ref 52, .ref 53, .ref 54, .ref 55, .ref 56, .ref 57, .ref 58, .ref 59, .ref 60, .ref 61, .ref 62, .ref 63, .ref 64, .ref 65, .ref 66, .ref 67, .ref 68, .ref 69, .ref 70, .ref 71, .ref 72, .ref 73, .ref 74, .ref 75, .ref 76, .ref 77, .ref 78, .ref 79, .ref 80, .ref 81, .ref 82, .ref 83, .ref 84, .ref 85, .ref 86, .ref 87, .ref 88, .ref 89, .ref 90, .ref 91, .ref 92, .ref 93, .ref 94, .ref 95, .ref 96, .ref 97, .ref 98, .ref 99, .ref 100, .ref 101, .ref 102, .ref 103, .ref 104, .ref 105, .ref 106, .ref 107, .ref 108, .ref 109, .ref 110, .ref 111, .ref 112, .ref 113, .ref 114, .ref 115, .ref 116, .ref 117, .ref 118, .ref 119, .ref 120, .ref 121, .ref 122, .ref 123, .ref 124, .ref 125, .ref 126, .ref 127, .ref 128, .ref 129, .ref 130, .ref 131, .ref 132, .ref 133, .ref 134, .ref 135, .ref 136, .ref 137, .ref 138, .ref 139, .ref 140, .ref 141, .ref 142, .ref 143, .ref 144, .ref 145, .ref 146, .ref 147, .ref 148, .ref 149, .ref 150, .ref 151, .ref 152, .ref 153, .ref 154, .ref 155, .ref 156, .ref 157, .ref 158, .ref 159, .ref 160, .ref 161, .ref 162, .ref 163, .ref 164, .ref 165, .ref 166, .ref 167, .ref 168, .ref 169, .ref 170, .ref 171, .ref 172, .ref 173, .ref 174, .ref 175, .ref 176, .ref 177, .ref 178, .ref 179, .ref 180, .ref 181, .ref 182, .ref 183, .ref 184, .ref 185, .ref 186, .ref 187, .ref 188, .ref 189, .ref 190, .ref 191, .ref 192, .ref 193, .ref 194, .ref 195, .ref 196, .ref 197, .ref 198, .ref 199, .ref 200, .ref 201, .ref 202, .ref 203, .ref 204, .ref 205, .ref 206, .ref 207, .ref 208, .ref 209, .ref 210, .ref 211, .ref 212, .ref 213, .ref 214, .ref 215, .ref 216, .ref 217, .ref 218, .ref 219, .ref 220, .ref 221, .ref 222, .ref 223, .ref 224, .ref 225, .ref 226, .ref 227, .ref 228, .ref 229, .ref 230, .ref 231, .ref 232, .ref 233, .ref 234, .ref 235, .ref 236, .ref 237, .ref 238, .ref 239, .ref 240, .ref 241, .ref 242, .ref 243, .ref 244, .ref 245, .ref 246, .ref 247, .ref 248, .ref 249, .ref 250, .ref 251, .ref 252, .ref 253, .ref 254, .ref 255, .ref 256, .ref 257, .ref 258, .ref 259], vm := .none },
  { cls := 12, slots := #[.long (-128)], vm := .none },
  { cls := 12, slots := #[.long (-127)], vm := .none },
  { cls := 12, slots := #[.long (-126)], vm := .none },
  { cls := 12, slots := #[.long (-125)], vm := .none },
  { cls := 12, slots := #[.long (-124)], vm := .none },
  { cls := 12, slots := #[.long (-123)], vm := .none },
  { cls := 12, slots := #[.long (-122)], vm := .none },
  { cls := 12, slots := #[.long (-121)], vm := .none },
  { cls := 12, slots := #[.long (-120)], vm := .none },
  { cls := 12, slots := #[.long (-119)], vm := .none },
  { cls := 12, slots := #[.long (-118)], vm := .none },
  { cls := 12, slots := #[.long (-117)], vm := .none },
  { cls := 12, slots := #[.long (-116)], vm := .none },
  { cls := 12, slots := #[.long (-115)], vm := .none },
  { cls := 12, slots := #[.long (-114)], vm := .none },
  { cls := 12, slots := #[.long (-113)], vm := .none },
  { cls := 12, slots := #[.long (-112)], vm := .none },
  { cls := 12, slots := #[.long (-111)], vm := .none },
  { cls := 12, slots := #[.long (-110)], vm := .none },
  { cls := 12, slots := #[.long (-109)], vm := .none },
  { cls := 12, slots := #[.long (-108)], vm := .none },
  { cls := 12, slots := #[.long (-107)], vm := .none },
  { cls := 12, slots := #[.long (-106)], vm := .none },
  { cls := 12, slots := #[.long (-105)], vm := .none },
  { cls := 12, slots := #[.long (-104)], vm := .none },
  { cls := 12, slots := #[.long (-103)], vm := .none },
  { cls := 12, slots := #[.long (-102)], vm := .none },
  { cls := 12, slots := #[.long (-101)], vm := .none },
  { cls := 12, slots := #[.long (-100)], vm := .none },
  { cls := 12, slots := #[.long (-99)], vm := .none },
  { cls := 12, slots := #[.long (-98)], vm := .none },
  { cls := 12, slots := #[.long (-97)], vm := .none },
  { cls := 12, slots := #[.long (-96)], vm := .none },
  { cls := 12, slots := #[.long (-95)], vm := .none },
  { cls := 12, slots := #[.long (-94)], vm := .none },
  { cls := 12, slots := #[.long (-93)], vm := .none },
  { cls := 12, slots := #[.long (-92)], vm := .none },
  { cls := 12, slots := #[.long (-91)], vm := .none },
  { cls := 12, slots := #[.long (-90)], vm := .none },
  { cls := 12, slots := #[.long (-89)], vm := .none },
  { cls := 12, slots := #[.long (-88)], vm := .none },
  { cls := 12, slots := #[.long (-87)], vm := .none },
  { cls := 12, slots := #[.long (-86)], vm := .none },
  { cls := 12, slots := #[.long (-85)], vm := .none },
  { cls := 12, slots := #[.long (-84)], vm := .none },
  { cls := 12, slots := #[.long (-83)], vm := .none },
  { cls := 12, slots := #[.long (-82)], vm := .none },
  { cls := 12, slots := #[.long (-81)], vm := .none },
  { cls := 12, slots := #[.long (-80)], vm := .none },
  { cls := 12, slots := #[.long (-79)], vm := .none },
  { cls := 12, slots := #[.long (-78)], vm := .none },
  { cls := 12, slots := #[.long (-77)], vm := .none },
  { cls := 12, slots := #[.long (-76)], vm := .none },
  { cls := 12, slots := #[.long (-75)], vm := .none },
  { cls := 12, slots := #[.long (-74)], vm := .none },
  { cls := 12, slots := #[.long (-73)], vm := .none },
  { cls := 12, slots := #[.long (-72)], vm := .none },
  { cls := 12, slots := #[.long (-71)], vm := .none },
  { cls := 12, slots := #[.long (-70)], vm := .none },
  { cls := 12, slots := #[.long (-69)], vm := .none },
  { cls := 12, slots := #[.long (-68)], vm := .none },
  { cls := 12, slots := #[.long (-67)], vm := .none },
  { cls := 12, slots := #[.long (-66)], vm := .none },
  { cls := 12, slots := #[.long (-65)], vm := .none },
  { cls := 12, slots := #[.long (-64)], vm := .none },
  { cls := 12, slots := #[.long (-63)], vm := .none },
  { cls := 12, slots := #[.long (-62)], vm := .none },
  { cls := 12, slots := #[.long (-61)], vm := .none },
  { cls := 12, slots := #[.long (-60)], vm := .none },
  { cls := 12, slots := #[.long (-59)], vm := .none },
  { cls := 12, slots := #[.long (-58)], vm := .none },
  { cls := 12, slots := #[.long (-57)], vm := .none },
  { cls := 12, slots := #[.long (-56)], vm := .none },
  { cls := 12, slots := #[.long (-55)], vm := .none },
  { cls := 12, slots := #[.long (-54)], vm := .none },
  { cls := 12, slots := #[.long (-53)], vm := .none },
  { cls := 12, slots := #[.long (-52)], vm := .none },
  { cls := 12, slots := #[.long (-51)], vm := .none },
  { cls := 12, slots := #[.long (-50)], vm := .none },
  { cls := 12, slots := #[.long (-49)], vm := .none },
  { cls := 12, slots := #[.long (-48)], vm := .none },
  { cls := 12, slots := #[.long (-47)], vm := .none },
  { cls := 12, slots := #[.long (-46)], vm := .none },
  { cls := 12, slots := #[.long (-45)], vm := .none },
  { cls := 12, slots := #[.long (-44)], vm := .none },
  { cls := 12, slots := #[.long (-43)], vm := .none },
  { cls := 12, slots := #[.long (-42)], vm := .none },
  { cls := 12, slots := #[.long (-41)], vm := .none },
  { cls := 12, slots := #[.long (-40)], vm := .none },
  { cls := 12, slots := #[.long (-39)], vm := .none },
  { cls := 12, slots := #[.long (-38)], vm := .none },
  { cls := 12, slots := #[.long (-37)], vm := .none },
  { cls := 12, slots := #[.long (-36)], vm := .none },
  { cls := 12, slots := #[.long (-35)], vm := .none },
  { cls := 12, slots := #[.long (-34)], vm := .none },
  { cls := 12, slots := #[.long (-33)], vm := .none },
  { cls := 12, slots := #[.long (-32)], vm := .none },
  { cls := 12, slots := #[.long (-31)], vm := .none },
  { cls := 12, slots := #[.long (-30)], vm := .none },
  { cls := 12, slots := #[.long (-29)], vm := .none },
  { cls := 12, slots := #[.long (-28)], vm := .none },
  { cls := 12, slots := #[.long (-27)], vm := .none },
  { cls := 12, slots := #[.long (-26)], vm := .none },
  { cls := 12, slots := #[.long (-25)], vm := .none },
  { cls := 12, slots := #[.long (-24)], vm := .none },
  { cls := 12, slots := #[.long (-23)], vm := .none },
  { cls := 12, slots := #[.long (-22)], vm := .none },
  { cls := 12, slots := #[.long (-21)], vm := .none },
  { cls := 12, slots := #[.long (-20)], vm := .none },
  { cls := 12, slots := #[.long (-19)], vm := .none },
  { cls := 12, slots := #[.long (-18)], vm := .none },
  { cls := 12, slots := #[.long (-17)], vm := .none },
  { cls := 12, slots := #[.long (-16)], vm := .none },
  { cls := 12, slots := #[.long (-15)], vm := .none },
  { cls := 12, slots := #[.long (-14)], vm := .none },
  { cls := 12, slots := #[.long (-13)], vm := .none },
  { cls := 12, slots := #[.long (-12)], vm := .none },
  { cls := 12, slots := #[.long (-11)], vm := .none },
  { cls := 12, slots := #[.long (-10)], vm := .none },
  { cls := 12, slots := #[.long (-9)], vm := .none },
  { cls := 12, slots := #[.long (-8)], vm := .none },
  { cls := 12, slots := #[.long (-7)], vm := .none },
  { cls := 12, slots := #[.long (-6)], vm := .none },
  { cls := 12, slots := #[.long (-5)], vm := .none },
  { cls := 12, slots := #[.long (-4)], vm := .none },
  { cls := 12, slots := #[.long (-3)], vm := .none },
  { cls := 12, slots := #[.long (-2)], vm := .none },
  { cls := 12, slots := #[.long (-1)], vm := .none },
  { cls := 12, slots := #[.long (0)], vm := .none },
  { cls := 12, slots := #[.long (1)], vm := .none },
  { cls := 12, slots := #[.long (2)], vm := .none },
  { cls := 12, slots := #[.long (3)], vm := .none },
  { cls := 12, slots := #[.long (4)], vm := .none },
  { cls := 12, slots := #[.long (5)], vm := .none },
  { cls := 12, slots := #[.long (6)], vm := .none },
  { cls := 12, slots := #[.long (7)], vm := .none },
  { cls := 12, slots := #[.long (8)], vm := .none },
  { cls := 12, slots := #[.long (9)], vm := .none },
  { cls := 12, slots := #[.long (10)], vm := .none },
  { cls := 12, slots := #[.long (11)], vm := .none },
  { cls := 12, slots := #[.long (12)], vm := .none },
  { cls := 12, slots := #[.long (13)], vm := .none },
  { cls := 12, slots := #[.long (14)], vm := .none },
  { cls := 12, slots := #[.long (15)], vm := .none },
  { cls := 12, slots := #[.long (16)], vm := .none },
  { cls := 12, slots := #[.long (17)], vm := .none },
  { cls := 12, slots := #[.long (18)], vm := .none },
  { cls := 12, slots := #[.long (19)], vm := .none },
  { cls := 12, slots := #[.long (20)], vm := .none },
  { cls := 12, slots := #[.long (21)], vm := .none },
  { cls := 12, slots := #[.long (22)], vm := .none },
  { cls := 12, slots := #[.long (23)], vm := .none },
  { cls := 12, slots := #[.long (24)], vm := .none },
  { cls := 12, slots := #[.long (25)], vm := .none },
  { cls := 12, slots := #[.long (26)], vm := .none },
  { cls := 12, slots := #[.long (27)], vm := .none },
  { cls := 12, slots := #[.long (28)], vm := .none },
  { cls := 12, slots := #[.long (29)], vm := .none },
  { cls := 12, slots := #[.long (30)], vm := .none },
  { cls := 12, slots := #[.long (31)], vm := .none },
  { cls := 12, slots := #[.long (32)], vm := .none },
  { cls := 12, slots := #[.long (33)], vm := .none },
  { cls := 12, slots := #[.long (34)], vm := .none },
  { cls := 12, slots := #[.long (35)], vm := .none },
  { cls := 12, slots := #[.long (36)], vm := .none },
  { cls := 12, slots := #[.long (37)], vm := .none },
  { cls := 12, slots := #[.long (38)], vm := .none },
  { cls := 12, slots := #[.long (39)], vm := .none },
  { cls := 12, slots := #[.long (40)], vm := .none },
  { cls := 12, slots := #[.long (41)], vm := .none },
  { cls := 12, slots := #[.long (42)], vm := .none },
  { cls := 12, slots := #[.long (43)], vm := .none },
  { cls := 12, slots := #[.long (44)], vm := .none },
  { cls := 12, slots := #[.long (45)], vm := .none },
  { cls := 12, slots := #[.long (46)], vm := .none },
  { cls := 12, slots := #[.long (47)], vm := .none },
  { cls := 12, slots := #[.long (48)], vm := .none },
  { cls := 12, slots := #[.long (49)], vm := .none },
  { cls := 12, slots := #[.long (50)], vm := .none },
  { cls := 12, slots := #[.long (51)], vm := .none },
  { cls := 12, slots := #[.long (52)], vm := .none },
  { cls := 12, slots := #[.long (53)], vm := .none },
  { cls := 12, slots := #[.long (54)], vm := .none },
  { cls := 12, slots := #[.long (55)], vm := .none },
  { cls := 12, slots := #[.long (56)], vm := .none },
  { cls := 12, slots := #[.long (57)], vm := .none },
  { cls := 12, slots := #[.long (58)], vm := .none },
  { cls := 12, slots := #[.long (59)], vm := .none },
  { cls := 12, slots := #[.long (60)], vm := .none },
  { cls := 12, slots := #[.long (61)], vm := .none },
  { cls := 12, slots := #[.long (62)], vm := .none },
  { cls := 12, slots := #[.long (63)], vm := .none },
  { cls := 12, slots := #[.long (64)], vm := .none },
  { cls := 12, slots := #[.long (65)], vm := .none },
  { cls := 12, slots := #[.long (66)], vm := .none },
  { cls := 12, slots := #[.long (67)], vm := .none },
  { cls := 12, slots := #[.long (68)], vm := .none },
  { cls := 12, slots := #[.long (69)], vm := .none },
  { cls := 12, slots := #[.long (70)], vm := .none },
  { cls := 12, slots := #[.long (71)], vm := .none },
  { cls := 12, slots := #[.long (72)], vm := .none },
  { cls := 12, slots := #[.long (73)], vm := .none },
  { cls := 12, slots := #[.long (74)], vm := .none },
  { cls := 12, slots := #[.long (75)], vm := .none },
  { cls := 12, slots := #[.long (76)], vm := .none },
  { cls := 12, slots := #[.long (77)], vm := .none },
  { cls := 12, slots := #[.long (78)], vm := .none },
  { cls := 12, slots := #[.long (79)], vm := .none },
  { cls := 12, slots := #[.long (80)], vm := .none },
  { cls := 12, slots := #[.long (81)], vm := .none },
  { cls := 12, slots := #[.long (82)], vm := .none },
  { cls := 12, slots := #[.long (83)], vm := .none },
  { cls := 12, slots := #[.long (84)], vm := .none },
  { cls := 12, slots := #[.long (85)], vm := .none },
  { cls := 12, slots := #[.long (86)], vm := .none },
  { cls := 12, slots := #[.long (87)], vm := .none },
  { cls := 12, slots := #[.long (88)], vm := .none },
  { cls := 12, slots := #[.long (89)], vm := .none },
  { cls := 12, slots := #[.long (90)], vm := .none },
  { cls := 12, slots := #[.long (91)], vm := .none },
  { cls := 12, slots := #[.long (92)], vm := .none },
  { cls := 12, slots := #[.long (93)], vm := .none },
  { cls := 12, slots := #[.long (94)], vm := .none },
  { cls := 12, slots := #[.long (95)], vm := .none },
  { cls := 12, slots := #[.long (96)], vm := .none },
  { cls := 12, slots := #[.long (97)], vm := .none },
  { cls := 12, slots := #[.long (98)], vm := .none },
  { cls := 12, slots := #[.long (99)], vm := .none },
  { cls := 12, slots := #[.long (100)], vm := .none },
  { cls := 12, slots := #[.long (101)], vm := .none },
  { cls := 12, slots := #[.long (102)], vm := .none },
  { cls := 12, slots := #[.long (103)], vm := .none },
  { cls := 12, slots := #[.long (104)], vm := .none },
  { cls := 12, slots := #[.long (105)], vm := .none },
  { cls := 12, slots := #[.long (106)], vm := .none },
  { cls := 12, slots := #[.long (107)], vm := .none },
  { cls := 12, slots := #[.long (108)], vm := .none },
  { cls := 12, slots := #[.long (109)], vm := .none },
  { cls := 12, slots := #[.long (110)], vm := .none },
  { cls := 12, slots := #[.long (111)], vm := .none },
  { cls := 12, slots := #[.long (112)], vm := .none },
  { cls := 12, slots := #[.long (113)], vm := .none },
  { cls := 12, slots := #[.long (114)], vm := .none },
  { cls := 12, slots := #[.long (115)], vm := .none },
  { cls := 12, slots := #[.long (116)], vm := .none },
  { cls := 12, slots := #[.long (117)], vm := .none },
  { cls := 12, slots := #[.long (118)], vm := .none },
  { cls := 12, slots := #[.long (119)], vm := .none },
  { cls := 12, slots := #[.long (120)], vm := .none },
  { cls := 12, slots := #[.long (121)], vm := .none },
  { cls := 12, slots := #[.long (122)], vm := .none },
  { cls := 12, slots := #[.long (123)], vm := .none },
  { cls := 12, slots := #[.long (124)], vm := .none },
  { cls := 12, slots := #[.long (125)], vm := .none },
  { cls := 12, slots := #[.long (126)], vm := .none },
  { cls := 12, slots := #[.long (127)], vm := .none }]
def classes : Array Class := #[k0, k1, k2, k3, k4, k5, k6, k7, k8, k9, k10, k11, k12, k13, k14, k15, k16, k17, k18, k19, k20, k21, k22, k23, k24]
def interned : List (Array UInt16 × Addr) := []
def slotsUsed : Nat := 525
def theMethod : MethodId := ⟨1, 1⟩
def args0 : Array Value := #[.long 5, .long 5, .long 5, .long 5, .int 5]
def aboutOver (below : List Frame) : State where
  vm := { classes := classes, interned := interned.toArray }
  heap := heap
  slotsUsed := slotsUsed
  threads := #[{ frames := .invoking theMethod args0 :: below }]
def below0 : List Frame := [.native { method := ⟨0, 0⟩, args := #[] }]
def about1 : State := aboutOver below0
def p0 : Program := .bare "" "" ""
def e0 : Env := launch0.env 0 0 0
theorem w_frames : about1.frames = Frame.invoking theMethod args0 :: below0 := rfl
set_option maxRecDepth 65536 in
theorem w_args : argsFit about1.vm theMethod args0 = true := by decide +kernel
set_option maxRecDepth 65536 in
theorem w_heap : heapFits about1 = true := by decide +kernel
set_option maxRecDepth 65536 in
theorem w_runnable : about1.curStatus? = some .runnable := by decide +kernel
set_option maxRecDepth 65536 in
theorem w_alone : about1.alone = true := by decide +kernel
set_option maxRecDepth 65536 in
theorem w_named : about1.methodNamed? x = some theMethod := by decide +kernel
set_option maxRecDepth 65536 in
theorem w_hears : about1.hears theMethod below0 = true := by decide +kernel
set_option maxRecDepth 65536 in
theorem w_ripe : about1.ripe theMethod args0 below0 = true := by decide +kernel
theorem w_running : about1.status = .running := rfl
set_option maxRecDepth 65536 in
theorem w_room : about1.hasRoom e0.platform room_1 = true :=
  launch0.hasRoom_least _ room_1 (by decide +kernel) (by decide +kernel) (by decide +kernel) (by decide +kernel) (by decide +kernel) (by decide +kernel)
theorem allAtoms_all (ts : List Jvm.Cond) (a : Array Jvm.Value) (st : Jvm.State) : (allAtoms ts).before a st = ts.all (fun c => c.before a st) := by
  induction ts with
  | nil => rfl
  | cons c t ih =>
    show (Jvm.Cond.and c (allAtoms t)).before a st = _
    rw [Jvm.Cond.before_and, ih, List.all_cons]
def words1 : List Jvm.Cond := Jvm.Cond.code x code maxLocals ret :: tables_1
/-- a 'code' word, met by the world's own term for the bytes: nothing is compared byte by byte -/
theorem code_word {y : MethodName} {bytes : ByteArray} {mx : Nat} {rt : Option FieldType} {a : Array Value} {s : State} {m : MethodId} {meth : Method} {c : Code} (h1 : s.methodNamed? y = some m) (h2 : s.vm.method? m = some meth) (h3 : meth.code = some c) (h4 : c.code = bytes)
    (h5 : (c.maxLocals == mx && c.exceptionTable.isEmpty && decide (c.maxStack ≤ mostOperands) && decide (meth.sig.returnType = rt) && !meth.locks && decide (parseMethodDescriptor y.desc = some meth.sig)) = true) : (Jvm.Cond.code y bytes mx rt).before a s = true := by
  simp only [Bool.and_eq_true, beq_iff_eq, Bool.not_eq_true', decide_eq_true_eq] at h5
  obtain ⟨⟨⟨⟨⟨g1, g2⟩, g3⟩, g4⟩, g5⟩, g6⟩ := h5
  simp [Cond.before, Cond.holds, Cond.value, h1, h2, h3, h4, g1, g2, g3, g4, g5, g6]
def isCode : Jvm.Cond → Bool
  | .code _ _ _ _ => true
  | _ => false
theorem all_split {L : List Jvm.Cond} {P : Jvm.Cond → Bool} (h1 : L.all (fun c => isCode c || P c) = true) (h2 : ∀ c ∈ L.filter isCode, P c = true) : L.all P = true := by
  refine List.all_eq_true.mpr fun c hc => ?_
  have h := List.all_eq_true.mp h1 c hc
  rcases Bool.eq_false_or_eq_true (isCode c) with hi | hi
  · exact h2 c (List.mem_filter.mpr ⟨hc, hi⟩)
  · simpa [hi] using h
set_option maxRecDepth 65536 in
theorem w_c0 : (Jvm.Cond.code x code maxLocals ret).before args0 about1 = true := code_word (m := ⟨1, 1⟩) (meth := k1m1) (c := k1c1) (by decide +kernel) rfl rfl rfl (by decide +kernel)
set_option maxRecDepth 65536 in
theorem w_c1 : (Jvm.Cond.code ({ cls := "com/example/swanhall/swanhall/core/Cell", name := "<init>", desc := "(JJ)V" } : Jvm.MethodName) prog_29_method_1_code (5 : Nat) (Option.none : Option Jvm.ClassFile.FieldType)).before args0 about1 = true := code_word (m := ⟨3, 0⟩) (meth := k3m0) (c := k3c0) (by decide +kernel) rfl rfl rfl (by decide +kernel)
set_option maxRecDepth 65536 in
theorem w_c2 : (Jvm.Cond.code ({ cls := "java/lang/Record", name := "<init>", desc := "()V" } : Jvm.MethodName) jdk_30_method_1_code (1 : Nat) (Option.none : Option Jvm.ClassFile.FieldType)).before args0 about1 = true := code_word (m := ⟨2, 0⟩) (meth := k2m0) (c := k2c0) (by decide +kernel) rfl rfl rfl (by decide +kernel)
set_option maxRecDepth 65536 in
theorem w_c3 : (Jvm.Cond.code ({ cls := "java/lang/Object", name := "<init>", desc := "()V" } : Jvm.MethodName) object_method_1_code (1 : Nat) (Option.none : Option Jvm.ClassFile.FieldType)).before args0 about1 = true := code_word (m := ⟨0, 0⟩) (meth := k0m0) (c := k0c0) (by decide +kernel) rfl rfl rfl (by decide +kernel)
set_option maxRecDepth 65536 in
theorem w_c4 : (Jvm.Cond.code ({ cls := "com/example/swanhall/swanhall/core/Cell", name := "equals", desc := "(Ljava/lang/Object;)Z" } : Jvm.MethodName) prog_29_method_5_code (3 : Nat) (Option.some Jvm.ClassFile.FieldType.boolean)).before args0 about1 = true := code_word (m := ⟨3, 1⟩) (meth := k3m1) (c := k3c1) (by decide +kernel) rfl rfl rfl (by decide +kernel)
set_option maxRecDepth 65536 in
theorem w_c5 : (Jvm.Cond.code ({ cls := "java/lang/String", name := "<init>", desc := "([C)V" } : Jvm.MethodName) jdk_42_method_3_code (2 : Nat) (Option.none : Option Jvm.ClassFile.FieldType)).before args0 about1 = true := code_word (m := ⟨9, 1⟩) (meth := k9m1) (c := k9c1) (by decide +kernel) rfl rfl rfl (by decide +kernel)
set_option maxRecDepth 65536 in
theorem w_c6 : (Jvm.Cond.code ({ cls := "java/lang/String", name := "<init>", desc := "([CIILjava/lang/Void;)V" } : Jvm.MethodName) jdk_42_method_149_code (6 : Nat) (Option.none : Option Jvm.ClassFile.FieldType)).before args0 about1 = true := code_word (m := ⟨9, 2⟩) (meth := k9m2) (c := k9c2) (by decide +kernel) rfl rfl rfl (by decide +kernel)
set_option maxRecDepth 65536 in
theorem w_c7 : (Jvm.Cond.code ({ cls := "java/lang/StringUTF16", name := "compress", desc := "([CII)[B" } : Jvm.MethodName) jdk_52_method_16_code (6 : Nat) (Option.some (Jvm.ClassFile.FieldType.array Jvm.ClassFile.FieldType.byte))).before args0 about1 = true := code_word (m := ⟨10, 2⟩) (meth := k10m2) (c := k10c2) (by decide +kernel) rfl rfl rfl (by decide +kernel)
set_option maxRecDepth 65536 in
theorem w_c8 : (Jvm.Cond.code ({ cls := "java/lang/StringUTF16", name := "compress", desc := "([CI[BII)I" } : Jvm.MethodName) jdk_52_method_21_code (7 : Nat) (Option.some Jvm.ClassFile.FieldType.int)).before args0 about1 = true := code_word (m := ⟨10, 3⟩) (meth := k10m3) (c := k10c3) (by decide +kernel) rfl rfl rfl (by decide +kernel)
set_option maxRecDepth 65536 in
theorem w_c9 : (Jvm.Cond.code ({ cls := "java/lang/StringUTF16", name := "coderFromArrayLen", desc := "([BI)B" } : Jvm.MethodName) jdk_52_method_15_code (2 : Nat) (Option.some Jvm.ClassFile.FieldType.byte)).before args0 about1 = true := code_word (m := ⟨10, 1⟩) (meth := k10m1) (c := k10c1) (by decide +kernel) rfl rfl rfl (by decide +kernel)
set_option maxRecDepth 65536 in
theorem w_c10 : (Jvm.Cond.code ({ cls := "java/lang/Long", name := "valueOf", desc := "(J)Ljava/lang/Long;" } : Jvm.MethodName) jdk_35_method_24_code (3 : Nat) (Option.some (Jvm.ClassFile.FieldType.object "java/lang/Long"))).before args0 about1 = true := code_word (m := ⟨12, 0⟩) (meth := k12m0) (c := k12c0) (by decide +kernel) rfl rfl rfl (by decide +kernel)
set_option maxRecDepth 65536 in
theorem w_c11 : (Jvm.Cond.code ({ cls := "java/lang/Long", name := "<init>", desc := "(J)V" } : Jvm.MethodName) jdk_35_method_26_code (3 : Nat) (Option.none : Option Jvm.ClassFile.FieldType)).before args0 about1 = true := code_word (m := ⟨12, 1⟩) (meth := k12m1) (c := k12c1) (by decide +kernel) rfl rfl rfl (by decide +kernel)
set_option maxRecDepth 65536 in
theorem w_c12 : (Jvm.Cond.code ({ cls := "java/lang/Number", name := "<init>", desc := "()V" } : Jvm.MethodName) jdk_18_method_1_code (1 : Nat) (Option.none : Option Jvm.ClassFile.FieldType)).before args0 about1 = true := code_word (m := ⟨11, 0⟩) (meth := k11m0) (c := k11c0) (by decide +kernel) rfl rfl rfl (by decide +kernel)
def codes1 : List Jvm.Cond := [Jvm.Cond.code x code maxLocals ret, Jvm.Cond.code ({ cls := "com/example/swanhall/swanhall/core/Cell", name := "<init>", desc := "(JJ)V" } : Jvm.MethodName) prog_29_method_1_code (5 : Nat) (Option.none : Option Jvm.ClassFile.FieldType), Jvm.Cond.code ({ cls := "java/lang/Record", name := "<init>", desc := "()V" } : Jvm.MethodName) jdk_30_method_1_code (1 : Nat) (Option.none : Option Jvm.ClassFile.FieldType), Jvm.Cond.code ({ cls := "java/lang/Object", name := "<init>", desc := "()V" } : Jvm.MethodName) object_method_1_code (1 : Nat) (Option.none : Option Jvm.ClassFile.FieldType), Jvm.Cond.code ({ cls := "com/example/swanhall/swanhall/core/Cell", name := "equals", desc := "(Ljava/lang/Object;)Z" } : Jvm.MethodName) prog_29_method_5_code (3 : Nat) (Option.some Jvm.ClassFile.FieldType.boolean), Jvm.Cond.code ({ cls := "java/lang/String", name := "<init>", desc := "([C)V" } : Jvm.MethodName) jdk_42_method_3_code (2 : Nat) (Option.none : Option Jvm.ClassFile.FieldType), Jvm.Cond.code ({ cls := "java/lang/String", name := "<init>", desc := "([CIILjava/lang/Void;)V" } : Jvm.MethodName) jdk_42_method_149_code (6 : Nat) (Option.none : Option Jvm.ClassFile.FieldType), Jvm.Cond.code ({ cls := "java/lang/StringUTF16", name := "compress", desc := "([CII)[B" } : Jvm.MethodName) jdk_52_method_16_code (6 : Nat) (Option.some (Jvm.ClassFile.FieldType.array Jvm.ClassFile.FieldType.byte)), Jvm.Cond.code ({ cls := "java/lang/StringUTF16", name := "compress", desc := "([CI[BII)I" } : Jvm.MethodName) jdk_52_method_21_code (7 : Nat) (Option.some Jvm.ClassFile.FieldType.int), Jvm.Cond.code ({ cls := "java/lang/StringUTF16", name := "coderFromArrayLen", desc := "([BI)B" } : Jvm.MethodName) jdk_52_method_15_code (2 : Nat) (Option.some Jvm.ClassFile.FieldType.byte), Jvm.Cond.code ({ cls := "java/lang/Long", name := "valueOf", desc := "(J)Ljava/lang/Long;" } : Jvm.MethodName) jdk_35_method_24_code (3 : Nat) (Option.some (Jvm.ClassFile.FieldType.object "java/lang/Long")), Jvm.Cond.code ({ cls := "java/lang/Long", name := "<init>", desc := "(J)V" } : Jvm.MethodName) jdk_35_method_26_code (3 : Nat) (Option.none : Option Jvm.ClassFile.FieldType), Jvm.Cond.code ({ cls := "java/lang/Number", name := "<init>", desc := "()V" } : Jvm.MethodName) jdk_18_method_1_code (1 : Nat) (Option.none : Option Jvm.ClassFile.FieldType)]
set_option maxRecDepth 65536 in
theorem codes_eq : words1.filter isCode = codes1 := rfl
theorem w_codes : ∀ c ∈ words1.filter isCode, c.before args0 about1 = true := by
  rw [codes_eq]
  intro c hc
  simp only [codes1, List.mem_cons, List.not_mem_nil, or_false] at hc
  rcases hc with rfl | rfl | rfl | rfl | rfl | rfl | rfl | rfl | rfl | rfl | rfl | rfl | rfl
  · exact w_c0
  · exact w_c1
  · exact w_c2
  · exact w_c3
  · exact w_c4
  · exact w_c5
  · exact w_c6
  · exact w_c7
  · exact w_c8
  · exact w_c9
  · exact w_c10
  · exact w_c11
  · exact w_c12
set_option maxRecDepth 65536 in
theorem w_t1 : (words1.take 24).all (fun c => isCode c || c.before args0 about1) = true := by decide +kernel
set_option maxRecDepth 65536 in
theorem w_t2 : ((words1.drop 24).take 24).all (fun c => isCode c || c.before args0 about1) = true := by decide +kernel
set_option maxRecDepth 65536 in
theorem w_t3 : (((words1.drop 24).drop 24).take 24).all (fun c => isCode c || c.before args0 about1) = true := by decide +kernel
set_option maxRecDepth 65536 in
theorem w_t4 : (((words1.drop 24).drop 24).drop 24).all (fun c => isCode c || c.before args0 about1) = true := by decide +kernel
theorem w_tables : (allAtoms (Jvm.Cond.code x code maxLocals ret :: tables_1)).before args0 about1 = true := by
  rw [allAtoms_all]
  show words1.all (fun c => c.before args0 about1) = true
  refine all_split ?_ w_codes
  rw [← List.take_append_drop 24 words1, List.all_append, w_t1, ← List.take_append_drop 24 (words1.drop 24), List.all_append, w_t2, ← List.take_append_drop 24 ((words1.drop 24).drop 24), List.all_append, w_t3, w_t4]
  rfl
set_option maxRecDepth 65536 in
theorem w_rest : rest_1_c.before args0 about1 = true := by decide +kernel
set_option maxRecDepth 65536 in
theorem w_case : (Jvm.Cond.and given_1 narrow_1).before args0 about1 = true := by decide +kernel
theorem w_applies : (headSpec (Jvm.Cond.code x code maxLocals ret :: tables_1) room_1).applies x e0.platform about1 = true :=
  (Spec.applies_iff w_frames).mpr ⟨w_running, w_runnable, w_alone, w_named, w_hears, w_ripe, w_room, w_tables⟩
theorem atStart : AtStart classFile x code maxLocals ret World_1 tables_1 room_1 Calls_1 rest_1 Pre_1 launch0 p0 e0 about1 theMethod args0 below0 :=
  ⟨lists_1, trivial, launch0.admits_env _ _ _, launch0.least_env, fairChoices_fair.cas, fairChoices_fair.clock, w_frames, w_args, w_heap, w_applies, trivial, w_rest, w_case⟩
end start1
theorem witness_1 : WitnessClaimed_1 := ⟨start1.p0, start1.e0, start1.about1, start1.theMethod, start1.args0, start1.below0, start1.atStart⟩
end Jvm.Pilot.@@N@@
