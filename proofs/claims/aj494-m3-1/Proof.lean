import JvmDerived
import JvmDerived.Pilot.@@N@@Statement
import JvmDerived.Pilot.@@N@@Code
set_option linter.unusedVariables false
set_option linter.unusedSimpArgs false
/- laws to paste: Road.backV (cut by pick.py; bodies as the Statement names them) -/
namespace Jvm.Pilot.@@N@@
namespace StrChars
open Jvm Sem ClassFile Op Lib Jvm.Stand Jvm.Free.XT Jvm.Free.ALB Jvm.Free.JM Jvm.Free
open Jvm.Lib.Cold (StaticIs)
/-- a char array whose places are chars -/
def Ch (a : Addr) (A : Cell) (U : State) : Prop := Arr .char a A U ∧ Typed .char A
theorem Ch.mv {a : Addr} {A : Cell} {U U' : State} (h : Ch a A U) (hal : U.vm.Alike U'.vm) (hh : U'.heap = U.heap) : Ch a A U' := ⟨h.1.mv hal hh, h.2⟩
theorem Ch.keep {a : Addr} {A : Cell} {U U' : State} (h : Ch a A U) (hal : U.vm.Alike U'.vm) (hk : U'.heap[a]? = some A) : Ch a A U' := ⟨h.1.keep hal hk, h.2⟩
/-- what place i of a char[]'s cell holds -/
def cv (A : Cell) (i : Nat) : Int32 := match A.slots[i]? with | some (.int x) => x | _ => 0
theorem Ch.get {a : Addr} {A : Cell} {U : State} (h : Ch a A U) {i : Nat} (hi : i < A.slots.size) : A.slots[i]? = some (.int (cv A i)) := by
  have e := Array.getElem?_eq_getElem hi
  have f := h.2 i _ e
  unfold cv; rw [e]
  generalize A.slots[i] = v at f
  cases v <;> simp [fits] at f ⊢
/-- the byte that i2b leaves of a char -/
def lo8 (x : Int32) : Int32 := x.toInt8.toInt32
theorem fits_lo8 (y : Int32) : fits .byte (.int (lo8 y)) = true := by
  have h1 := y.toInt8.le_toInt
  have h2 := y.toInt8.toInt_lt
  simp only [lo8, fits, Bool.and_eq_true, decide_eq_true_eq, Int32.le_iff_toInt_le, Int8.toInt_toInt32, show (-128 : Int32).toInt = -128 from by decide, show (127 : Int32).toInt = 127 from by decide]
  omega
/-- A' is A but that each place j of lo .. hi - 1 holds f j -/
def Laid (A A' : Cell) (lo hi : Nat) (f : Nat → Value) : Prop := A'.cls = A.cls ∧ A'.vm = A.vm ∧ A'.slots.size = A.slots.size ∧ ∀ i, A'.slots[i]? = if lo ≤ i ∧ i < hi then some (f i) else A.slots[i]?
theorem Laid.zero (A : Cell) (lo : Nat) (f : Nat → Value) : Laid A A lo (lo + 0) f := ⟨rfl, rfl, rfl, fun i => by rw [if_neg (by omega)]⟩
theorem Laid.step {A Ak : Cell} {lo k : Nat} {f : Nat → Value} {v : Value} (h : Laid A Ak lo k f) (hlo : lo ≤ k) (hk : k < Ak.slots.size) (hv : v = f k) : Laid A (Ak.setSlot k v) lo (k + 1) f := by
  refine ⟨h.1, h.2.1, by simpa [Cell.setSlot] using h.2.2.1, fun i => ?_⟩
  by_cases e : k = i
  · subst e; rw [Cell.slots_setSlot_self v hk, if_pos (by omega), hv]
  · rw [Cell.slots_setSlot_ne v e, h.2.2.2 i]
    by_cases q : lo ≤ i ∧ i < k
    · rw [if_pos q, if_pos (by omega)]
    · rw [if_neg q, if_neg (by omega)]
def U16 : String := "java/lang/StringUTF16"
namespace Cmp5
def yN : MethodName := ⟨"java/lang/StringUTF16", "compress", "([CI[BII)I"⟩
abbrev yB : ByteArray := jdk_52_method_21_code
theorem d0 : decode yB 0 = .ok (.iconst 0, 1) := by decide +kernel
theorem d1 : decode yB 1 = .ok (.istore 5, 2) := by decide +kernel
theorem d3 : decode yB 3 = .ok (.iload 5, 2) := by decide +kernel
theorem d5 : decode yB 5 = .ok (.iload 4, 2) := by decide +kernel
theorem d7 : decode yB 7 = .ok (.if_icmp (.ge) 37, 3) := by decide +kernel
theorem d10 : decode yB 10 = .ok (.aload_n 0, 1) := by decide +kernel
theorem d11 : decode yB 11 = .ok (.iload_n 1, 1) := by decide +kernel
theorem d12 : decode yB 12 = .ok (.caload, 1) := by decide +kernel
theorem d13 : decode yB 13 = .ok (.istore 6, 2) := by decide +kernel
theorem d15 : decode yB 15 = .ok (.iload 6, 2) := by decide +kernel
theorem d17 : decode yB 17 = .ok (.sipush 255, 3) := by decide +kernel
theorem d20 : decode yB 20 = .ok (.if_icmp (.le) 6, 3) := by decide +kernel
theorem d26 : decode yB 26 = .ok (.aload_n 2, 1) := by decide +kernel
theorem d27 : decode yB 27 = .ok (.iload_n 3, 1) := by decide +kernel
theorem d28 : decode yB 28 = .ok (.iload 6, 2) := by decide +kernel
theorem d30 : decode yB 30 = .ok (.i2b, 1) := by decide +kernel
theorem d31 : decode yB 31 = .ok (.bastore, 1) := by decide +kernel
theorem d32 : decode yB 32 = .ok (.iinc 1 1, 3) := by decide +kernel
theorem d35 : decode yB 35 = .ok (.iinc 3 1, 3) := by decide +kernel
theorem d38 : decode yB 38 = .ok (.iinc 5 1, 3) := by decide +kernel
theorem d41 : decode yB 41 = .ok (.goto (-38), 3) := by decide +kernel
theorem d44 : decode yB 44 = .ok (.iload 4, 2) := by decide +kernel
theorem d46 : decode yB 46 = .ok (.ireturn, 1) := by decide +kernel
def site : List Cond := []
def tab : Cond := tabOf yN yB 7 (some .int) site
def P (b : Addr) (A : Cell) (d : Addr) (B : Cell) (o q len : Nat) (args : Array Value) (s : State) : Prop := args = #[.ref b, .int (Int32.ofNat o), .ref d, .int (Int32.ofNat q), .int (Int32.ofNat len)] ∧ Ch b A s ∧ Arr .byte d B s ∧ b ≠ d ∧ o + len ≤ A.slots.size ∧ q + len ≤ B.slots.size ∧ ∀ i, i < len → ¬ 255 < cv A (o + i)
def E (b : Addr) (A : Cell) (d : Addr) (B : Cell) (o q len : Nat) (r : Option Value) (s u : State) : Prop := r = some (.int (Int32.ofNat len)) ∧ ∃ B', Put d B' s u ∧ Laid B B' q (q + len) (fun j => Value.int (lo8 (cv A (o + (j - q)))))
/-- no char of the range above 255: len; the places written hold each char's low byte -/
theorem law (l : Launch) (b : Addr) (A : Cell) (d : Addr) (B : Cell) (o q len : Nat) : Law l yN 5 5 0 0 yB 7 (some .int) site (P b A d B o q len) (E b A d B o q len) (copyLocs d q len) 0 0 := by
  refine Law.of_walk (plainFor_of_name (by decide +kernel)) (by decide +kernel) (by decide +kernel) (by decide) (fun _ _ h => by rw [h.1]; rfl) (fun _ U U' hal hh h => ⟨h.1, h.2.1.mv hal hh, h.2.2.1.mv hal hh, h.2.2.2⟩) (fun r U U' V V' h1 hal h2 h => ⟨h.1, h.2.elim fun B' q => ⟨B', q.1.mv h1 h2, q.2⟩⟩) ?_
  intro p e s m args below meth c s₁ X0 hexec hbytes hml hret hlk hnm hown hh0 W hP
  obtain ⟨rfl, hA, hB, hne, l1, l2, hp⟩ := hP
  have c1 : Steps p.tables e below (s₁.setTop (entryFrame m #[.ref b, .int (Int32.ofNat o), .ref d, .int (Int32.ofNat q), .int (Int32.ofNat len)] 7)) (s₁.setTop (mkF m 0 #[.val (.ref b), .val (.int (Int32.ofNat o)), .val (.ref d), .val (.int (Int32.ofNat q)), .val (.int (Int32.ofNat len)), .unset, .unset] [])) := entry rfl
  have hA0 := hA.1.mv X0.warmed.alike hh0
  have hB0 := hB.mv X0.warmed.alike hh0
  have a31 := hA.1.2.2.2
  have c2 : Steps p.tables e below (s₁.setTop (entryFrame m #[.ref b, .int (Int32.ofNat o), .ref d, .int (Int32.ofNat q), .int (Int32.ofNat len)] 7)) (s₁.setTop (mkF m 3 #[.val (.ref b), .val (.int (Int32.ofNat o)), .val (.ref d), .val (.int (Int32.ofNat q)), .val (.int (Int32.ofNat len)), .val (.int 0), .unset] [])) := c1.trans (by
    refine iconstV X0.here hexec rfl 0 (hb hbytes d0) (by decide) ?_
    refine XS.istore X0.here hexec rfl (hb hbytes d1) rfl rfl ?_
    exact Steps.refl _)
  have loop : ∀ (r i : Nat), i + r = len → ∀ (z : Slot), (z = .unset ∨ ∃ w, z = .val w ∧ w.category = 1) → ∀ (Tl : State) (Bk : Cell), Stand p l e { frames := 0, locals := 0, cells := 0, slots := 0 } s m #[.ref b, .int (Int32.ofNat o), .ref d, .int (Int32.ofNat q), .int (Int32.ofNat len)] below meth c Tl ([] ++ copyLocs d q i) 0 0 → Put d Bk s₁ Tl → Laid B Bk q (q + i) (fun j => Value.int (lo8 (cv A (o + (j - q))))) →
      Steps p.tables e below (s₁.setTop (entryFrame m #[.ref b, .int (Int32.ofNat o), .ref d, .int (Int32.ofNat q), .int (Int32.ofNat len)] 7)) (Tl.setTop (mkF m 3 #[.val (.ref b), .val (.int (Int32.ofNat (o + i))), .val (.ref d), .val (.int (Int32.ofNat (q + i))), .val (.int (Int32.ofNat len)), .val (.int (Int32.ofNat i)), z] [])) → ∃ (T' : State) (B' : Cell) (z' : Slot), Stand p l e { frames := 0, locals := 0, cells := 0, slots := 0 } s m #[.ref b, .int (Int32.ofNat o), .ref d, .int (Int32.ofNat q), .int (Int32.ofNat len)] below meth c T' ([] ++ copyLocs d q len) 0 0 ∧ Put d B' s₁ T' ∧ Laid B B' q (q + len) (fun j => Value.int (lo8 (cv A (o + (j - q))))) ∧
      Steps p.tables e below (s₁.setTop (entryFrame m #[.ref b, .int (Int32.ofNat o), .ref d, .int (Int32.ofNat q), .int (Int32.ofNat len)] 7)) (T'.setTop (mkF m 3 #[.val (.ref b), .val (.int (Int32.ofNat (o + len))), .val (.ref d), .val (.int (Int32.ofNat (q + len))), .val (.int (Int32.ofNat len)), .val (.int (Int32.ofNat len)), z'] [])) := by
    intro r
    induction r with
    | zero =>
      intro i hi z hz Tl Bk Xl pl fl cl
      have hil : i = len := by omega
      rw [hil] at Xl fl cl
      exact ⟨Tl, Bk, z, Xl, pl, fl, cl⟩
    | succ r ih =>
      intro i hi z hz Tl Bk Xl pl fl cl
      have all := X0.warmed.alike.symm.trans Xl.warmed.alike
      have hAl := hA0.keep all (pl.other hne hA0.1)
      have hBk := hB0.like all pl.1 fl.1 fl.2.1 fl.2.2.1
      have hlt : q + i < Bk.slots.size := by rw [fl.2.2.1]; omega
      have c3 : Steps p.tables e below (s₁.setTop (entryFrame m #[.ref b, .int (Int32.ofNat o), .ref d, .int (Int32.ofNat q), .int (Int32.ofNat len)] 7)) (Tl.setTop (mkF m 12 #[.val (.ref b), .val (.int (Int32.ofNat (o + i))), .val (.ref d), .val (.int (Int32.ofNat (q + i))), .val (.int (Int32.ofNat len)), .val (.int (Int32.ofNat i)), z] [.int (Int32.ofNat (o + i)), .ref b])) := cl.trans (by
        refine XS.iload Xl.here hexec rfl (hb hbytes d3) rfl ?_
        refine XS.iload Xl.here hexec rfl (hb hbytes d5) rfl ?_
        refine XS.icmpNo Xl.here hexec rfl (hb hbytes d7) rfl (ii_ge_f (lt32 (by omega) (by omega))) ?_
        refine XS.aloadN Xl.here hexec rfl (hb hbytes d10) rfl rfl ?_
        refine XS.iloadN Xl.here hexec rfl (hb hbytes d11) rfl ?_
        exact Steps.refl _)
      have c4 : Steps p.tables e below (s₁.setTop (entryFrame m #[.ref b, .int (Int32.ofNat o), .ref d, .int (Int32.ofNat q), .int (Int32.ofNat len)] 7)) (Tl.setTop (mkF m 13 #[.val (.ref b), .val (.int (Int32.ofNat (o + i))), .val (.ref d), .val (.int (Int32.ofNat (q + i))), .val (.int (Int32.ofNat len)), .val (.int (Int32.ofNat i)), z] [.int (cv A (o + i))])) := c3.trans (by
        refine Xl.aget hexec hAl rfl (hA.get (i := o + i) (by omega)) rfl rfl (hb hbytes d12) ?_
        exact Steps.refl _)
      have c5 : Steps p.tables e below (s₁.setTop (entryFrame m #[.ref b, .int (Int32.ofNat o), .ref d, .int (Int32.ofNat q), .int (Int32.ofNat len)] 7)) (Tl.setTop (mkF m 15 #[.val (.ref b), .val (.int (Int32.ofNat (o + i))), .val (.ref d), .val (.int (Int32.ofNat (q + i))), .val (.int (Int32.ofNat len)), .val (.int (Int32.ofNat i)), .val (.int (cv A (o + i)))] [])) := c4.trans (by
        refine XS.istoreS Xl.here hexec rfl (hb hbytes d13) rfl rfl hz ?_
        exact Steps.refl _)
      have c6 : Steps p.tables e below (s₁.setTop (entryFrame m #[.ref b, .int (Int32.ofNat o), .ref d, .int (Int32.ofNat q), .int (Int32.ofNat len)] 7)) (Tl.setTop (mkF m 31 #[.val (.ref b), .val (.int (Int32.ofNat (o + i))), .val (.ref d), .val (.int (Int32.ofNat (q + i))), .val (.int (Int32.ofNat len)), .val (.int (Int32.ofNat i)), .val (.int (cv A (o + i)))] [.int (lo8 (cv A (o + i))), .int (Int32.ofNat (q + i)), .ref d])) := c5.trans (by
        refine XS.iload Xl.here hexec rfl (hb hbytes d15) rfl ?_
        refine sipushV Xl.here hexec rfl 255 (hb hbytes d17) (by decide) ?_
        refine XS.icmpYes Xl.here hexec rfl (pc0 := 20) rfl (hb hbytes d20) rfl (ii_le_t (hp i (by omega))) (by decide) rfl ?_
        refine XS.aloadN Xl.here hexec rfl (hb hbytes d26) rfl rfl ?_
        refine XS.iloadN Xl.here hexec rfl (hb hbytes d27) rfl ?_
        refine XS.iload Xl.here hexec rfl (hb hbytes d28) rfl ?_
        refine i2b Xl.here hexec rfl (hb hbytes d30) rfl ?_
        exact Steps.refl _)
      obtain ⟨T7, X7, p7, st7⟩ := Xl.aput hexec hBk rfl hlt rfl (fits_lo8 (cv A (o + i))) (g := (mkF m 31 #[.val (.ref b), .val (.int (Int32.ofNat (o + i))), .val (.ref d), .val (.int (Int32.ofNat (q + i))), .val (.int (Int32.ofNat len)), .val (.int (Int32.ofNat i)), .val (.int (cv A (o + i)))] [.int (lo8 (cv A (o + i))), .int (Int32.ofNat (q + i)), .ref d])) rfl (rest := []) rfl (hb hbytes d31)
      have c8 : Steps p.tables e below (s₁.setTop (entryFrame m #[.ref b, .int (Int32.ofNat o), .ref d, .int (Int32.ofNat q), .int (Int32.ofNat len)] 7)) (T7.setTop (mkF m 32 #[.val (.ref b), .val (.int (Int32.ofNat (o + i))), .val (.ref d), .val (.int (Int32.ofNat (q + i))), .val (.int (Int32.ofNat len)), .val (.int (Int32.ofNat i)), .val (.int (cv A (o + i)))] [])) := c6.trans (st7 _ (Steps.refl _))
      have c9 : Steps p.tables e below (s₁.setTop (entryFrame m #[.ref b, .int (Int32.ofNat o), .ref d, .int (Int32.ofNat q), .int (Int32.ofNat len)] 7)) (T7.setTop (mkF m 3 #[.val (.ref b), .val (.int (Int32.ofNat (o + i) + 1)), .val (.ref d), .val (.int (Int32.ofNat (q + i) + 1)), .val (.int (Int32.ofNat len)), .val (.int (Int32.ofNat i + 1)), .val (.int (cv A (o + i)))] [])) := c8.trans (by
        refine iincV X7.here hexec rfl 1 (hb hbytes d32) (by decide) rfl rfl ?_
        refine iincV X7.here hexec rfl 1 (hb hbytes d35) (by decide) rfl rfl ?_
        refine iincV X7.here hexec rfl 1 (hb hbytes d38) (by decide) rfl rfl ?_
        refine XS.goto X7.here hexec rfl (pc0 := 41) rfl (hb hbytes d41) (by decide) rfl ?_
        exact Steps.refl _)
      have c10 : Steps p.tables e below (s₁.setTop (entryFrame m #[.ref b, .int (Int32.ofNat o), .ref d, .int (Int32.ofNat q), .int (Int32.ofNat len)] 7)) (T7.setTop (mkF m 3 #[.val (.ref b), .val (.int (Int32.ofNat (o + (i + 1)))), .val (.ref d), .val (.int (Int32.ofNat (q + (i + 1)))), .val (.int (Int32.ofNat len)), .val (.int (Int32.ofNat (i + 1))), .val (.int (cv A (o + i)))] [])) := by
        have := c9
        rw [succ32, succ32, succ32] at this
        exact this
      exact ih (i + 1) (by omega) _ (Or.inr ⟨_, rfl, rfl⟩) T7 _ (by rw [copyLocs_step, ← List.append_assoc]; exact X7) (pl.trans p7) (fl.step (by omega) hlt (by simp)) c10
  obtain ⟨T9, B9, z9, X9, p9, f9, g9⟩ := loop len 0 (by omega) .unset (Or.inl rfl) s₁ B (by simpa [copyLocs] using X0) ⟨hB0.1, fun _ _ => rfl, rfl⟩ (Laid.zero _ _ _) c2
  have c11 : Steps p.tables e below (s₁.setTop (entryFrame m #[.ref b, .int (Int32.ofNat o), .ref d, .int (Int32.ofNat q), .int (Int32.ofNat len)] 7)) (T9.setTop (mkF m 46 #[.val (.ref b), .val (.int (Int32.ofNat (o + len))), .val (.ref d), .val (.int (Int32.ofNat (q + len))), .val (.int (Int32.ofNat len)), .val (.int (Int32.ofNat len)), z9] [.int (Int32.ofNat len)])) := g9.trans (by
    refine XS.iload X9.here hexec rfl (hb hbytes d3) rfl ?_
    refine XS.iload X9.here hexec rfl (hb hbytes d5) rfl ?_
    refine XS.icmpYes X9.here hexec rfl (pc0 := 7) rfl (hb hbytes d7) rfl (ii_ge_t (nlt32 (by omega) (Nat.le_refl _))) (by decide) rfl ?_
    refine XS.iload X9.here hexec rfl (hb hbytes d44) rfl ?_
    exact Steps.refl _)
  exact ⟨T9, some (.int (Int32.ofNat len)), _, _, _, X9, by simp, rfl, rfl, (fun h => by cases h), ⟨rfl, B9, p9.from hh0, f9⟩, fun fs hl => c11.trans (X9.ireturnOut hexec hret rfl (Or.inl rfl) (hb hbytes d46) hl)⟩
end Cmp5
namespace Cmp3
def yN : MethodName := ⟨"java/lang/StringUTF16", "compress", "([CII)[B"⟩
abbrev yB : ByteArray := jdk_52_method_16_code
theorem d0 : decode yB 0 = .ok (.iload_n 2, 1) := by decide +kernel
theorem d1 : decode yB 1 = .ok (.newarray .byte, 2) := by decide +kernel
theorem d3 : decode yB 3 = .ok (.astore_n 3, 1) := by decide +kernel
theorem d4 : decode yB 4 = .ok (.aload_n 0, 1) := by decide +kernel
theorem d5 : decode yB 5 = .ok (.iload_n 1, 1) := by decide +kernel
theorem d6 : decode yB 6 = .ok (.aload_n 3, 1) := by decide +kernel
theorem d7 : decode yB 7 = .ok (.iconst 0, 1) := by decide +kernel
theorem d8 : decode yB 8 = .ok (.iload_n 2, 1) := by decide +kernel
theorem d9 : decode yB 9 = .ok (.invokestatic 115, 3) := by decide +kernel
theorem d12 : decode yB 12 = .ok (.istore 4, 2) := by decide +kernel
theorem d14 : decode yB 14 = .ok (.iload 4, 2) := by decide +kernel
theorem d16 : decode yB 16 = .ok (.iload_n 2, 1) := by decide +kernel
theorem d17 : decode yB 17 = .ok (.if_icmp (.eq) 40, 3) := by decide +kernel
theorem d57 : decode yB 57 = .ok (.aload_n 3, 1) := by decide +kernel
theorem d58 : decode yB 58 = .ok (.areturn, 1) := by decide +kernel
def site : List Cond := [.arrayClass .byte, Cmp5.tab] ++ staticW U16 115 Cmp5.yN
def tab : Cond := tabOf yN yB 6 (some (.array .byte)) site
def P (b : Addr) (A : Cell) (o len : Nat) (args : Array Value) (s : State) : Prop := args = #[.ref b, .int (Int32.ofNat o), .int (Int32.ofNat len)] ∧ Ch b A s ∧ o + len ≤ A.slots.size ∧ len ≤ 536870912 ∧ ∀ i, i < len → ¬ 255 < cv A (o + i)
def E (b : Addr) (A : Cell) (o len : Nat) (r : Option Value) (s u : State) : Prop := NewArr .byte "[B" len (fun j => .int (lo8 (cv A (o + j)))) r s u ∧ u.heap.size = s.heap.size + 1
/-- no char of the range above 255: a new byte[] of their low bytes -/
theorem law (l : Launch) (b : Addr) (A : Cell) (o len : Nat) : Law l yN 3 3 1 18 yB 6 (some (.array .byte)) site (P b A o len) (E b A o len) [] 1 len := by
  refine Law.of_walk (plainFor_of_name (by decide +kernel)) (by decide +kernel) (by decide +kernel) (by decide) (fun _ _ h => by rw [h.1]; rfl) (fun _ U U' hal hh h => ⟨h.1, h.2.1.mv hal hh, h.2.2⟩) (fun r U U' V V' h1 hal h2 h => ⟨NewArr.mv r U U' V V' h1 hal h2 h.1, by rw [h1, h2]; exact h.2⟩) ?_
  intro p e s m args below meth c s₁ X0 hexec hbytes hml hret hlk hnm hown hh0 W hP
  obtain ⟨rfl, hA, l1, l2, hp⟩ := hP
  have a31 := hA.1.2.2.2
  have c1 : Steps p.tables e below (s₁.setTop (entryFrame m #[.ref b, .int (Int32.ofNat o), .int (Int32.ofNat len)] 6)) (s₁.setTop (mkF m 0 #[.val (.ref b), .val (.int (Int32.ofNat o)), .val (.int (Int32.ofNat len)), .unset, .unset, .unset] [])) := entry rfl
  have c2 : Steps p.tables e below (s₁.setTop (entryFrame m #[.ref b, .int (Int32.ofNat o), .int (Int32.ofNat len)] 6)) (s₁.setTop (mkF m 1 #[.val (.ref b), .val (.int (Int32.ofNat o)), .val (.int (Int32.ofNat len)), .unset, .unset, .unset] [.int (Int32.ofNat len)])) := c1.trans (by
    refine XS.iloadN X0.here hexec rfl (hb hbytes d0) rfl ?_
    exact Steps.refl _)
  obtain ⟨T3, B3, X3, ba3, bs3, bv3, bh3, bf3, st3⟩ := X0.anew hexec (atype := .byte) (wk W (.arrayClass .byte)) rfl (by show len * 1 ≤ _; omega) (by omega) (g := (mkF m 1 #[.val (.ref b), .val (.int (Int32.ofNat o)), .val (.int (Int32.ofNat len)), .unset, .unset, .unset] [.int (Int32.ofNat len)])) rfl (hb hbytes d1) (rest := []) rfl (Nat.le_refl _) (by show 0 + len ≤ len; omega)
  rw [hh0] at ba3 st3
  have kp3 : XT.Kept s T3 := (XT.Kept.of_eq hh0).push bh3
  have hA3 := hA.keep X3.warmed.alike (kp3 _ _ hA.1.1)
  have hne : b ≠ s.heap.size := hA.1.ne
  have c4 : Steps p.tables e below (s₁.setTop (entryFrame m #[.ref b, .int (Int32.ofNat o), .int (Int32.ofNat len)] 6)) (T3.setTop (mkF m 3 #[.val (.ref b), .val (.int (Int32.ofNat o)), .val (.int (Int32.ofNat len)), .unset, .unset, .unset] [.ref s.heap.size])) := c2.trans (st3 _ (Steps.refl _))
  have c5 : Steps p.tables e below (s₁.setTop (entryFrame m #[.ref b, .int (Int32.ofNat o), .int (Int32.ofNat len)] 6)) (T3.setTop (mkF m 9 #[.val (.ref b), .val (.int (Int32.ofNat o)), .val (.int (Int32.ofNat len)), .val (.ref s.heap.size), .unset, .unset] [.int (Int32.ofNat len), .int 0, .ref s.heap.size, .int (Int32.ofNat o), .ref b])) := c4.trans (by
    refine XS.astoreN X3.here hexec rfl (hb hbytes d3) rfl rfl rfl ?_
    refine XS.aloadN X3.here hexec rfl (hb hbytes d4) rfl rfl ?_
    refine XS.iloadN X3.here hexec rfl (hb hbytes d5) rfl ?_
    refine XS.aloadN X3.here hexec rfl (hb hbytes d6) rfl rfl ?_
    refine iconstV X3.here hexec rfl 0 (hb hbytes d7) (by decide) ?_
    refine XS.iloadN X3.here hexec rfl (hb hbytes d8) rfl ?_
    exact Steps.refl _)
  obtain ⟨v6, T6, X6, E6, g6⟩ := X3.callS hexec (Cmp5.law l b A s.heap.size B3 o 0 len) hown (wks W (staticW U16 115 Cmp5.yN)) (wk W Cmp5.tab) (W := 0) (Nat.le_of_ble_eq_true rfl) (Nat.le_of_ble_eq_true rfl) (Nat.le_refl _) (by show 0 + len + 0 ≤ len; omega) (g := (mkF m 9 #[.val (.ref b), .val (.int (Int32.ofNat o)), .val (.int (Int32.ofNat len)), .val (.ref s.heap.size), .unset, .unset] [.int (Int32.ofNat len), .int (Int32.ofNat 0), .ref s.heap.size, .int (Int32.ofNat o), .ref b])) rfl (by rw [hml]; rfl) c5 (argsL := [.ref b, .int (Int32.ofNat o), .ref s.heap.size, .int (Int32.ofNat 0), .int (Int32.ofNat len)]) (rest := []) rfl rfl (by show 2 * 0 + 0 ≤ _; decide) (hb hbytes d9) (⟨rfl, hA3, ba3, hne, l1, by rw [bs3]; simp, hp⟩)
  obtain ⟨rfl, B6, p6, f6⟩ := E6
  have c7 : Steps p.tables e below (s₁.setTop (entryFrame m #[.ref b, .int (Int32.ofNat o), .int (Int32.ofNat len)] 6)) (T6.setTop (mkF m 12 #[.val (.ref b), .val (.int (Int32.ofNat o)), .val (.int (Int32.ofNat len)), .val (.ref s.heap.size), .unset, .unset] [.int (Int32.ofNat len)])) := g6
  have c8 : Steps p.tables e below (s₁.setTop (entryFrame m #[.ref b, .int (Int32.ofNat o), .int (Int32.ofNat len)] 6)) (T6.setTop (mkF m 58 #[.val (.ref b), .val (.int (Int32.ofNat o)), .val (.int (Int32.ofNat len)), .val (.ref s.heap.size), .val (.int (Int32.ofNat len)), .unset] [.ref s.heap.size])) := c7.trans (by
    refine XS.istore X6.here hexec rfl (hb hbytes d12) rfl rfl ?_
    refine XS.iload X6.here hexec rfl (hb hbytes d14) rfl ?_
    refine XS.iloadN X6.here hexec rfl (hb hbytes d16) rfl ?_
    refine XS.icmpYes X6.here hexec rfl (pc0 := 17) rfl (hb hbytes d17) rfl (ii_eq_t rfl) (by decide) rfl ?_
    refine XS.aloadN X6.here hexec rfl (hb hbytes d57) rfl rfl ?_
    exact Steps.refl _)
  have X8 := X6.wide (L' := []) (cells' := 1) (slots' := len) (fun x hx hlt => by
    simp only [List.nil_append, copyLocs, List.mem_map, List.mem_range] at hx
    obtain ⟨i, -, rfl⟩ := hx
    exact absurd hlt (Nat.lt_irrefl _)) (Nat.le_refl _) (by omega)
  exact ⟨T6, some (.ref s.heap.size), _, _, _, X8, rfl, rfl, rfl, (fun h => by cases h), ⟨⟨rfl, B6, ba3.like (X3.warmed.alike.symm.trans X6.warmed.alike) p6.1 f6.1 f6.2.1 f6.2.2.1, f6.2.1.trans bv3, by rw [X6.warmed.alike.findClass, f6.1]; exact bf3, by rw [f6.2.2.1, bs3]; simp, fun j hj => by rw [f6.2.2.2 j, if_pos (by omega)]; rfl, kp3.put p6 (Nat.le_refl _)⟩, by rw [p6.2.2, bh3, hh0]; simp⟩, fun fs hl => c8.trans (X8.areturnOut hexec rfl hret rfl (hb hbytes d58) hl)⟩
end Cmp3
namespace CodL
def yN : MethodName := ⟨"java/lang/StringUTF16", "coderFromArrayLen", "([BI)B"⟩
abbrev yB : ByteArray := jdk_52_method_15_code
theorem d0 : decode yB 0 = .ok (.iload_n 1, 1) := by decide +kernel
theorem d1 : decode yB 1 = .ok (.aload_n 0, 1) := by decide +kernel
theorem d2 : decode yB 2 = .ok (.arraylength, 1) := by decide +kernel
theorem d3 : decode yB 3 = .ok (.isub, 1) := by decide +kernel
theorem d4 : decode yB 4 = .ok (.bipush 31, 2) := by decide +kernel
theorem d6 : decode yB 6 = .ok (.iushr, 1) := by decide +kernel
theorem d7 : decode yB 7 = .ok (.i2b, 1) := by decide +kernel
theorem d8 : decode yB 8 = .ok (.ireturn, 1) := by decide +kernel
def site : List Cond := []
def tab : Cond := tabOf yN yB 2 (some .byte) site
def P (d : Addr) (B : Cell) (args : Array Value) (s : State) : Prop := args = #[.ref d, .int (Int32.ofNat B.slots.size)] ∧ Arr .byte d B s
def E (r : Option Value) (s u : State) : Prop := XT.PureE (some (.int 0)) r s u
/-- an array as long as the number of chars: LATIN1 -/
theorem law (l : Launch) (d : Addr) (B : Cell) : Law l yN 2 2 0 0 yB 2 (some .byte) site (P d B) E [] 0 0 := by
  refine Law.of_walk (plainFor_of_name (by decide +kernel)) (by decide +kernel) (by decide +kernel) (by decide) (fun _ _ h => by rw [h.1]; rfl) (fun _ U U' hal hh h => ⟨h.1, h.2.mv hal hh⟩) (fun r U U' V V' h1 hal h2 h => XT.PureE.mv r U U' V V' h1 hal h2 h) ?_
  intro p e s m args below meth c s₁ X0 hexec hbytes hml hret hlk hnm hown hh0 W hP
  obtain ⟨rfl, hB⟩ := hP
  have hB0 := hB.mv X0.warmed.alike hh0
  have c1 : Steps p.tables e below (s₁.setTop (entryFrame m #[.ref d, .int (Int32.ofNat B.slots.size)] 2)) (s₁.setTop (mkF m 0 #[.val (.ref d), .val (.int (Int32.ofNat B.slots.size))] [])) := entry rfl
  have c2 : Steps p.tables e below (s₁.setTop (entryFrame m #[.ref d, .int (Int32.ofNat B.slots.size)] 2)) (s₁.setTop (mkF m 2 #[.val (.ref d), .val (.int (Int32.ofNat B.slots.size))] [.ref d, .int (Int32.ofNat B.slots.size)])) := c1.trans (by
    refine XS.iloadN X0.here hexec rfl (hb hbytes d0) rfl ?_
    refine XS.aloadN X0.here hexec rfl (hb hbytes d1) rfl rfl ?_
    exact Steps.refl _)
  have c3 : Steps p.tables e below (s₁.setTop (entryFrame m #[.ref d, .int (Int32.ofNat B.slots.size)] 2)) (s₁.setTop (mkF m 8 #[.val (.ref d), .val (.int (Int32.ofNat B.slots.size))] [.int (lo8 (ushr (Int32.ofNat B.slots.size - Int32.ofNat B.slots.size) 31))])) := c2.trans (by
    refine X0.alen hexec hB0 rfl rfl (hb hbytes d2) ?_
    refine XS.isub X0.here hexec rfl (hb hbytes d3) rfl ?_
    refine bipushV X0.here hexec rfl 31 (hb hbytes d4) (by decide) ?_
    refine iushr X0.here hexec rfl (hb hbytes d6) rfl ?_
    refine i2b X0.here hexec rfl (hb hbytes d7) rfl ?_
    exact Steps.refl _)
  have e0 : lo8 (ushr (Int32.ofNat B.slots.size - Int32.ofNat B.slots.size) 31) = 0 := by rw [Int32.sub_self]; decide
  rw [e0] at c3
  exact ⟨s₁, some (.int 0), _, _, _, X0, rfl, rfl, rfl, (fun h => by cases h), ⟨rfl, hh0⟩, fun fs hl => c3.trans (X0.ireturnOut hexec hret rfl (Or.inr (Or.inr (Or.inl rfl))) (hb hbytes d8) hl)⟩
end CodL
/-- the String at a is Latin-1 over a new byte[] (the heap's one new cell): the low bytes of the len chars of A from o on; every cell but a is kept -/
def Got (a : Addr) (D : Cell) (fV fC : Field) (A : Cell) (o len : Nat) (r : Option Value) (s u : State) : Prop := r = none ∧ ∃ D' V : Cell, Blank "java/lang/String" a D' u ∧ Same D D' [fV.slot, fC.slot] ∧ D'.slots[fV.slot]? = some (.ref s.heap.size) ∧ D'.slots[fC.slot]? = some (.int 0) ∧ Arr .byte s.heap.size V u ∧ V.vm = .none ∧ u.vm.findClass "[B" = some V.cls ∧ V.slots.size = len ∧ (∀ j, j < len → V.slots[j]? = some (.int (lo8 (cv A (o + j))))) ∧ (∀ (y : Addr) (c : Cell), y ≠ a → s.heap[y]? = some c → u.heap[y]? = some c) ∧ u.heap.size = s.heap.size + 1
theorem Got.mv {a : Addr} {D A : Cell} {fV fC : Field} {o len : Nat} : ∀ r (U U' V V' : State), U'.heap = U.heap → V.vm.Alike V'.vm → V'.heap = V.heap → Got a D fV fC A o len r U V → Got a D fV fC A o len r U' V' :=
  fun r U U' V V' h1 hal h2 ⟨e0, D', X, a1, a2, a3, a4, a5, a6, a7, a8, a9, a10, a11⟩ => ⟨e0, D', X, a1.mv hal h2, a2, by rw [h1]; exact a3, a4, by rw [h1]; exact a5.mv hal h2, a6, by rw [hal.findClass]; exact a7, a8, a9, by rw [h1, h2]; exact a10, by rw [h1, h2]; exact a11⟩
namespace New4
def yN : MethodName := ⟨"java/lang/String", "<init>", "([CIILjava/lang/Void;)V"⟩
abbrev yB : ByteArray := jdk_42_method_149_code
theorem d0 : decode yB 0 = .ok (.aload_n 0, 1) := by decide +kernel
theorem d1 : decode yB 1 = .ok (.invokespecial 1, 3) := by decide +kernel
theorem d4 : decode yB 4 = .ok (.iload_n 3, 1) := by decide +kernel
theorem d5 : decode yB 5 = .ok (.ifCond (.ne) 22, 3) := by decide +kernel
theorem d27 : decode yB 27 = .ok (.getstatic 38, 3) := by decide +kernel
theorem d30 : decode yB 30 = .ok (.ifCond (.eq) 28, 3) := by decide +kernel
theorem d33 : decode yB 33 = .ok (.aload_n 1, 1) := by decide +kernel
theorem d34 : decode yB 34 = .ok (.iload_n 2, 1) := by decide +kernel
theorem d35 : decode yB 35 = .ok (.iload_n 3, 1) := by decide +kernel
theorem d36 : decode yB 36 = .ok (.invokestatic 177, 3) := by decide +kernel
theorem d39 : decode yB 39 = .ok (.astore 5, 2) := by decide +kernel
theorem d41 : decode yB 41 = .ok (.aload_n 0, 1) := by decide +kernel
theorem d42 : decode yB 42 = .ok (.aload 5, 2) := by decide +kernel
theorem d44 : decode yB 44 = .ok (.iload_n 3, 1) := by decide +kernel
theorem d45 : decode yB 45 = .ok (.invokestatic 47, 3) := by decide +kernel
theorem d48 : decode yB 48 = .ok (.putfield 15, 3) := by decide +kernel
theorem d51 : decode yB 51 = .ok (.aload_n 0, 1) := by decide +kernel
theorem d52 : decode yB 52 = .ok (.aload 5, 2) := by decide +kernel
theorem d54 : decode yB 54 = .ok (.putfield 9, 3) := by decide +kernel
theorem d57 : decode yB 57 = .ok (.return_, 1) := by decide +kernel
def site : List Cond := [.fieldLink "java/lang/String" 38 "java/lang/String" "COMPACT_STRINGS" "Z", Cmp3.tab, CodL.tab, .laysFinal "java/lang/String" "java/lang/String" "value" "[B", .fieldLink "java/lang/String" 9 "java/lang/String" "value" "[B", .laysFinal "java/lang/String" "java/lang/String" "coder" "B", .fieldLink "java/lang/String" 15 "java/lang/String" "coder" "B"] ++ objW "java/lang/String" 1 ++ staticW "java/lang/String" 177 Cmp3.yN ++ staticW "java/lang/String" 47 CodL.yN
def tab : Cond := tabOf yN yB 6 none site
def P (a : Addr) (D : Cell) (fV fC : Field) (b : Addr) (A : Cell) (z : Int32) (o len : Nat) (args : Array Value) (s : State) : Prop := args = #[.ref a, .ref b, .int (Int32.ofNat o), .int (Int32.ofNat len), .null] ∧ Blank "java/lang/String" a D s ∧ Found "java/lang/String" "value" "[B" fV s ∧ Found "java/lang/String" "coder" "B" fC s ∧ Ch b A s ∧ StaticIs s "java/lang/String" "COMPACT_STRINGS" "Z" (.int z) ∧ ¬ z = 0 ∧ 0 < len ∧ o + len ≤ A.slots.size ∧ len ≤ 536870912 ∧ ∀ i, i < len → ¬ 255 < cv A (o + i)
def E (a : Addr) (D : Cell) (fV fC : Field) (A : Cell) (o len : Nat) (r : Option Value) (s u : State) : Prop := Got a D fV fC A o len r s u
/-- len > 0, no char of the range above 255: a Latin-1 String of their low bytes -/
theorem law (l : Launch) (a : Addr) (D : Cell) (fV fC : Field) (b : Addr) (A : Cell) (z : Int32) (o len : Nat) : Law l yN 5 4 2 35 yB 6 none site (P a D fV fC b A z o len) (E a D fV fC A o len) [⟨a, fC.slot⟩, ⟨a, fV.slot⟩] 1 len := by
  refine Law.of_walk (plainFor_of_name (by decide +kernel)) (by decide +kernel) (by decide +kernel) (by decide) (fun _ _ h => by rw [h.1]; rfl) (fun _ U U' hal hh h => ⟨h.1, h.2.1.mv hal hh, h.2.2.1.al hal, h.2.2.2.1.al hal, h.2.2.2.2.1.mv hal hh, h.2.2.2.2.2.1.there hal hh, h.2.2.2.2.2.2⟩) (fun r U U' V V' h1 hal h2 h => Got.mv r U U' V V' h1 hal h2 h) ?_
  intro p e s m args below meth c s₁ X0 hexec hbytes hml hret hlk hnm hown hh0 W hP
  obtain ⟨rfl, hB, f1, f2, hA, s1, hz, l0, l1, l2, hp⟩ := hP
  have a31 := hA.1.2.2.2
  have c1 : Steps p.tables e below (s₁.setTop (entryFrame m #[.ref a, .ref b, .int (Int32.ofNat o), .int (Int32.ofNat len), .null] 6)) (s₁.setTop (mkF m 0 #[.val (.ref a), .val (.ref b), .val (.int (Int32.ofNat o)), .val (.int (Int32.ofNat len)), .val .null, .unset] [])) := entry rfl
  have c2 : Steps p.tables e below (s₁.setTop (entryFrame m #[.ref a, .ref b, .int (Int32.ofNat o), .int (Int32.ofNat len), .null] 6)) (s₁.setTop (mkF m 1 #[.val (.ref a), .val (.ref b), .val (.int (Int32.ofNat o)), .val (.int (Int32.ofNat len)), .val .null, .unset] [.ref a])) := c1.trans (by
    refine XS.aloadN X0.here hexec rfl (hb hbytes d0) rfl rfl ?_
    exact Steps.refl _)
  obtain ⟨T3, X3, q3, st3⟩ := X0.oinit hexec hown (wks W (objW "java/lang/String" 1)) (g := (mkF m 1 #[.val (.ref a), .val (.ref b), .val (.int (Int32.ofNat o)), .val (.int (Int32.ofNat len)), .val .null, .unset] [.ref a])) rfl (by rw [hml]; rfl) (rest := []) rfl (hb hbytes d1) (W := 0) (by show 2 * 0 + 0 ≤ _; decide) (Nat.le_of_ble_eq_true rfl) (Nat.le_of_ble_eq_true rfl)
  have hh3 := q3.trans hh0
  have c4 : Steps p.tables e below (s₁.setTop (entryFrame m #[.ref a, .ref b, .int (Int32.ofNat o), .int (Int32.ofNat len), .null] 6)) (T3.setTop (mkF m 27 #[.val (.ref a), .val (.ref b), .val (.int (Int32.ofNat o)), .val (.int (Int32.ofNat len)), .val .null, .unset] [])) := (c2.trans (st3 _ (Steps.refl _))).trans (by
    refine XS.iloadN X3.here hexec rfl (hb hbytes d4) rfl ?_
    refine XS.ifYes X3.here hexec rfl (pc0 := 5) rfl (hb hbytes d5) rfl (i0_ne_t (nz32 (by omega) l0)) (by decide) rfl ?_
    exact Steps.refl _)
  obtain ⟨T5, X5, q5, st5⟩ := X3.sget hexec hown (wk W (.fieldLink "java/lang/String" 38 "java/lang/String" "COMPACT_STRINGS" "Z")) s1 (fun _ _ h => by rw [hh3]; exact h) (g := (mkF m 27 #[.val (.ref a), .val (.ref b), .val (.int (Int32.ofNat o)), .val (.int (Int32.ofNat len)), .val .null, .unset] [])) rfl (hb hbytes d27)
  have hh5 := q5.trans hh3
  have c6 : Steps p.tables e below (s₁.setTop (entryFrame m #[.ref a, .ref b, .int (Int32.ofNat o), .int (Int32.ofNat len), .null] 6)) (T5.setTop (mkF m 30 #[.val (.ref a), .val (.ref b), .val (.int (Int32.ofNat o)), .val (.int (Int32.ofNat len)), .val .null, .unset] [.int z])) := c4.trans (st5 _ (Steps.refl _))
  have c7 : Steps p.tables e below (s₁.setTop (entryFrame m #[.ref a, .ref b, .int (Int32.ofNat o), .int (Int32.ofNat len), .null] 6)) (T5.setTop (mkF m 36 #[.val (.ref a), .val (.ref b), .val (.int (Int32.ofNat o)), .val (.int (Int32.ofNat len)), .val .null, .unset] [.int (Int32.ofNat len), .int (Int32.ofNat o), .ref b])) := c6.trans (by
    refine XS.ifNo X5.here hexec rfl (hb hbytes d30) rfl (i0_eq_f hz) ?_
    refine XS.aloadN X5.here hexec rfl (hb hbytes d33) rfl rfl ?_
    refine XS.iloadN X5.here hexec rfl (hb hbytes d34) rfl ?_
    refine XS.iloadN X5.here hexec rfl (hb hbytes d35) rfl ?_
    exact Steps.refl _)
  obtain ⟨v8, T8, X8, E8, g8⟩ := X5.callS hexec (Cmp3.law l b A o len) hown (wks W (staticW "java/lang/String" 177 Cmp3.yN)) (wk W Cmp3.tab) (W := 0) (Nat.le_of_ble_eq_true rfl) (Nat.le_of_ble_eq_true rfl) (Nat.le_refl _) (by show 0 + len ≤ len; omega) (g := (mkF m 36 #[.val (.ref a), .val (.ref b), .val (.int (Int32.ofNat o)), .val (.int (Int32.ofNat len)), .val .null, .unset] [.int (Int32.ofNat len), .int (Int32.ofNat o), .ref b])) rfl (by rw [hml]; rfl) c7 (argsL := [.ref b, .int (Int32.ofNat o), .int (Int32.ofNat len)]) (rest := []) rfl rfl (by show 2 * 0 + 0 ≤ _; decide) (hb hbytes d36) (⟨rfl, hA.mv X5.warmed.alike hh5, l1, l2, hp⟩)
  obtain ⟨e8, z8⟩ := E8
  obtain ⟨rfl, N, n1, n2, n3, n4, n5, n6⟩ := NewArr.mv _ T5 s _ _ hh5.symm (Vm.Alike.refl _) rfl e8
  rw [hh5] at z8
  have hB1 := hB.keep X8.warmed.alike (n6 _ _ hB.1)
  have hne : s.heap.size ≠ a := (Nat.ne_of_lt (Array.getElem?_eq_some_iff.mp hB.1).1).symm
  have c9 : Steps p.tables e below (s₁.setTop (entryFrame m #[.ref a, .ref b, .int (Int32.ofNat o), .int (Int32.ofNat len), .null] 6)) (T8.setTop (mkF m 39 #[.val (.ref a), .val (.ref b), .val (.int (Int32.ofNat o)), .val (.int (Int32.ofNat len)), .val .null, .unset] [.ref s.heap.size])) := g8
  have c10 : Steps p.tables e below (s₁.setTop (entryFrame m #[.ref a, .ref b, .int (Int32.ofNat o), .int (Int32.ofNat len), .null] 6)) (T8.setTop (mkF m 45 #[.val (.ref a), .val (.ref b), .val (.int (Int32.ofNat o)), .val (.int (Int32.ofNat len)), .val .null, .val (.ref s.heap.size)] [.int (Int32.ofNat N.slots.size), .ref s.heap.size, .ref a])) := by
    have hc : Steps p.tables e below (s₁.setTop (entryFrame m #[.ref a, .ref b, .int (Int32.ofNat o), .int (Int32.ofNat len), .null] 6)) (T8.setTop (mkF m 45 #[.val (.ref a), .val (.ref b), .val (.int (Int32.ofNat o)), .val (.int (Int32.ofNat len)), .val .null, .val (.ref s.heap.size)] [.int (Int32.ofNat len), .ref s.heap.size, .ref a])) := c9.trans (by
      refine XS.astore X8.here hexec rfl (hb hbytes d39) rfl rfl rfl ?_
      refine XS.aloadN X8.here hexec rfl (hb hbytes d41) rfl rfl ?_
      refine XS.aload X8.here hexec rfl (hb hbytes d42) rfl rfl ?_
      refine XS.iloadN X8.here hexec rfl (hb hbytes d44) rfl ?_
      exact Steps.refl _)
    rw [n4]; exact hc
  obtain ⟨v11, T11, X11, E11, g11⟩ := X8.callS hexec (CodL.law l s.heap.size N) hown (wks W (staticW "java/lang/String" 47 CodL.yN)) (wk W CodL.tab) (W := 1) (Nat.le_of_ble_eq_true rfl) (Nat.le_of_ble_eq_true rfl) (Nat.le_refl _) (by show 0 + len + 0 ≤ len; omega) (g := (mkF m 45 #[.val (.ref a), .val (.ref b), .val (.int (Int32.ofNat o)), .val (.int (Int32.ofNat len)), .val .null, .val (.ref s.heap.size)] [.int (Int32.ofNat N.slots.size), .ref s.heap.size, .ref a])) rfl (by rw [hml]; rfl) c10 (argsL := [.ref s.heap.size, .int (Int32.ofNat N.slots.size)]) (rest := [.ref a]) rfl rfl (by show 2 * 0 + (1 + 0) ≤ _; decide) (hb hbytes d45) (⟨rfl, n1⟩)
  obtain ⟨rfl, q11⟩ := E11
  have hB11 := hB1.mv (X8.warmed.alike.symm.trans X11.warmed.alike) q11
  have c12 : Steps p.tables e below (s₁.setTop (entryFrame m #[.ref a, .ref b, .int (Int32.ofNat o), .int (Int32.ofNat len), .null] 6)) (T11.setTop (mkF m 48 #[.val (.ref a), .val (.ref b), .val (.int (Int32.ofNat o)), .val (.int (Int32.ofNat len)), .val .null, .val (.ref s.heap.size)] [.int 0, .ref a])) := g11
  obtain ⟨T13, X13, p13, bl13, sl13, st13⟩ := X11.finit hexec hown (wk W (.fieldLink "java/lang/String" 15 "java/lang/String" "coder" "B")) (Or.inr ⟨_, (wk W (.laysFinal "java/lang/String" "java/lang/String" "coder" "B"))⟩) (Or.inl ⟨rfl, hnm⟩) f2 (Or.inl rfl) hB11 (t := .byte) (by decide +kernel) rfl (g := (mkF m 48 #[.val (.ref a), .val (.ref b), .val (.int (Int32.ofNat o)), .val (.int (Int32.ofNat len)), .val .null, .val (.ref s.heap.size)] [.int 0, .ref a])) rfl (rest := []) rfl (hb hbytes d48)
  have c14 : Steps p.tables e below (s₁.setTop (entryFrame m #[.ref a, .ref b, .int (Int32.ofNat o), .int (Int32.ofNat len), .null] 6)) (T13.setTop (mkF m 54 #[.val (.ref a), .val (.ref b), .val (.int (Int32.ofNat o)), .val (.int (Int32.ofNat len)), .val .null, .val (.ref s.heap.size)] [.ref s.heap.size, .ref a])) := (c12.trans (st13 _ (Steps.refl _))).trans (by
    refine XS.aloadN X13.here hexec rfl (hb hbytes d51) rfl rfl ?_
    refine XS.aload X13.here hexec rfl (hb hbytes d52) rfl rfl ?_
    exact Steps.refl _)
  obtain ⟨T15, X15, p15, bl15, sl15, st15⟩ := X13.finit hexec hown (wk W (.fieldLink "java/lang/String" 9 "java/lang/String" "value" "[B")) (Or.inr ⟨_, (wk W (.laysFinal "java/lang/String" "java/lang/String" "value" "[B"))⟩) (Or.inl ⟨rfl, hnm⟩) f1 (Or.inl rfl) bl13 (t := (.array .byte)) (by decide +kernel) rfl (g := (mkF m 54 #[.val (.ref a), .val (.ref b), .val (.int (Int32.ofNat o)), .val (.int (Int32.ofNat len)), .val .null, .val (.ref s.heap.size)] [.ref s.heap.size, .ref a])) rfl (rest := []) rfl (hb hbytes d54)
  have c16 : Steps p.tables e below (s₁.setTop (entryFrame m #[.ref a, .ref b, .int (Int32.ofNat o), .int (Int32.ofNat len), .null] 6)) (T15.setTop (mkF m 57 #[.val (.ref a), .val (.ref b), .val (.int (Int32.ofNat o)), .val (.int (Int32.ofNat len)), .val .null, .val (.ref s.heap.size)] [])) := c14.trans (st15 _ (Steps.refl _))
  have ap := apart (Or.inr ⟨_, (wk W (.laysFinal "java/lang/String" "java/lang/String" "value" "[B"))⟩) (Or.inr ⟨_, (wk W (.laysFinal "java/lang/String" "java/lang/String" "coder" "B"))⟩) f1 f2 (t₁ := .array .byte) (t₂ := .byte) (by decide +kernel) (by decide +kernel) (by decide)
  have al := X8.warmed.alike.symm.trans X15.warmed.alike
  have n7 : T11.heap[s.heap.size]? = some N := by rw [q11]; exact n1.1
  exact ⟨T15, none, _, _, _, X15, by simp, rfl, by omega, (fun _ => rfl), ⟨rfl, _, N, bl15, ((Same.refl D _).set _ (by simp)).set _ (by simp), sl15, (Cell.slots_setSlot_ne _ ap).trans sl13, n1.keep al (p15.other hne (p13.other hne n7)), n2, by rw [al.findClass]; exact n3, n4, n5, fun y c h1 h2 => p15.other h1 (p13.other h1 (by rw [q11]; exact n6 y c h2)), by rw [p15.2.2, p13.2.2, q11]; exact z8⟩, fun fs hl => c16.trans (X15.returnOut hexec hret (hb hbytes d57) hl)⟩
end New4
namespace New1
def yN : MethodName := ⟨"java/lang/String", "<init>", "([C)V"⟩
abbrev yB : ByteArray := jdk_42_method_3_code
theorem d0 : decode yB 0 = .ok (.aload_n 0, 1) := by decide +kernel
theorem d1 : decode yB 1 = .ok (.aload_n 1, 1) := by decide +kernel
theorem d2 : decode yB 2 = .ok (.iconst 0, 1) := by decide +kernel
theorem d3 : decode yB 3 = .ok (.aload_n 1, 1) := by decide +kernel
theorem d4 : decode yB 4 = .ok (.arraylength, 1) := by decide +kernel
theorem d5 : decode yB 5 = .ok (.aconst_null, 1) := by decide +kernel
theorem d6 : decode yB 6 = .ok (.invokespecial 27, 3) := by decide +kernel
theorem d9 : decode yB 9 = .ok (.return_, 1) := by decide +kernel
def site : List Cond := [New4.tab] ++ initW "java/lang/String" 27 New4.yN
def tab : Cond := tabOf yN yB 2 none site
def P (a : Addr) (D : Cell) (fV fC : Field) (b : Addr) (A : Cell) (z : Int32) (args : Array Value) (s : State) : Prop := args = #[.ref a, .ref b] ∧ Blank "java/lang/String" a D s ∧ Found "java/lang/String" "value" "[B" fV s ∧ Found "java/lang/String" "coder" "B" fC s ∧ Ch b A s ∧ StaticIs s "java/lang/String" "COMPACT_STRINGS" "Z" (.int z) ∧ ¬ z = 0 ∧ 0 < A.slots.size ∧ A.slots.size ≤ 536870912 ∧ ∀ i, i < A.slots.size → ¬ 255 < cv A i
def E (a : Addr) (D : Cell) (fV fC : Field) (A : Cell) (r : Option Value) (s u : State) : Prop := Got a D fV fC A 0 A.slots.size r s u
/-- new String(chars), not empty, no char above 255: a Latin-1 String of their low bytes -/
theorem law (l : Launch) (a : Addr) (D : Cell) (fV fC : Field) (b : Addr) (A : Cell) (z : Int32) : Law l yN 2 1 3 52 yB 2 none site (P a D fV fC b A z) (E a D fV fC A) [⟨a, fC.slot⟩, ⟨a, fV.slot⟩] 1 A.slots.size := by
  refine Law.of_walk (plainFor_of_name (by decide +kernel)) (by decide +kernel) (by decide +kernel) (by decide) (fun _ _ h => by rw [h.1]; rfl) (fun _ U U' hal hh h => ⟨h.1, h.2.1.mv hal hh, h.2.2.1.al hal, h.2.2.2.1.al hal, h.2.2.2.2.1.mv hal hh, h.2.2.2.2.2.1.there hal hh, h.2.2.2.2.2.2⟩) (fun r U U' V V' h1 hal h2 h => Got.mv r U U' V V' h1 hal h2 h) ?_
  intro p e s m args below meth c s₁ X0 hexec hbytes hml hret hlk hnm hown hh0 W hP
  obtain ⟨rfl, hB, f1, f2, hA, s1, hz, l0, l2, hp⟩ := hP
  have c1 : Steps p.tables e below (s₁.setTop (entryFrame m #[.ref a, .ref b] 2)) (s₁.setTop (mkF m 0 #[.val (.ref a), .val (.ref b)] [])) := entry rfl
  have c2 : Steps p.tables e below (s₁.setTop (entryFrame m #[.ref a, .ref b] 2)) (s₁.setTop (mkF m 6 #[.val (.ref a), .val (.ref b)] [.null, .int (Int32.ofNat A.slots.size), .int 0, .ref b, .ref a])) := c1.trans (by
    refine XS.aloadN X0.here hexec rfl (hb hbytes d0) rfl rfl ?_
    refine XS.aloadN X0.here hexec rfl (hb hbytes d1) rfl rfl ?_
    refine iconstV X0.here hexec rfl 0 (hb hbytes d2) (by decide) ?_
    refine XS.aloadN X0.here hexec rfl (hb hbytes d3) rfl rfl ?_
    refine X0.alen hexec (hA.1.mv X0.warmed.alike hh0) rfl rfl (hb hbytes d4) ?_
    refine XS.aconstNull X0.here hexec rfl (hb hbytes d5) ?_
    exact Steps.refl _)
  obtain ⟨v3, T3, X3, E3, g3⟩ := X0.callN hexec (New4.law l a D fV fC b A z 0 A.slots.size) rfl hown (wks W (initW "java/lang/String" 27 New4.yN)) (W New4.tab (by simp only [site, List.mem_cons, List.mem_append, true_or, or_true])) (W := 0) (Nat.le_of_ble_eq_true rfl) (Nat.le_of_ble_eq_true rfl) (Nat.le_refl _) (by show 0 + A.slots.size ≤ A.slots.size; omega) (g := (mkF m 6 #[.val (.ref a), .val (.ref b)] [.null, .int (Int32.ofNat A.slots.size), .int (Int32.ofNat 0), .ref b, .ref a])) rfl (by rw [hml]; rfl) c2 (argsL := [.ref b, .int (Int32.ofNat 0), .int (Int32.ofNat A.slots.size), .null]) (rest := []) rfl rfl (by show 2 * 0 + 0 ≤ _; decide) (hb hbytes d6) (⟨rfl, hB.mv X0.warmed.alike hh0, f1.al X0.warmed.alike, f2.al X0.warmed.alike, hA.mv X0.warmed.alike hh0, s1.there X0.warmed.alike hh0, hz, l0, by omega, l2, fun i hi => by rw [Nat.zero_add]; exact hp i hi⟩)
  have e0 := Got.mv _ s₁ s _ _ hh0.symm (Vm.Alike.refl _) rfl E3
  obtain rfl := e0.1
  have c4 : Steps p.tables e below (s₁.setTop (entryFrame m #[.ref a, .ref b] 2)) (T3.setTop (mkF m 9 #[.val (.ref a), .val (.ref b)] [])) := g3
  exact ⟨T3, none, _, _, _, X3, by simp, rfl, by omega, (fun _ => rfl), e0, fun fs hl => c4.trans (X3.returnOut hexec hret (hb hbytes d9) hl)⟩
theorem pays {l : Launch} {R : Room} {p : Program} {e : Env} {below : List Frame} {s : State} {sargs : Array Value} {len W : Nat} (a : Addr) (D : Cell) (fV fC : Field) (b : Addr) (A : Cell) (z : Int32) (htab : tab.before sargs s = true) (hfr : 4 ≤ R.frames) (hlo : W + 65 ≤ R.locals) :
    Back l R p e below s sargs yN len W (fun A₁ a₁ => A₁.cells + 1 ≤ R.cells ∧ A₁.slots + A.slots.size ≤ R.slots ∧ P a D fV fC b A z a₁ A₁.U) (fun A₁ _ v₁ B₁ => E a D fV fC A v₁ A₁.U B₁.U ∧ B₁.locs = A₁.locs ++ [⟨a, fC.slot⟩, ⟨a, fV.slot⟩] ∧ B₁.cells = A₁.cells + 1 ∧ B₁.slots = A₁.slots + A.slots.size) :=
  (law l a D fV fC b A z).pays htab hfr (by omega)
end New1
end StrChars
namespace StrChars.Road
open Jvm Sem ClassFile Op Lib Jvm.Stand Jvm.Free Jvm.Free.XT
open Jvm.Lib.Cold (StaticIs)
abbrev ST : String := "java/lang/String"
/-- every table word that New1's law asks, flat -/
abbrev words : List Jvm.Cond := [.code New1.yN New1.yB 2 none, .initialized ST, .methodLink ST 27 New4.yN, .instanceMethod New4.yN,
  .code New4.yN New4.yB 6 none, .fieldLink ST 38 ST "COMPACT_STRINGS" "Z", .laysFinal ST ST "value" "[B", .fieldLink ST 9 ST "value" "[B", .laysFinal ST ST "coder" "B", .fieldLink ST 15 ST "coder" "B",
  .methodLink ST 1 Lib.objectInit, .instanceMethod Lib.objectInit, .code Lib.objectInit ⟨#[0xb1]⟩ 1 none, .methodLink ST 177 Cmp3.yN, .static Cmp3.yN, .methodLink ST 47 CodL.yN, .static CodL.yN,
  .code Cmp3.yN Cmp3.yB 6 (some (.array .byte)), .initialized U16, .arrayClass .byte, .methodLink U16 115 Cmp5.yN, .static Cmp5.yN, .code Cmp5.yN Cmp5.yB 7 (some .int), .code CodL.yN CodL.yB 2 (some .byte)]
theorem tab_of {a : Array Value} {s : State} (h : ∀ w ∈ words, w.before a s = true) : New1.tab.before a s = true := by
  have h5 : Cmp5.tab.before a s = true := unparts (wk h (.code Cmp5.yN Cmp5.yB 7 (some .int))) (wks h (.initialized Cmp5.yN.cls :: Cmp5.site))
  have hc : CodL.tab.before a s = true := unparts (wk h (.code CodL.yN CodL.yB 2 (some .byte))) (wks h (.initialized CodL.yN.cls :: CodL.site))
  have q5 : ∀ w ∈ Cmp5.tab :: words, w.before a s = true := fun w hw => (List.mem_cons.mp hw).elim (fun e => e ▸ h5) (h w)
  have h3 : Cmp3.tab.before a s = true := unparts (wk q5 (.code Cmp3.yN Cmp3.yB 6 (some (.array .byte)))) (wks q5 (.initialized Cmp3.yN.cls :: Cmp3.site))
  have q3 : ∀ w ∈ Cmp3.tab :: CodL.tab :: words, w.before a s = true := fun w hw => (List.mem_cons.mp hw).elim (fun e => e ▸ h3) fun hw => (List.mem_cons.mp hw).elim (fun e => e ▸ hc) (h w)
  have h4 : New4.tab.before a s = true := unparts (wk q3 (.code New4.yN New4.yB 6 none)) (wks q3 (.initialized New4.yN.cls :: New4.site))
  have q4 : ∀ w ∈ New4.tab :: words, w.before a s = true := fun w hw => (List.mem_cons.mp hw).elim (fun e => e ▸ h4) (h w)
  exact unparts (wk q4 (.code New1.yN New1.yB 2 none)) (wks q4 (.initialized New1.yN.cls :: New1.site))
/-- the words ride from the start Z to the walk's own state -/
theorem moved {Z s : State} {a0 args : Array Value} (hZ : Z.Warmed39 s.vm) (hw : ∀ d ∈ words, d.before a0 Z = true) : ∀ d ∈ words, d.before args s = true := fun d hd => by
  have q := hw d hd
  have t : ∀ d ∈ words, d = .arrayClass .byte ∨ (d.onTables && d.keepsFace) = true := by decide +kernel
  rcases t d hd with rfl | t
  · exact RoadKit.mvA hZ q
  · exact RoadKit.mv hZ q t
/-- WHAT COMES BACK, over the tables of the start Z: h the heap at the call, h' behind it -/
def Q (Z : State) (x : Addr) (A : Cell) (h : Heap) (v : Option Value) (h' : Heap) (L : List Loc) : Prop := v = none ∧ (∀ y ∈ L, y.base = x) ∧ RoadKit.Keep h h' [x] ∧ h'.size = h.size + 1 ∧ RoadKit.Exa Z h' x ST ∧ RoadKit.Fld Z h' x ST "value" "[B" (.ref h.size) ∧ RoadKit.Fld Z h' x ST "coder" "B" (.int 0) ∧
  (∃ V : Cell, RoadKit.Arr Z h' h.size V .byte ∧ V.vm = .none ∧ Z.vm.findClass "[B" = some V.cls ∧ V.slots.size = A.slots.size ∧ ∀ j, j < A.slots.size → V.slots[j]? = some (.int (lo8 (cv A j)))) ∧
  ∀ (O n d : String) (w : Value), RoadKit.Fld Z h x O n d w → RoadKit.slotOf Z O n d ≠ RoadKit.slotOf Z ST "value" "[B" → RoadKit.slotOf Z O n d ≠ RoadKit.slotOf Z ST "coder" "B" → RoadKit.Fld Z h' x O n d w
/-- **new String(chars) AT A CALL, IN THE ROAD'S FORM**: for specialBack behind newO: x the fresh String, b the char[] with the cell A -/
theorem back {p : Program} {l : Launch} {e : Env} {R : Room} {s : State} {args : Array Value} {below : List Frame} {len W : Nat} {Z : State} {a0 : Array Value} {h : Heap} (hZ : Z.Warmed39 s.vm) (hw : ∀ d ∈ words, d.before a0 Z = true) {kI : Nat} (wi : (Jvm.Cond.instantiable ST kI).before a0 Z = true)
    {x b : Addr} {A : Cell} {z : Int32} {v0 c0 : Value} (E : RoadKit.Exa Z h x ST) (V : RoadKit.Fld Z h x ST "value" "[B" v0) (C : RoadKit.Fld Z h x ST "coder" "B" c0) (K : RoadKit.Arr Z h b A .char) (hty : Typed .char A) (S : RoadKit.Sta Z h ST "COMPACT_STRINGS" "Z" (.int z)) (hz : ¬ z = 0)
    (l0 : 0 < A.slots.size) (l2 : A.slots.size ≤ 536870912) (hp : ∀ i, i < A.slots.size → ¬ 255 < cv A i) (hfr : 4 ≤ R.frames) (hlo : W + 65 ≤ R.locals) :
    Back l R p e below s args New1.yN len W (fun P a => a = #[.ref x, .ref b] ∧ P.U.heap = h ∧ P.cells + 1 ≤ R.cells ∧ P.slots + A.slots.size ≤ R.slots)
      (fun P _ v B => ∃ L, Q Z x A h v B.U.heap L ∧ B.locs = P.locs ++ L ∧ B.cells = P.cells + 1 ∧ B.slots = P.slots + A.slots.size) := by
  intro m meth c P g ig mk a X hg hsize hdg hW hn hp'
  obtain ⟨rfl, rfl, r1, r2⟩ := hp'
  have al : Z.vm.Alike P.U.vm := hZ.alike.trans X.warmed.alike
  obtain ⟨D, cfV, kV, iV, fV, hD, gV, stV, knV, obV, asV, slV⟩ := id V
  obtain ⟨D', cfC, kC, iC, fC, hD', gC, stC, -, -, asC, slC⟩ := id C
  cases hD.symm.trans hD'
  obtain ⟨D2, kD, e1, e2, e3, e4, e5⟩ := id E
  cases hD.symm.trans e1
  obtain ⟨c2, k2, i1, i2, i3, -⟩ := Cond.instantiable_spec wi
  cases e2.symm.trans i1
  cases e3.symm.trans i2
  obtain ⟨kU, u1, u2⟩ := al.2.2 _ _ e3
  have hB : Blank ST x D P.U := ⟨hD, ⟨knV, fun q hq => by rw [hq] at obV; cases obV⟩, by rw [al.findClass]; exact e2, kU, u1, by rw [u2]; exact i3, by rw [u2]; exact e5 i3⟩
  have F1 : Found ST "value" "[B" fV P.U := ⟨SBG.found_only al ⟨cfV, kV, iV, gV⟩, stV⟩
  have F2 : Found ST "coder" "B" fC P.U := ⟨SBG.found_only al ⟨cfC, kC, iC, gC⟩, stC⟩
  have hA : Ch b A P.U := ⟨⟨K.1, State.isArrayOf_alike al K.2.1, K.2.2, by omega⟩, hty⟩
  have hS : StaticIs P.U ST "COMPACT_STRINGS" "Z" (.int z) := by
    obtain ⟨cfS, iS, kS, fS, st, cS, t1, t2, t3, t4, t5, t6, t7⟩ := S
    exact StaticIs.there (s := { Z with heap := P.U.heap }) ⟨cfS, iS, kS, fS, st, cS, t1, t2, t3, t4, t5, (fun q => by rw [q] at t6; cases t6), t7⟩ al rfl
  obtain ⟨v, B, X', ⟨⟨hv, E', V', q1, q2, q3, q4, q5, q6, q7, q8, q9, q10, q11⟩, hl, hc, hs⟩, st⟩ := New1.pays x D fV fC b A z (tab_of (moved hZ hw)) hfr hlo m meth c P g ig mk _ X hg hsize hdg hW hn ⟨r1, r2, rfl, hB, F1, F2, hA, hS, hz, l0, l2, hp⟩
  have al' : Z.vm.Alike B.U.vm := hZ.alike.trans X'.warmed.alike
  have hsz : E'.slots.size = D.slots.size := by
    obtain ⟨-, -, -, kB, w1, w2, w3⟩ := q1
    obtain ⟨kB', y1, y2⟩ := al'.2.2 _ _ e3
    rw [q2.2.1] at w1
    cases w1.symm.trans y1
    rw [w3, e5 i3, y2]
  refine ⟨v, B, X', ⟨_, ⟨hv, ?_, ⟨by omega, fun y cy hy hn' => q10 y cy (by simpa using hn') hy, fun y cy hy => ?_⟩, q11, ⟨E', _, q1.1, by rw [q2.2.1]; exact e2, by rw [q2.2.1]; exact e3, by rw [q2.1]; exact obV, fun _ => by rw [hsz]; exact e5 i3⟩,
    ⟨E', cfV, kV, iV, fV, q1.1, gV, stV, by rw [q2.1]; exact knV, by rw [q2.1]; exact obV, by rw [q2.2.1]; exact asV, q3⟩, ⟨E', cfC, kC, iC, fC, q1.1, gC, stC, by rw [q2.1]; exact knV, by rw [q2.1]; exact obV, by rw [q2.2.1]; exact asC, q4⟩,
    ⟨V', ⟨q5.1, State.isArrayOf_alike al'.symm q5.2.1, q5.2.2.1⟩, q6, by rw [← al'.findClass]; exact q7, q8, fun j hj => by have := q9 j hj; rwa [Nat.zero_add] at this⟩, fun O n d w F n1 n2 => ?_⟩, hl, hc, hs⟩, st⟩
  · intro y hy
    simp only [List.mem_cons, List.not_mem_nil, or_false] at hy
    rcases hy with rfl | rfl <;> rfl
  · by_cases q : y = x
    · subst q
      cases hD.symm.trans hy
      exact ⟨E', q1.1, q2.2.1, q2.1, hsz⟩
    · exact ⟨cy, q10 y cy q hy, rfl, rfl, rfl⟩
  · obtain ⟨D3, cf, k, i, f, g1, g2, g3, g4, g5, g6, g7⟩ := F
    cases hD.symm.trans g1
    simp only [RoadKit.slotOf, g2, gV, gC, Option.map_some, Option.getD_some] at n1 n2
    exact ⟨E', cf, k, i, f, q1.1, g2, g3, by rw [q2.1]; exact g4, by rw [q2.1]; exact g5, by rw [q2.2.1]; exact g6, by rw [q2.2.2 f.slot (by simp [n1, n2])]; exact g7⟩
end StrChars.Road
namespace StrChars.Road
open Jvm Sem ClassFile Op Lib Jvm.Stand Jvm.Free Jvm.Free.XT
/-- WHAT COMES BACK, the byte[] as a list of values -/
def QA (Z : State) (x : Addr) (zn : Int32) (cs : List Int32) (h : Heap) (v : Option Value) (h' : Heap) (L : List Loc) : Prop := v = none ∧ (∀ y ∈ L, y.base = x) ∧ RoadKit.Keep h h' [x] ∧ h'.size = h.size + 1 ∧ RoadKit.Exa Z h' x ST ∧ RoadKit.Fld Z h' x ST "value" "[B" (.ref h.size) ∧ RoadKit.Fld Z h' x ST "coder" "B" (.int 0) ∧
  (∃ kb, Z.vm.findClass "[B" = some kb ∧ RoadKit.Arv Z h' h.size kb .byte zn (cs.map fun c => .int (lo8 c)) (.int 0)) ∧
  ∀ (O n d : String) (w : Value), RoadKit.Fld Z h x O n d w → RoadKit.slotOf Z O n d ≠ RoadKit.slotOf Z ST "value" "[B" → RoadKit.slotOf Z O n d ≠ RoadKit.slotOf Z ST "coder" "B" → RoadKit.Fld Z h' x O n d w
/-- **new String(chars) AT A CALL, THE ARRAYS AS LISTS**: the char[] at b holds cs, not empty, no char above 255 -/
theorem backArv {p : Program} {l : Launch} {e : Env} {R : Room} {s : State} {args : Array Value} {below : List Frame} {len W : Nat} {Z : State} {a0 : Array Value} {h : Heap} (hZ : Z.Warmed39 s.vm) (hw : ∀ d ∈ words, d.before a0 Z = true) {kI : Nat} (wi : (Jvm.Cond.instantiable ST kI).before a0 Z = true)
    {x b : Addr} {k : ClassId} {zn z : Int32} {cs : List Int32} {dv v0 c0 : Value} (E : RoadKit.Exa Z h x ST) (V : RoadKit.Fld Z h x ST "value" "[B" v0) (C : RoadKit.Fld Z h x ST "coder" "B" c0) (K : RoadKit.Arv Z h b k .char zn (cs.map Value.int) dv) (S : RoadKit.Sta Z h ST "COMPACT_STRINGS" "Z" (.int z)) (hz : ¬ z = 0)
    (hlen : zn.toNatClampNeg = cs.length) (h0 : 0 < cs.length) (hbig : cs.length ≤ 536870912) (hall : ∀ c ∈ cs, ¬ 255 < c) (hfr : 4 ≤ R.frames) (hlo : W + 65 ≤ R.locals) :
    Back l R p e below s args New1.yN len W (fun P a => a = #[.ref x, .ref b] ∧ P.U.heap = h ∧ P.cells + 1 ≤ R.cells ∧ P.slots + cs.length ≤ R.slots)
      (fun P _ v B => ∃ L, QA Z x zn cs h v B.U.heap L ∧ B.locs = P.locs ++ L ∧ B.cells = P.cells + 1 ∧ B.slots = P.slots + cs.length) := by
  obtain ⟨A, K1, K2, K3, K4, K5, K6⟩ := K
  have e : A.slots.size = cs.length := K3.trans hlen
  have hat : ∀ (i : Nat) (hi : i < cs.length), A.slots[i]? = some (.int cs[i]) := fun i hi => by rw [K5 i (by omega)]; simp [List.getD_eq_getElem?_getD, hi]
  have hcv : ∀ (i : Nat) (hi : i < cs.length), cv A i = cs[i] := fun i hi => by unfold cv; rw [hat i hi]
  have hty : Typed .char A := fun i v hv => by
    have hi : i < A.slots.size := (Array.getElem?_eq_some_iff.mp hv).1
    have q := K5 i hi
    rw [hv] at q
    rw [Option.some.inj q]
    exact K6 i hi
  refine Back.mono (back hZ hw wi E V C K1 hty S hz (by omega) (by omega) (fun i hi => by rw [hcv i (by omega)]; exact hall _ (List.getElem_mem _)) hfr hlo) (fun P a hp => ⟨hp.1, hp.2.1, hp.2.2.1, by rw [e]; exact hp.2.2.2⟩) (fun P a v B hp hq => ?_)
  obtain ⟨L, ⟨q1, q2, q3, q4, q5, q6, q7, ⟨V', v1, v2, v3, v4, v5⟩, q9⟩, hl, hc, hs⟩ := hq
  refine ⟨L, ⟨q1, q2, q3, q4, q5, q6, q7, ⟨V'.cls, v3, V', v1, rfl, by rw [v4, e, hlen], K4, fun i hi => ?_, fun i hi => ?_⟩, q9⟩, hl, hc, by rw [hs, e]⟩
  · have hi' : i < cs.length := by omega
    rw [v5 i (by omega), hcv i hi']; simp [List.getD_eq_getElem?_getD, hi']
  · have hi' : i < cs.length := by omega
    simp only [List.getD_eq_getElem?_getD, List.getElem?_map, List.getElem?_eq_getElem hi', Option.map_some, Option.getD_some]
    exact fits_lo8 _
end StrChars.Road
namespace StrChars.Road
open Jvm Sem ClassFile Op Lib Jvm.Stand Jvm.Free Jvm.Free.XT
/-- WHAT COMES BACK, in the writer's own shape -/
def QV (Z : State) (x : Addr) (N : Int32) (bs : List Int32) (h : Heap) (n0 : Nat) (v : Option Value) (h' : Heap) (L : List Loc) : Prop := v = none ∧ RoadKit.Fr n0 L ∧ RoadKit.Keep h h' [x] ∧ RoadKit.Exa Z h' x ST ∧ RoadKit.Fld Z h' x ST "coder" "B" (.int 0) ∧
  ∃ (t : Addr) (kb : ClassId), n0 ≤ t ∧ h.size ≤ t ∧ ¬ t = x ∧ RoadKit.Fld Z h' x ST "value" "[B" (.ref t) ∧ RoadKit.Arv Z h' t kb .byte N (bs.map Value.int) (.int 0)
/-- **new String(chars) AT A CALL, FOR THE WRITER**: a char[] of n known ints, each 0 to 255 -/
theorem backV {p : Program} {l : Launch} {e : Env} {R : Room} {s : State} {args : Array Value} {below : List Frame} {len W : Nat} {Z : State} {a0 : Array Value} {h : Heap} (hZ : Z.Warmed39 s.vm) (hw : ∀ d ∈ words, d.before a0 Z = true) {kI : Nat} (wi : (Jvm.Cond.instantiable ST kI).before a0 Z = true)
    {x b : Addr} {kC : ClassId} {cs bs : List Int32} {d v0 c0 : Value} {z N : Int32} {n n0 : Nat} (hx0 : n0 ≤ x) (hh0 : n0 ≤ h.size) (E : RoadKit.Exa Z h x ST) (V : RoadKit.Fld Z h x ST "value" "[B" v0) (C : RoadKit.Fld Z h x ST "coder" "B" c0) (K : RoadKit.Arv Z h b kC .char N (cs.map Value.int) d) (S : RoadKit.Sta Z h ST "COMPACT_STRINGS" "Z" (.int z)) (hz : ¬ z = 0)
    (hn : cs.length = n) (hN : N = Int32.ofNat n) (l0 : 0 < n) (l2 : n ≤ 4000) (hp : ∀ c ∈ cs, ¬ c < 0 ∧ ¬ (255 : Int32) < c) (hb : bs = cs.map (fun c => c.toInt8.toInt32)) (hfr : 4 ≤ R.frames) (hlo : W + 65 ≤ R.locals) :
    Back l R p e below s args (⟨"java/lang/String", "<init>", "([C)V"⟩ : MethodName) len W (fun P a => a = #[.ref x, .ref b] ∧ P.U.heap = h ∧ P.cells + 1 ≤ R.cells ∧ P.slots + n ≤ R.slots)
      (fun P _ v B => ∃ L, QV Z x N bs h n0 v B.U.heap L ∧ B.locs = P.locs ++ L ∧ B.cells = P.cells + 1 ∧ B.slots = P.slots + n) := by
  subst hn hN hb
  refine Back.mono (backArv hZ hw wi E V C K S hz (n32 (by omega)) l0 (by omega) (fun c hc => (hp c hc).2) hfr hlo) (fun P a hp => hp) (fun P a v B hp hq => ?_)
  obtain ⟨L, ⟨q1, q2, q3, q4, q5, q6, q7, ⟨kb, v1, v2⟩, q9⟩, hl, hc, hs⟩ := hq
  exact ⟨L, ⟨q1, fun y hy => by rw [q2 y hy]; exact hx0, q3, q5, q7, h.size, kb, hh0, Nat.le_refl _, Nat.ne_of_gt E.lt, q6, by rw [List.map_map]; exact v2⟩, hl, hc, hs⟩
end StrChars.Road
end Jvm.Pilot.@@N@@

namespace Jvm.OwnKit
open Sem ClassFile Op Lib Jvm.Stand Jvm.Free Jvm.LawKit Jvm.RoadKit Jvm.Free.Fl
/-- from U the run comes to a return whose value, heap, written places, new cells and slots meet G -/
def Good (tb : Tables) (e : Env) (below : List Frame) (s : State) (G : Option Value → Heap → List Loc → Nat → Nat → Prop) (U : State) : Prop :=
  ∃ (T : State) (fs : List Frame) (v : Option Value) (locs : List Loc) (cells slots : Nat), Steps tb e below U (T.setFrames fs) ∧ (T.setFrames fs).status = .running ∧ Ended (T.setFrames fs) below (.returned v) ∧ s.WarmedH (T.setFrames fs).vm ∧ s.sameButNew ({ T.setFrames fs with vm := s.vm } : State) locs cells slots ∧ G v T.heap locs cells slots
theorem Good.go {tb : Tables} {e : Env} {below : List Frame} {s : State} {G : Option Value → Heap → List Loc → Nat → Nat → Prop} {U U' : State} (st : ∀ target, Steps tb e below U' target → Steps tb e below U target) (k : Good tb e below s G U') : Good tb e below s G U := by
  obtain ⟨T, fs, v, L, a, b, q, r⟩ := k
  exact ⟨T, fs, v, L, a, b, st _ q, r⟩
section Kit
variable {p : Program} {l : Launch} {e : Env} {R : Room} {s : State} {m : MethodId} {args : Array Value} {below : List Frame} {meth : Method} {c : Code} {T : State} {locs : List Loc} {cells slots : Nat} {G : Option Value → Heap → List Loc → Nat → Nat → Prop}
theorem Good.ret (X : Stand p l e R s m args below meth c T locs cells slots) (hx : p.tables.exec = Jvm.exec) (hlk : meth.locks = false) {pc : Nat} {Ls : Array Slot} {w : Value} {t : FieldType} {i : Instr} {rest : List Value} (hret : meth.sig.returnType = some t) (hn : narrow t w = w)
    (hi : (i = .ireturn ∧ (t = .int ∨ t = .boolean ∨ t = .byte ∨ t = .char ∨ t = .short) ∧ ∃ z, w = .int z) ∨ (i = .lreturn ∧ t = .long ∧ ∃ z, w = .long z) ∨ (i = .dreturn ∧ t = .double ∧ ∃ z, w = .double z) ∨ (i = .freturn ∧ t = .float ∧ ∃ z, w = .float z) ∨ (i = .areturn ∧ t.isReference = true ∧ w.isRef = true))
    (hd : decode c.code pc = .ok (i, 1)) (hG : G (some w) T.heap locs cells slots) : Good p.tables e below s G (T.setTop (mkF m pc Ls (w :: rest))) := by
  obtain ⟨fs, hr, h1, h2, h3, h4⟩ := X.leave (v := some w) (fun q => by rw [hret] at q; cases q) hlk
  exact ⟨T, fs, some w, locs, cells, slots, retOut X hx hret hn hi hd hr, h1, h2, h3, h4, hG⟩
theorem Good.retD (X : Stand p l e R s m args below meth c T locs cells slots) (hx : p.tables.exec = Jvm.exec) (hlk : meth.locks = false) {pc : Nat} {Ls : Array Slot} {w : UInt64} {rest : List Value} (hret : meth.sig.returnType = some .double) (hd : decode c.code pc = .ok (.dreturn, 1)) (hG : G (some (.double w)) T.heap locs cells slots) : Good p.tables e below s G (T.setTop (mkF m pc Ls (.double w :: rest))) :=
  Good.ret X hx hlk hret rfl (Or.inr (Or.inr (Or.inl ⟨rfl, rfl, _, rfl⟩))) hd hG
theorem Good.retA (X : Stand p l e R s m args below meth c T locs cells slots) (hx : p.tables.exec = Jvm.exec) (hlk : meth.locks = false) {pc : Nat} {Ls : Array Slot} {w : Value} {t : FieldType} {rest : List Value} (hret : meth.sig.returnType = some t) (ht : t.isReference = true) (hw : w.isRef = true) (hd : decode c.code pc = .ok (.areturn, 1)) (hG : G (some w) T.heap locs cells slots) : Good p.tables e below s G (T.setTop (mkF m pc Ls (w :: rest))) :=
  Good.ret X hx hlk hret (by cases t <;> first | (exact Bool.noConfusion ht) | (cases w <;> first | rfl | exact Bool.noConfusion hw)) (Or.inr (Or.inr (Or.inr (Or.inr ⟨rfl, ht, hw⟩)))) hd hG
theorem Good.retI (X : Stand p l e R s m args below meth c T locs cells slots) (hx : p.tables.exec = Jvm.exec) (hlk : meth.locks = false) {pc : Nat} {Ls : Array Slot} {w : Int32} {rest : List Value} (hret : meth.sig.returnType = some .int) (hd : decode c.code pc = .ok (.ireturn, 1)) (hG : G (some (.int w)) T.heap locs cells slots) : Good p.tables e below s G (T.setTop (mkF m pc Ls (.int w :: rest))) :=
  Good.ret X hx hlk hret rfl (Or.inl ⟨rfl, Or.inl rfl, _, rfl⟩) hd hG
theorem Good.retZ (X : Stand p l e R s m args below meth c T locs cells slots) (hx : p.tables.exec = Jvm.exec) (hlk : meth.locks = false) {pc : Nat} {Ls : Array Slot} {w : Int32} {rest : List Value} (hret : meth.sig.returnType = some .boolean) (hd : decode c.code pc = .ok (.ireturn, 1)) (hw : w = 0 ∨ w = 1) (hG : G (some (.int w)) T.heap locs cells slots) : Good p.tables e below s G (T.setTop (mkF m pc Ls (.int w :: rest))) :=
  Good.ret X hx hlk hret (by rcases hw with rfl | rfl <;> rfl) (Or.inl ⟨rfl, Or.inr (Or.inl rfl), _, rfl⟩) hd hG
theorem Good.ret0 (X : Stand p l e R s m args below meth c T locs cells slots) (hx : p.tables.exec = Jvm.exec) (hlk : meth.locks = false) {pc : Nat} {Ls : Array Slot} (hret : meth.sig.returnType = none) (hd : decode c.code pc = .ok (.return_, 1)) (hG : G none T.heap locs cells slots) : Good p.tables e below s G (T.setTop (mkF m pc Ls [])) := by
  obtain ⟨fs, hr, h1, h2, h3, h4⟩ := X.leave (v := none) (fun _ => rfl) hlk
  exact ⟨T, fs, none, locs, cells, slots, X.returnOut hx hret hd hr, h1, h2, h3, h4, hG⟩

theorem Good.aloadN (X : Stand p l e R s m args below meth c T locs cells slots) (hx : p.tables.exec = Jvm.exec) {pc pc' : Nat} {Ls : Array Slot} {k : Fin 4} {v : Value} {st : List Value} (hp : pc + 1 = pc') (hd : decode c.code pc = .ok (.aload_n k, 1)) (hl : Ls[k.val]? = some (.val v)) (hv : v.isRef = true) (k : Good p.tables e below s G (T.setTop (mkF m pc' Ls (v :: st)))) : Good p.tables e below s G (T.setTop (mkF m pc Ls st)) := by
  subst hp
  exact Good.go (fun _ q => XS.aloadN X.here hx rfl hd hl hv q) k
theorem Good.aload (X : Stand p l e R s m args below meth c T locs cells slots) (hx : p.tables.exec = Jvm.exec) {pc pc' : Nat} {Ls : Array Slot} {k : Nat} {v : Value} {st : List Value} (hp : pc + 2 = pc') (hd : decode c.code pc = .ok (.aload k, 2)) (hl : Ls[k]? = some (.val v)) (hv : v.isRef = true) (k : Good p.tables e below s G (T.setTop (mkF m pc' Ls (v :: st)))) : Good p.tables e below s G (T.setTop (mkF m pc Ls st)) := by
  subst hp
  exact Good.go (fun _ q => XS.aload X.here hx rfl hd hl hv q) k
theorem Good.iloadN (X : Stand p l e R s m args below meth c T locs cells slots) (hx : p.tables.exec = Jvm.exec) {pc pc' : Nat} {Ls : Array Slot} {k : Fin 4} {v : Int32} {st : List Value} (hp : pc + 1 = pc') (hd : decode c.code pc = .ok (.iload_n k, 1)) (hl : Ls[k.val]? = some (.val (.int v))) (k : Good p.tables e below s G (T.setTop (mkF m pc' Ls (.int v :: st)))) : Good p.tables e below s G (T.setTop (mkF m pc Ls st)) := by
  subst hp
  exact Good.go (fun _ q => XS.iloadN X.here hx rfl hd hl q) k
theorem Good.iload (X : Stand p l e R s m args below meth c T locs cells slots) (hx : p.tables.exec = Jvm.exec) {pc pc' : Nat} {Ls : Array Slot} {k : Nat} {v : Int32} {st : List Value} (hp : pc + 2 = pc') (hd : decode c.code pc = .ok (.iload k, 2)) (hl : Ls[k]? = some (.val (.int v))) (k : Good p.tables e below s G (T.setTop (mkF m pc' Ls (.int v :: st)))) : Good p.tables e below s G (T.setTop (mkF m pc Ls st)) := by
  subst hp
  exact Good.go (fun _ q => XS.iload X.here hx rfl hd hl q) k
theorem Good.lloadN (X : Stand p l e R s m args below meth c T locs cells slots) (hx : p.tables.exec = Jvm.exec) {pc pc' : Nat} {Ls : Array Slot} {k : Fin 4} {v : Int64} {st : List Value} (hp : pc + 1 = pc') (hd : decode c.code pc = .ok (.lload_n k, 1)) (hl : Ls[k.val]? = some (.val (.long v))) (k : Good p.tables e below s G (T.setTop (mkF m pc' Ls (.long v :: st)))) : Good p.tables e below s G (T.setTop (mkF m pc Ls st)) := by
  subst hp
  exact Good.go (fun _ q => XT.lloadN X.here hx rfl hd hl q) k
theorem Good.lload (X : Stand p l e R s m args below meth c T locs cells slots) (hx : p.tables.exec = Jvm.exec) {pc pc' : Nat} {Ls : Array Slot} {k : Nat} {v : Int64} {st : List Value} (hp : pc + 2 = pc') (hd : decode c.code pc = .ok (.lload k, 2)) (hl : Ls[k]? = some (.val (.long v))) (k : Good p.tables e below s G (T.setTop (mkF m pc' Ls (.long v :: st)))) : Good p.tables e below s G (T.setTop (mkF m pc Ls st)) := by
  subst hp
  exact Good.go (fun _ q => XT.lload X.here hx rfl hd hl q) k
theorem Good.dloadN (X : Stand p l e R s m args below meth c T locs cells slots) (hx : p.tables.exec = Jvm.exec) {pc pc' : Nat} {Ls : Array Slot} {k : Fin 4} {v : UInt64} {st : List Value} (hp : pc + 1 = pc') (hd : decode c.code pc = .ok (.dload_n k, 1)) (hl : Ls[k.val]? = some (.val (.double v))) (k : Good p.tables e below s G (T.setTop (mkF m pc' Ls (.double v :: st)))) : Good p.tables e below s G (T.setTop (mkF m pc Ls st)) := by
  subst hp
  refine Good.go (fun _ q => ?_) k
  show Steps p.tables e below (T.setTop { method := m, pc := pc, locals := Ls, stack := st, locked := none }) _
  jvm_step X.here [X.here.top, hx, hd, hl]
  exact q
theorem Good.dload (X : Stand p l e R s m args below meth c T locs cells slots) (hx : p.tables.exec = Jvm.exec) {pc pc' : Nat} {Ls : Array Slot} {k : Nat} {v : UInt64} {st : List Value} (hp : pc + 2 = pc') (hd : decode c.code pc = .ok (.dload k, 2)) (hl : Ls[k]? = some (.val (.double v))) (k : Good p.tables e below s G (T.setTop (mkF m pc' Ls (.double v :: st)))) : Good p.tables e below s G (T.setTop (mkF m pc Ls st)) := by
  subst hp
  refine Good.go (fun _ q => ?_) k
  show Steps p.tables e below (T.setTop { method := m, pc := pc, locals := Ls, stack := st, locked := none }) _
  jvm_step X.here [X.here.top, hx, hd, hl]
  exact q
theorem Good.iconst (X : Stand p l e R s m args below meth c T locs cells slots) (hx : p.tables.exec = Jvm.exec) {pc pc' : Nat} {Ls : Array Slot} {i : Int} {w : Int32} {st : List Value} (hp : pc + 1 = pc') (hd : decode c.code pc = .ok (.iconst i, 1)) (hv : Int32.ofInt i = w) (k : Good p.tables e below s G (T.setTop (mkF m pc' Ls (.int w :: st)))) : Good p.tables e below s G (T.setTop (mkF m pc Ls st)) := by
  subst hp; subst hv
  exact Good.go (fun _ q => XS.iconst X.here hx rfl hd q) k
theorem Good.bipush (X : Stand p l e R s m args below meth c T locs cells slots) (hx : p.tables.exec = Jvm.exec) {pc pc' : Nat} {Ls : Array Slot} {i : Int} {w : Int32} {st : List Value} (hp : pc + 2 = pc') (hd : decode c.code pc = .ok (.bipush i, 2)) (hv : (Int8.ofInt i).toInt32 = w) (k : Good p.tables e below s G (T.setTop (mkF m pc' Ls (.int w :: st)))) : Good p.tables e below s G (T.setTop (mkF m pc Ls st)) := by
  subst hp; subst hv
  exact Good.go (fun _ q => XS.bipush X.here hx rfl hd q) k
theorem Good.sipush (X : Stand p l e R s m args below meth c T locs cells slots) (hx : p.tables.exec = Jvm.exec) {pc pc' : Nat} {Ls : Array Slot} {i : Int} {w : Int32} {st : List Value} (hp : pc + 3 = pc') (hd : decode c.code pc = .ok (.sipush i, 3)) (hv : (Int16.ofInt i).toInt32 = w) (k : Good p.tables e below s G (T.setTop (mkF m pc' Ls (.int w :: st)))) : Good p.tables e below s G (T.setTop (mkF m pc Ls st)) := by
  subst hp; subst hv
  exact Good.go (fun _ q => XS.sipush X.here hx rfl hd q) k
theorem Good.dconst0 (X : Stand p l e R s m args below meth c T locs cells slots) (hx : p.tables.exec = Jvm.exec) {pc pc' : Nat} {Ls : Array Slot} {st : List Value} (hp : pc + 1 = pc') (hd : decode c.code pc = .ok (.dconst 0, 1))  (k : Good p.tables e below s G (T.setTop (mkF m pc' Ls (.double FP.dconst0 :: st)))) : Good p.tables e below s G (T.setTop (mkF m pc Ls st)) := by
  subst hp
  refine Good.go (fun _ q => ?_) k
  show Steps p.tables e below (T.setTop { method := m, pc := pc, locals := Ls, stack := st, locked := none }) _
  jvm_step X.here [X.here.top, hx, hd, dconst.sem]
  exact q
theorem Good.dconst1 (X : Stand p l e R s m args below meth c T locs cells slots) (hx : p.tables.exec = Jvm.exec) {pc pc' : Nat} {Ls : Array Slot} {st : List Value} (hp : pc + 1 = pc') (hd : decode c.code pc = .ok (.dconst 1, 1))  (k : Good p.tables e below s G (T.setTop (mkF m pc' Ls (.double FP.dconst1 :: st)))) : Good p.tables e below s G (T.setTop (mkF m pc Ls st)) := by
  subst hp
  refine Good.go (fun _ q => ?_) k
  show Steps p.tables e below (T.setTop { method := m, pc := pc, locals := Ls, stack := st, locked := none }) _
  jvm_step X.here [X.here.top, hx, hd, dconst.sem]
  exact q
theorem Good.aconstNull (X : Stand p l e R s m args below meth c T locs cells slots) (hx : p.tables.exec = Jvm.exec) {pc pc' : Nat} {Ls : Array Slot} {st : List Value} (hp : pc + 1 = pc') (hd : decode c.code pc = .ok (.aconst_null, 1))  (k : Good p.tables e below s G (T.setTop (mkF m pc' Ls (.null :: st)))) : Good p.tables e below s G (T.setTop (mkF m pc Ls st)) := by
  subst hp
  exact Good.go (fun _ q => XS.aconstNull X.here hx rfl hd q) k
theorem Good.iadd (X : Stand p l e R s m args below meth c T locs cells slots) (hx : p.tables.exec = Jvm.exec) {pc pc' : Nat} {Ls : Array Slot} {x y : Int32} {st : List Value} (hp : pc + 1 = pc') (hd : decode c.code pc = .ok (.iadd, 1))  (k : Good p.tables e below s G (T.setTop (mkF m pc' Ls (.int (x + y) :: st)))) : Good p.tables e below s G (T.setTop (mkF m pc Ls (.int y :: .int x :: st))) := by
  subst hp
  exact Good.go (fun _ q => XS.iadd X.here hx rfl hd rfl q) k
theorem Good.isub (X : Stand p l e R s m args below meth c T locs cells slots) (hx : p.tables.exec = Jvm.exec) {pc pc' : Nat} {Ls : Array Slot} {x y : Int32} {st : List Value} (hp : pc + 1 = pc') (hd : decode c.code pc = .ok (.isub, 1))  (k : Good p.tables e below s G (T.setTop (mkF m pc' Ls (.int (x - y) :: st)))) : Good p.tables e below s G (T.setTop (mkF m pc Ls (.int y :: .int x :: st))) := by
  subst hp
  exact Good.go (fun _ q => XS.isub X.here hx rfl hd rfl q) k
theorem Good.iand (X : Stand p l e R s m args below meth c T locs cells slots) (hx : p.tables.exec = Jvm.exec) {pc pc' : Nat} {Ls : Array Slot} {x y : Int32} {st : List Value} (hp : pc + 1 = pc') (hd : decode c.code pc = .ok (.iand, 1))  (k : Good p.tables e below s G (T.setTop (mkF m pc' Ls (.int (x &&& y) :: st)))) : Good p.tables e below s G (T.setTop (mkF m pc Ls (.int y :: .int x :: st))) := by
  subst hp
  exact Good.go (fun _ q => XS.iand X.here hx rfl hd rfl q) k
theorem Good.imul (X : Stand p l e R s m args below meth c T locs cells slots) (hx : p.tables.exec = Jvm.exec) {pc pc' : Nat} {Ls : Array Slot} {x y : Int32} {st : List Value} (hp : pc + 1 = pc') (hd : decode c.code pc = .ok (.imul, 1))  (k : Good p.tables e below s G (T.setTop (mkF m pc' Ls (.int (x * y) :: st)))) : Good p.tables e below s G (T.setTop (mkF m pc Ls (.int y :: .int x :: st))) := by
  subst hp
  exact Good.go (fun _ q => XS.imul X.here hx rfl hd rfl q) k
theorem Good.ixor (X : Stand p l e R s m args below meth c T locs cells slots) (hx : p.tables.exec = Jvm.exec) {pc pc' : Nat} {Ls : Array Slot} {x y : Int32} {st : List Value} (hp : pc + 1 = pc') (hd : decode c.code pc = .ok (.ixor, 1))  (k : Good p.tables e below s G (T.setTop (mkF m pc' Ls (.int (x ^^^ y) :: st)))) : Good p.tables e below s G (T.setTop (mkF m pc Ls (.int y :: .int x :: st))) := by
  subst hp
  exact Good.go (fun _ q => XT.ixor X.here hx rfl hd rfl q) k
theorem Good.iushr (X : Stand p l e R s m args below meth c T locs cells slots) (hx : p.tables.exec = Jvm.exec) {pc pc' : Nat} {Ls : Array Slot} {x y : Int32} {st : List Value} (hp : pc + 1 = pc') (hd : decode c.code pc = .ok (.iushr, 1))  (k : Good p.tables e below s G (T.setTop (mkF m pc' Ls (.int (XT.ushr x y) :: st)))) : Good p.tables e below s G (T.setTop (mkF m pc Ls (.int y :: .int x :: st))) := by
  subst hp
  exact Good.go (fun _ q => XT.iushr X.here hx rfl hd rfl q) k
theorem Good.ishr (X : Stand p l e R s m args below meth c T locs cells slots) (hx : p.tables.exec = Jvm.exec) {pc pc' : Nat} {Ls : Array Slot} {x y : Int32} {st : List Value} (hp : pc + 1 = pc') (hd : decode c.code pc = .ok (.ishr, 1))  (k : Good p.tables e below s G (T.setTop (mkF m pc' Ls (.int (x >>> (y &&& 31)) :: st)))) : Good p.tables e below s G (T.setTop (mkF m pc Ls (.int y :: .int x :: st))) := by
  subst hp
  exact Good.go (fun _ q => XT.ishr X.here hx rfl hd rfl q) k
theorem Good.irem (X : Stand p l e R s m args below meth c T locs cells slots) (hx : p.tables.exec = Jvm.exec) {pc pc' : Nat} {Ls : Array Slot} {x y : Int32} {st : List Value} (hp : pc + 1 = pc') (hd : decode c.code pc = .ok (.irem, 1)) (hy : y ≠ 0) (k : Good p.tables e below s G (T.setTop (mkF m pc' Ls (.int (x % y) :: st)))) : Good p.tables e below s G (T.setTop (mkF m pc Ls (.int y :: .int x :: st))) := by
  subst hp
  exact Good.go (fun _ q => iremM X hx rfl hd rfl hy q) k
theorem Good.ladd (X : Stand p l e R s m args below meth c T locs cells slots) (hx : p.tables.exec = Jvm.exec) {pc pc' : Nat} {Ls : Array Slot} {x y : Int64} {st : List Value} (hp : pc + 1 = pc') (hd : decode c.code pc = .ok (.ladd, 1))  (k : Good p.tables e below s G (T.setTop (mkF m pc' Ls (.long (x + y) :: st)))) : Good p.tables e below s G (T.setTop (mkF m pc Ls (.long y :: .long x :: st))) := by
  subst hp
  exact Good.go (fun _ q => XT.ladd X.here hx rfl hd rfl q) k
theorem Good.lsub (X : Stand p l e R s m args below meth c T locs cells slots) (hx : p.tables.exec = Jvm.exec) {pc pc' : Nat} {Ls : Array Slot} {x y : Int64} {st : List Value} (hp : pc + 1 = pc') (hd : decode c.code pc = .ok (.lsub, 1))  (k : Good p.tables e below s G (T.setTop (mkF m pc' Ls (.long (x - y) :: st)))) : Good p.tables e below s G (T.setTop (mkF m pc Ls (.long y :: .long x :: st))) := by
  subst hp
  exact Good.go (fun _ q => XT.lsub X.here hx rfl hd rfl q) k
theorem Good.lrem (X : Stand p l e R s m args below meth c T locs cells slots) (hx : p.tables.exec = Jvm.exec) {pc pc' : Nat} {Ls : Array Slot} {x y : Int64} {st : List Value} (hp : pc + 1 = pc') (hd : decode c.code pc = .ok (.lrem, 1)) (hy : y ≠ 0) (k : Good p.tables e below s G (T.setTop (mkF m pc' Ls (.long (x - (x / y) * y) :: st)))) : Good p.tables e below s G (T.setTop (mkF m pc Ls (.long y :: .long x :: st))) := by
  subst hp
  exact Good.go (fun _ q => XT.lrem X.here hx rfl hd rfl hy q) k
theorem Good.i2l (X : Stand p l e R s m args below meth c T locs cells slots) (hx : p.tables.exec = Jvm.exec) {pc pc' : Nat} {Ls : Array Slot} {x : Int32} {st : List Value} (hp : pc + 1 = pc') (hd : decode c.code pc = .ok (.i2l, 1))  (k : Good p.tables e below s G (T.setTop (mkF m pc' Ls (.long x.toInt64 :: st)))) : Good p.tables e below s G (T.setTop (mkF m pc Ls (.int x :: st))) := by
  subst hp
  exact Good.go (fun _ q => XT.i2l X.here hx rfl hd rfl q) k
theorem Good.i2b (X : Stand p l e R s m args below meth c T locs cells slots) (hx : p.tables.exec = Jvm.exec) {pc pc' : Nat} {Ls : Array Slot} {x : Int32} {st : List Value} (hp : pc + 1 = pc') (hd : decode c.code pc = .ok (.i2b, 1))  (k : Good p.tables e below s G (T.setTop (mkF m pc' Ls (.int x.toInt8.toInt32 :: st)))) : Good p.tables e below s G (T.setTop (mkF m pc Ls (.int x :: st))) := by
  subst hp
  exact Good.go (fun _ q => XT.i2b X.here hx rfl hd rfl q) k
theorem Good.i2c (X : Stand p l e R s m args below meth c T locs cells slots) (hx : p.tables.exec = Jvm.exec) {pc pc' : Nat} {Ls : Array Slot} {x : Int32} {st : List Value} (hp : pc + 1 = pc') (hd : decode c.code pc = .ok (.i2c, 1))  (k : Good p.tables e below s G (T.setTop (mkF m pc' Ls (.int x.toUInt32.toUInt16.toUInt32.toInt32 :: st)))) : Good p.tables e below s G (T.setTop (mkF m pc Ls (.int x :: st))) := by
  subst hp
  exact Good.go (fun _ q => XT.i2c X.here hx rfl hd rfl q) k
theorem Good.l2i (X : Stand p l e R s m args below meth c T locs cells slots) (hx : p.tables.exec = Jvm.exec) {pc pc' : Nat} {Ls : Array Slot} {x : Int64} {st : List Value} (hp : pc + 1 = pc') (hd : decode c.code pc = .ok (.l2i, 1))  (k : Good p.tables e below s G (T.setTop (mkF m pc' Ls (.int x.toInt32 :: st)))) : Good p.tables e below s G (T.setTop (mkF m pc Ls (.long x :: st))) := by
  subst hp
  exact Good.go (fun _ q => XT.l2i X.here hx rfl hd rfl q) k
theorem Good.lshr (X : Stand p l e R s m args below meth c T locs cells slots) (hx : p.tables.exec = Jvm.exec) {pc pc' : Nat} {Ls : Array Slot} {x : Int64} {y : Int32} {st : List Value} (hp : pc + 1 = pc') (hd : decode c.code pc = .ok (.lshr, 1))  (k : Good p.tables e below s G (T.setTop (mkF m pc' Ls (.long (x >>> (y.toInt64 &&& 63)) :: st)))) : Good p.tables e below s G (T.setTop (mkF m pc Ls (.int y :: .long x :: st))) := by
  subst hp
  exact Good.go (fun _ q => XT.lshr X.here hx rfl hd rfl q) k
theorem Good.i2d (X : Stand p l e R s m args below meth c T locs cells slots) (hx : p.tables.exec = Jvm.exec) {pc pc' : Nat} {Ls : Array Slot} {x : Int32} {st : List Value} (hp : pc + 1 = pc') (hd : decode c.code pc = .ok (.i2d, 1))  (k : Good p.tables e below s G (T.setTop (mkF m pc' Ls (.double (FP.i2d x) :: st)))) : Good p.tables e below s G (T.setTop (mkF m pc Ls (.int x :: st))) := by
  subst hp
  refine Good.go (fun _ q => ?_) k
  show Steps p.tables e below (T.setTop { method := m, pc := pc, locals := Ls, stack := (.int x :: st), locked := none }) _
  jvm_step X.here [X.here.top, hx, hd]
  exact q
theorem Good.l2d (X : Stand p l e R s m args below meth c T locs cells slots) (hx : p.tables.exec = Jvm.exec) {pc pc' : Nat} {Ls : Array Slot} {x : Int64} {st : List Value} (hp : pc + 1 = pc') (hd : decode c.code pc = .ok (.l2d, 1))  (k : Good p.tables e below s G (T.setTop (mkF m pc' Ls (.double (FP.l2d x) :: st)))) : Good p.tables e below s G (T.setTop (mkF m pc Ls (.long x :: st))) := by
  subst hp
  refine Good.go (fun _ q => ?_) k
  show Steps p.tables e below (T.setTop { method := m, pc := pc, locals := Ls, stack := (.long x :: st), locked := none }) _
  jvm_step X.here [X.here.top, hx, hd]
  exact q
theorem Good.d2l (X : Stand p l e R s m args below meth c T locs cells slots) (hx : p.tables.exec = Jvm.exec) {pc pc' : Nat} {Ls : Array Slot} {x : UInt64} {st : List Value} (hp : pc + 1 = pc') (hd : decode c.code pc = .ok (.d2l, 1))  (k : Good p.tables e below s G (T.setTop (mkF m pc' Ls (.long (FP.d2l x) :: st)))) : Good p.tables e below s G (T.setTop (mkF m pc Ls (.double x :: st))) := by
  subst hp
  refine Good.go (fun _ q => ?_) k
  show Steps p.tables e below (T.setTop { method := m, pc := pc, locals := Ls, stack := (.double x :: st), locked := none }) _
  jvm_step X.here [X.here.top, hx, hd]
  exact q
theorem Good.dadd (X : Stand p l e R s m args below meth c T locs cells slots) (hx : p.tables.exec = Jvm.exec) {pc pc' : Nat} {Ls : Array Slot} {x y : UInt64} {st : List Value} (hp : pc + 1 = pc') (hd : decode c.code pc = .ok (.dadd, 1)) (hn : NoNaN64 (FP.dadd x y)) (k : Good p.tables e below s G (T.setTop (mkF m pc' Ls (.double (FP.dadd x y) :: st)))) : Good p.tables e below s G (T.setTop (mkF m pc Ls (.double y :: .double x :: st))) := by
  subst hp
  refine Good.go (fun _ q => ?_) k
  show Steps p.tables e below (T.setTop { method := m, pc := pc, locals := Ls, stack := (.double y :: .double x :: st), locked := none }) _
  jvm_step X.here [X.here.top, hx, hd, Op.dadd.at_number X.here.top hn]
  exact q
theorem Good.dsub (X : Stand p l e R s m args below meth c T locs cells slots) (hx : p.tables.exec = Jvm.exec) {pc pc' : Nat} {Ls : Array Slot} {x y : UInt64} {st : List Value} (hp : pc + 1 = pc') (hd : decode c.code pc = .ok (.dsub, 1)) (hn : NoNaN64 (FP.dsub x y)) (k : Good p.tables e below s G (T.setTop (mkF m pc' Ls (.double (FP.dsub x y) :: st)))) : Good p.tables e below s G (T.setTop (mkF m pc Ls (.double y :: .double x :: st))) := by
  subst hp
  refine Good.go (fun _ q => ?_) k
  show Steps p.tables e below (T.setTop { method := m, pc := pc, locals := Ls, stack := (.double y :: .double x :: st), locked := none }) _
  jvm_step X.here [X.here.top, hx, hd, Op.dsub.at_number X.here.top hn]
  exact q
theorem Good.dmul (X : Stand p l e R s m args below meth c T locs cells slots) (hx : p.tables.exec = Jvm.exec) {pc pc' : Nat} {Ls : Array Slot} {x y : UInt64} {st : List Value} (hp : pc + 1 = pc') (hd : decode c.code pc = .ok (.dmul, 1)) (hn : NoNaN64 (FP.dmul x y)) (k : Good p.tables e below s G (T.setTop (mkF m pc' Ls (.double (FP.dmul x y) :: st)))) : Good p.tables e below s G (T.setTop (mkF m pc Ls (.double y :: .double x :: st))) := by
  subst hp
  refine Good.go (fun _ q => ?_) k
  show Steps p.tables e below (T.setTop { method := m, pc := pc, locals := Ls, stack := (.double y :: .double x :: st), locked := none }) _
  jvm_step X.here [X.here.top, hx, hd, Op.dmul.at_number X.here.top hn]
  exact q
theorem Good.ddiv (X : Stand p l e R s m args below meth c T locs cells slots) (hx : p.tables.exec = Jvm.exec) {pc pc' : Nat} {Ls : Array Slot} {x y : UInt64} {st : List Value} (hp : pc + 1 = pc') (hd : decode c.code pc = .ok (.ddiv, 1)) (hn : NoNaN64 (FP.ddiv x y)) (k : Good p.tables e below s G (T.setTop (mkF m pc' Ls (.double (FP.ddiv x y) :: st)))) : Good p.tables e below s G (T.setTop (mkF m pc Ls (.double y :: .double x :: st))) := by
  subst hp
  refine Good.go (fun _ q => ?_) k
  show Steps p.tables e below (T.setTop { method := m, pc := pc, locals := Ls, stack := (.double y :: .double x :: st), locked := none }) _
  jvm_step X.here [X.here.top, hx, hd, Op.ddiv.at_number X.here.top hn]
  exact q
theorem Good.dcmp (X : Stand p l e R s m args below meth c T locs cells slots) (hx : p.tables.exec = Jvm.exec) {pc pc' : Nat} {Ls : Array Slot} {x y : UInt64} {op : CmpOp} {st : List Value} (hp : pc + 1 = pc') (hd : decode c.code pc = .ok (.dcmp op, 1))  (k : Good p.tables e below s G (T.setTop (mkF m pc' Ls (.int (cmpValue (FP.dcmp x y) op) :: st)))) : Good p.tables e below s G (T.setTop (mkF m pc Ls (.double y :: .double x :: st))) := by
  subst hp
  refine Good.go (fun _ q => ?_) k
  show Steps p.tables e below (T.setTop { method := m, pc := pc, locals := Ls, stack := (.double y :: .double x :: st), locked := none }) _
  jvm_step X.here [X.here.top, hx, hd]
  exact q
theorem Good.dup (X : Stand p l e R s m args below meth c T locs cells slots) (hx : p.tables.exec = Jvm.exec) {pc pc' : Nat} {Ls : Array Slot} {x : Value} {st : List Value} (hp : pc + 1 = pc') (hd : decode c.code pc = .ok (.dup, 1)) (hc : x.category = 1) (k : Good p.tables e below s G (T.setTop (mkF m pc' Ls (x :: x :: st)))) : Good p.tables e below s G (T.setTop (mkF m pc Ls (x :: st))) := by
  subst hp
  exact Good.go (fun _ q => XS.dup X.here hx rfl hd rfl hc q) k
theorem Good.istoreN (X : Stand p l e R s m args below meth c T locs cells slots) (hx : p.tables.exec = Jvm.exec) {pc pc' : Nat} {Ls : Array Slot} {k : Fin 4} {x : Int32} {Ls' : Array Slot} {st : List Value} (hp : pc + 1 = pc') (hd : decode c.code pc = .ok (.istore_n k, 1)) (hl : storeLocals Ls k.val (.int x) = some Ls') (k : Good p.tables e below s G (T.setTop (mkF m pc' Ls' st))) : Good p.tables e below s G (T.setTop (mkF m pc Ls (.int x :: st))) := by
  subst hp
  exact Good.go (fun _ q => XS.istoreN X.here hx rfl hd rfl hl q) k
theorem Good.istore (X : Stand p l e R s m args below meth c T locs cells slots) (hx : p.tables.exec = Jvm.exec) {pc pc' : Nat} {Ls : Array Slot} {k : Nat} {x : Int32} {Ls' : Array Slot} {st : List Value} (hp : pc + 2 = pc') (hd : decode c.code pc = .ok (.istore k, 2)) (hl : storeLocals Ls k (.int x) = some Ls') (k : Good p.tables e below s G (T.setTop (mkF m pc' Ls' st))) : Good p.tables e below s G (T.setTop (mkF m pc Ls (.int x :: st))) := by
  subst hp
  exact Good.go (fun _ q => XS.istore X.here hx rfl hd rfl hl q) k
theorem Good.astoreN (X : Stand p l e R s m args below meth c T locs cells slots) (hx : p.tables.exec = Jvm.exec) {pc pc' : Nat} {Ls : Array Slot} {k : Fin 4} {x : Value} {Ls' : Array Slot} {st : List Value} (hp : pc + 1 = pc') (hd : decode c.code pc = .ok (.astore_n k, 1)) (hv : x.isRef = true) (hl : storeLocals Ls k.val x = some Ls') (k : Good p.tables e below s G (T.setTop (mkF m pc' Ls' st))) : Good p.tables e below s G (T.setTop (mkF m pc Ls (x :: st))) := by
  subst hp
  exact Good.go (fun _ q => XS.astoreN X.here hx rfl hd rfl hv hl q) k
theorem Good.astore (X : Stand p l e R s m args below meth c T locs cells slots) (hx : p.tables.exec = Jvm.exec) {pc pc' : Nat} {Ls : Array Slot} {k : Nat} {x : Value} {Ls' : Array Slot} {st : List Value} (hp : pc + 2 = pc') (hd : decode c.code pc = .ok (.astore k, 2)) (hv : x.isRef = true) (hl : storeLocals Ls k x = some Ls') (k : Good p.tables e below s G (T.setTop (mkF m pc' Ls' st))) : Good p.tables e below s G (T.setTop (mkF m pc Ls (x :: st))) := by
  subst hp
  exact Good.go (fun _ q => XS.astore X.here hx rfl hd rfl hv hl q) k
theorem Good.lstoreN (X : Stand p l e R s m args below meth c T locs cells slots) (hx : p.tables.exec = Jvm.exec) {pc pc' : Nat} {Ls : Array Slot} {k : Fin 4} {x : Int64} {Ls' : Array Slot} {st : List Value} (hp : pc + 1 = pc') (hd : decode c.code pc = .ok (.lstore_n k, 1)) (hl : storeLocals Ls k.val (.long x) = some Ls') (k : Good p.tables e below s G (T.setTop (mkF m pc' Ls' st))) : Good p.tables e below s G (T.setTop (mkF m pc Ls (.long x :: st))) := by
  subst hp
  exact Good.go (fun _ q => XT.lstoreN X.here hx rfl hd rfl hl q) k
theorem Good.lstore (X : Stand p l e R s m args below meth c T locs cells slots) (hx : p.tables.exec = Jvm.exec) {pc pc' : Nat} {Ls : Array Slot} {k : Nat} {x : Int64} {Ls' : Array Slot} {st : List Value} (hp : pc + 2 = pc') (hd : decode c.code pc = .ok (.lstore k, 2)) (hl : storeLocals Ls k (.long x) = some Ls') (k : Good p.tables e below s G (T.setTop (mkF m pc' Ls' st))) : Good p.tables e below s G (T.setTop (mkF m pc Ls (.long x :: st))) := by
  subst hp
  exact Good.go (fun _ q => XT.lstore X.here hx rfl hd rfl hl q) k
theorem Good.dstoreN (X : Stand p l e R s m args below meth c T locs cells slots) (hx : p.tables.exec = Jvm.exec) {pc pc' : Nat} {Ls : Array Slot} {k : Fin 4} {x : UInt64} {Ls' : Array Slot} {st : List Value} (hp : pc + 1 = pc') (hd : decode c.code pc = .ok (.dstore_n k, 1)) (hl : storeLocals Ls k.val (.double x) = some Ls') (k : Good p.tables e below s G (T.setTop (mkF m pc' Ls' st))) : Good p.tables e below s G (T.setTop (mkF m pc Ls (.double x :: st))) := by
  subst hp
  refine Good.go (fun _ q => ?_) k
  show Steps p.tables e below (T.setTop { method := m, pc := pc, locals := Ls, stack := (.double x :: st), locked := none }) _
  jvm_step X.here [X.here.top, hx, hd, hl]
  exact q
theorem Good.dstore (X : Stand p l e R s m args below meth c T locs cells slots) (hx : p.tables.exec = Jvm.exec) {pc pc' : Nat} {Ls : Array Slot} {k : Nat} {x : UInt64} {Ls' : Array Slot} {st : List Value} (hp : pc + 2 = pc') (hd : decode c.code pc = .ok (.dstore k, 2)) (hl : storeLocals Ls k (.double x) = some Ls') (k : Good p.tables e below s G (T.setTop (mkF m pc' Ls' st))) : Good p.tables e below s G (T.setTop (mkF m pc Ls (.double x :: st))) := by
  subst hp
  refine Good.go (fun _ q => ?_) k
  show Steps p.tables e below (T.setTop { method := m, pc := pc, locals := Ls, stack := (.double x :: st), locked := none }) _
  jvm_step X.here [X.here.top, hx, hd, hl]
  exact q
theorem Good.iinc (X : Stand p l e R s m args below meth c T locs cells slots) (hx : p.tables.exec = Jvm.exec) {pc pc' : Nat} {Ls : Array Slot} {k : Nat} {cst : Int} {x : Int32} {w : Int32} {Ls' : Array Slot} {st : List Value} (hp : pc + 3 = pc') (hd : decode c.code pc = .ok (.iinc k cst, 3)) (hl : Ls[k]? = some (.val (.int x))) (hv : Int32.ofInt cst = w) (hl' : storeLocals Ls k (.int (x + w)) = some Ls') (k : Good p.tables e below s G (T.setTop (mkF m pc' Ls' st))) : Good p.tables e below s G (T.setTop (mkF m pc Ls st)) := by
  subst hp; subst hv
  exact Good.go (fun _ q => XS.iinc X.here hx rfl hd hl hl' q) k
theorem Good.goto (X : Stand p l e R s m args below meth c T locs cells slots) (hx : p.tables.exec = Jvm.exec) {pc pc' : Nat} {Ls : Array Slot} {st : List Value} {o : Int} (hp : (pc : Int) + o = (pc' : Int)) (hd : decode c.code pc = .ok (.goto o, 3))  (k : Good p.tables e below s G (T.setTop (mkF m pc' Ls st))) : Good p.tables e below s G (T.setTop (mkF m pc Ls st)) :=
  Good.go (fun _ q => XS.goto X.here hx rfl (pc0 := pc) (pc' := pc') rfl hd (by omega) (by omega) q) k
theorem Good.ifYes (X : Stand p l e R s m args below meth c T locs cells slots) (hx : p.tables.exec = Jvm.exec) {pc pc' : Nat} {Ls : Array Slot} {cd : ClassFile.Cond} {x : Int32} {st : List Value} {o : Int} (hp : (pc : Int) + o = (pc' : Int)) (hd : decode c.code pc = .ok (.ifCond cd o, 3)) (hc : ifCond.holds cd x = true) (k : Good p.tables e below s G (T.setTop (mkF m pc' Ls st))) : Good p.tables e below s G (T.setTop (mkF m pc Ls (.int x :: st))) :=
  Good.go (fun _ q => XS.ifYes X.here hx rfl (pc0 := pc) (pc' := pc') rfl hd rfl hc (by omega) (by omega) q) k
theorem Good.ifNo (X : Stand p l e R s m args below meth c T locs cells slots) (hx : p.tables.exec = Jvm.exec) {pc pc' : Nat} {Ls : Array Slot} {cd : ClassFile.Cond} {o : Int} {x : Int32} {st : List Value} (hp : pc + 3 = pc') (hd : decode c.code pc = .ok (.ifCond cd o, 3)) (hc : ifCond.holds cd x = false) (k : Good p.tables e below s G (T.setTop (mkF m pc' Ls st))) : Good p.tables e below s G (T.setTop (mkF m pc Ls (.int x :: st))) := by
  subst hp
  exact Good.go (fun _ q => XS.ifNo X.here hx rfl hd rfl hc q) k
theorem Good.icmpYes (X : Stand p l e R s m args below meth c T locs cells slots) (hx : p.tables.exec = Jvm.exec) {pc pc' : Nat} {Ls : Array Slot} {cd : ClassFile.Cond} {x y : Int32} {st : List Value} {o : Int} (hp : (pc : Int) + o = (pc' : Int)) (hd : decode c.code pc = .ok (.if_icmp cd o, 3)) (hc : if_icmp.holds cd x y = true) (k : Good p.tables e below s G (T.setTop (mkF m pc' Ls st))) : Good p.tables e below s G (T.setTop (mkF m pc Ls (.int y :: .int x :: st))) :=
  Good.go (fun _ q => XS.icmpYes X.here hx rfl (pc0 := pc) (pc' := pc') rfl hd rfl hc (by omega) (by omega) q) k
theorem Good.icmpNo (X : Stand p l e R s m args below meth c T locs cells slots) (hx : p.tables.exec = Jvm.exec) {pc pc' : Nat} {Ls : Array Slot} {cd : ClassFile.Cond} {o : Int} {x y : Int32} {st : List Value} (hp : pc + 3 = pc') (hd : decode c.code pc = .ok (.if_icmp cd o, 3)) (hc : if_icmp.holds cd x y = false) (k : Good p.tables e below s G (T.setTop (mkF m pc' Ls st))) : Good p.tables e below s G (T.setTop (mkF m pc Ls (.int y :: .int x :: st))) := by
  subst hp
  exact Good.go (fun _ q => XS.icmpNo X.here hx rfl hd rfl hc q) k
theorem Good.ifnullYes (X : Stand p l e R s m args below meth c T locs cells slots) (hx : p.tables.exec = Jvm.exec) {pc pc' : Nat} {Ls : Array Slot} {st : List Value} {o : Int} (hp : (pc : Int) + o = (pc' : Int)) (hd : decode c.code pc = .ok (.ifnull o, 3))  (k : Good p.tables e below s G (T.setTop (mkF m pc' Ls st))) : Good p.tables e below s G (T.setTop (mkF m pc Ls (.null :: st))) :=
  Good.go (fun _ q => XS.ifnullYes X.here hx rfl (pc0 := pc) (pc' := pc') rfl hd rfl (by omega) (by omega) q) k
theorem Good.ifnullNo (X : Stand p l e R s m args below meth c T locs cells slots) (hx : p.tables.exec = Jvm.exec) {pc pc' : Nat} {Ls : Array Slot} {o : Int} {b : Addr} {st : List Value} (hp : pc + 3 = pc') (hd : decode c.code pc = .ok (.ifnull o, 3))  (k : Good p.tables e below s G (T.setTop (mkF m pc' Ls st))) : Good p.tables e below s G (T.setTop (mkF m pc Ls (.ref b :: st))) := by
  subst hp
  exact Good.go (fun _ q => XS.ifnullNo X.here hx rfl hd rfl q) k
theorem Good.acmpYes (X : Stand p l e R s m args below meth c T locs cells slots) (hx : p.tables.exec = Jvm.exec) {pc pc' : Nat} {Ls : Array Slot} {cd : ClassFile.ACond} {x y : Value} {st : List Value} {o : Int} (hp : (pc : Int) + o = (pc' : Int)) (hd : decode c.code pc = .ok (.if_acmp cd o, 3)) (h1 : x.isRef = true) (h2 : y.isRef = true) (hc : XT.acmp cd x y = true) (k : Good p.tables e below s G (T.setTop (mkF m pc' Ls st))) : Good p.tables e below s G (T.setTop (mkF m pc Ls (y :: x :: st))) :=
  Good.go (fun _ q => XT.acmpYes X.here hx rfl (pc0 := pc) (pc' := pc') rfl hd rfl h1 h2 hc (by omega) (by omega) q) k
theorem Good.acmpNo (X : Stand p l e R s m args below meth c T locs cells slots) (hx : p.tables.exec = Jvm.exec) {pc pc' : Nat} {Ls : Array Slot} {cd : ClassFile.ACond} {o : Int} {x y : Value} {st : List Value} (hp : pc + 3 = pc') (hd : decode c.code pc = .ok (.if_acmp cd o, 3)) (h1 : x.isRef = true) (h2 : y.isRef = true) (hc : XT.acmp cd x y = false) (k : Good p.tables e below s G (T.setTop (mkF m pc' Ls st))) : Good p.tables e below s G (T.setTop (mkF m pc Ls (y :: x :: st))) := by
  subst hp
  exact Good.go (fun _ q => XT.acmpNo X.here hx rfl hd rfl h1 h2 hc q) k
theorem Good.ifFork (X : Stand p l e R s m args below meth c T locs cells slots) (hx : p.tables.exec = Jvm.exec) {pc pc1 pc2 : Nat} {Ls : Array Slot} {cd : ClassFile.Cond} {o : Int} {x : Int32} {st : List Value} (hd : decode c.code pc = .ok (.ifCond cd o, 3)) (hp1 : (pc : Int) + o = (pc1 : Int)) (hp2 : pc + 3 = pc2) (k1 : ifCond.holds cd x = true → Good p.tables e below s G (T.setTop (mkF m pc1 Ls st))) (k2 : ifCond.holds cd x = false → Good p.tables e below s G (T.setTop (mkF m pc2 Ls st))) : Good p.tables e below s G (T.setTop (mkF m pc Ls (.int x :: st))) := by
  cases hc : ifCond.holds cd x
  · exact Good.ifNo X hx hp2 hd hc (k2 hc)
  · exact Good.ifYes X hx hp1 hd hc (k1 hc)
theorem Good.icmpFork (X : Stand p l e R s m args below meth c T locs cells slots) (hx : p.tables.exec = Jvm.exec) {pc pc1 pc2 : Nat} {Ls : Array Slot} {cd : ClassFile.Cond} {o : Int} {x y : Int32} {st : List Value} (hd : decode c.code pc = .ok (.if_icmp cd o, 3)) (hp1 : (pc : Int) + o = (pc1 : Int)) (hp2 : pc + 3 = pc2) (k1 : if_icmp.holds cd x y = true → Good p.tables e below s G (T.setTop (mkF m pc1 Ls st))) (k2 : if_icmp.holds cd x y = false → Good p.tables e below s G (T.setTop (mkF m pc2 Ls st))) : Good p.tables e below s G (T.setTop (mkF m pc Ls (.int y :: .int x :: st))) := by
  cases hc : if_icmp.holds cd x y
  · exact Good.icmpNo X hx hp2 hd hc (k2 hc)
  · exact Good.icmpYes X hx hp1 hd hc (k1 hc)
variable {Z : State} {a0 : Array Value} {h : Heap}
theorem Good.ldcI (X : Stand p l e R s m args below meth c T locs cells slots) (hx : p.tables.exec = Jvm.exec) (hZ : Z.Warmed39 s.vm) {own : String} {index : Nat} {v : Int32} (hown : s.vm.findClass own = some m.cls) (w : (Cond.constant own index v).before a0 Z = true) {pc pc' : Nat} {Ls : Array Slot} {st : List Value} (hp : pc + 2 = pc') (hd : decode c.code pc = .ok (.ldc index, 2)) (k : Good p.tables e below s G (T.setTop (mkF m pc' Ls (.int v :: st)))) : Good p.tables e below s G (T.setTop (mkF m pc Ls st)) := by
  subst hp
  exact Good.go (fun _ q => X.ldcInt hx hown (mvT hZ w) (g := mkF m pc Ls st) rfl hd _ q) k
theorem Good.ldc2J (X : Stand p l e R s m args below meth c T locs cells slots) (hx : p.tables.exec = Jvm.exec) (hZ : Z.Warmed39 s.vm) {own : String} {index : Nat} {v : Int64} (hown : s.vm.findClass own = some m.cls) (w : (Cond.constantLong own index v).before a0 Z = true) {pc pc' : Nat} {Ls : Array Slot} {st : List Value} (hp : pc + 3 = pc') (hd : decode c.code pc = .ok (.ldc2_w index, 3)) (k : Good p.tables e below s G (T.setTop (mkF m pc' Ls (.long v :: st)))) : Good p.tables e below s G (T.setTop (mkF m pc Ls st)) := by
  subst hp
  exact Good.go (fun _ q => X.ldc2Long hx hown (mvT hZ w) (g := mkF m pc Ls st) rfl hd _ q) k
theorem Good.ldc2D (X : Stand p l e R s m args below meth c T locs cells slots) (hx : p.tables.exec = Jvm.exec) (hZ : Z.Warmed39 s.vm) {own : String} {index : Nat} {v : UInt64} (hown : s.vm.findClass own = some m.cls) (w : (Cond.constantDouble own index v).before a0 Z = true) {pc pc' : Nat} {Ls : Array Slot} {st : List Value} (hp : pc + 3 = pc') (hd : decode c.code pc = .ok (.ldc2_w index, 3)) (k : Good p.tables e below s G (T.setTop (mkF m pc' Ls (.double v :: st)))) : Good p.tables e below s G (T.setTop (mkF m pc Ls st)) := by
  subst hp
  exact Good.go (fun _ q => X.ldc2DoubleC hx hown (mvT hZ w) (g := mkF m pc Ls st) rfl hd _ q) k
theorem Good.daload (X : Stand p l e R s m args below meth c T locs cells slots) (hx : p.tables.exec = Jvm.exec) (hZ : Z.Warmed39 s.vm) (eT : T.heap = h) {a : Addr} {cl : Cell} {j : Int32} {v : UInt64} (A : Arr Z h a cl .double) (hin : ¬ (j < 0 ∨ cl.slots.size ≤ j.toNatClampNeg)) (hv : cl.slots[j.toNatClampNeg]? = some (.double v)) {pc pc' : Nat} {Ls : Array Slot} {st : List Value} (hp : pc + 1 = pc') (hd : decode c.code pc = .ok (.daload, 1)) (k : Good p.tables e below s G (T.setTop (mkF m pc' Ls (.double v :: st)))) : Good p.tables e below s G (T.setTop (mkF m pc Ls (.int j :: .ref a :: st))) := by
  subst hp
  exact Good.go (fun _ q => X.daload hx (by rw [eT]; exact A.1) (State.isArrayOf_alike hZ.alike A.2.1) A.2.2 hin hv (g := mkF m pc Ls (.int j :: .ref a :: st)) rfl rfl hd _ q) k
theorem stD (X : Stand p l e R s m args below meth c T locs cells slots) (hx : p.tables.exec = Jvm.exec) (hZ : Z.Warmed39 s.vm) (eT : T.heap = h) {a : Addr} {cl : Cell} (A : Arr Z h a cl .double) {j : Int32} {x : UInt64} (hj : ¬ (j < 0 ∨ cl.slots.size ≤ j.toNatClampNeg)) {g : JFrame} (hg : g.method = m) {rest : List Value} (hs : g.stack = .double x :: .int j :: .ref a :: rest) (hd : decode c.code g.pc = .ok (.dastore, 1)) :
    ∃ T' h', Stand p l e R s m args below meth c T' (locs ++ [⟨a, j.toNatClampNeg⟩]) cells slots ∧ T'.heap = h' ∧ Wr h h' a j.toNatClampNeg (.double x) ∧ ∀ target, Steps p.tables e below (T'.setTop { g with pc := g.pc + 1, stack := rest }) target → Steps p.tables e below (T.setTop g) target := by
  obtain ⟨X', st⟩ := X.dastore hx (by rw [eT]; exact A.1) (State.isArrayOf_alike hZ.alike A.2.1) A.2.2 hj hg hs hd
  exact ⟨_, _, X', rfl, ⟨cl, A.1, A.plain, Nat.lt_of_not_le fun q => hj (Or.inr q), by rw [← eT]; rfl⟩, st⟩
theorem Good.dastore (X : Stand p l e R s m args below meth c T locs cells slots) (hx : p.tables.exec = Jvm.exec) (hZ : Z.Warmed39 s.vm) (eT : T.heap = h) {a : Addr} {cl : Cell} {j : Int32} {x : UInt64} (A : Arr Z h a cl .double) (hin : ¬ (j < 0 ∨ cl.slots.size ≤ j.toNatClampNeg)) {pc pc' : Nat} {Ls : Array Slot} {st : List Value} (hp : pc + 1 = pc') (hd : decode c.code pc = .ok (.dastore, 1))
    (k : ∀ T' h', Stand p l e R s m args below meth c T' (locs ++ [⟨a, j.toNatClampNeg⟩]) cells slots → T'.heap = h' → Wr h h' a j.toNatClampNeg (.double x) → Good p.tables e below s G (T'.setTop (mkF m pc' Ls st))) : Good p.tables e below s G (T.setTop (mkF m pc Ls (.double x :: .int j :: .ref a :: st))) := by
  subst hp
  obtain ⟨T', h', X', e', W', st'⟩ := stD X hx hZ eT A hin (g := mkF m pc Ls (.double x :: .int j :: .ref a :: st)) rfl rfl hd
  exact Good.go st' (k T' h' X' e' W')
theorem Good.iastore (X : Stand p l e R s m args below meth c T locs cells slots) (hx : p.tables.exec = Jvm.exec) (hZ : Z.Warmed39 s.vm) (eT : T.heap = h) {a : Addr} {cl : Cell} {j : Int32} {x : Int32} (A : Arr Z h a cl .int) (hin : ¬ (j < 0 ∨ cl.slots.size ≤ j.toNatClampNeg)) {pc pc' : Nat} {Ls : Array Slot} {st : List Value} (hp : pc + 1 = pc') (hd : decode c.code pc = .ok (.iastore, 1))
    (k : ∀ T' h', Stand p l e R s m args below meth c T' (locs ++ [⟨a, j.toNatClampNeg⟩]) cells slots → T'.heap = h' → Wr h h' a j.toNatClampNeg (.int x) → Good p.tables e below s G (T'.setTop (mkF m pc' Ls st))) : Good p.tables e below s G (T.setTop (mkF m pc Ls (.int x :: .int j :: .ref a :: st))) := by
  subst hp
  obtain ⟨T', h', X', e', W', st'⟩ := stI X hx hZ eT A hin (g := mkF m pc Ls (.int x :: .int j :: .ref a :: st)) rfl rfl hd
  exact Good.go st' (k T' h' X' e' W')
theorem Good.arraylength (X : Stand p l e R s m args below meth c T locs cells slots) (hx : p.tables.exec = Jvm.exec) (hZ : Z.Warmed39 s.vm) (eT : T.heap = h) {a : Addr} {cl : Cell} {ty : FieldType} (A : Arr Z h a cl ty) {n : Int32} (hn : cl.slots.size = n.toNatClampNeg) (hn0 : ¬ n < 0) {pc pc' : Nat} {Ls : Array Slot} {st : List Value} (hp : pc + 1 = pc') (hd : decode c.code pc = .ok (.arraylength, 1)) (k : Good p.tables e below s G (T.setTop (mkF m pc' Ls (.int n :: st)))) : Good p.tables e below s G (T.setTop (mkF m pc Ls (.ref a :: st))) := by
  subst hp
  refine Good.go (fun t q => X.arraylength hx (by rw [eT]; exact A.1) (State.isArrayOf_alike hZ.alike A.2.1) (g := mkF m pc Ls (.ref a :: st)) rfl rfl hd t ?_) k
  rw [len_of hn hn0]; exact q
theorem Good.getfield (X : Stand p l e R s m args below meth c T locs cells slots) (hx : p.tables.exec = Jvm.exec) (hZ : Z.Warmed39 s.vm) {own R0 O n d : String} {index : Nat} (hown : s.vm.findClass own = some m.cls) (w : (Cond.fieldLink own index R0 n d).before a0 Z = true) (via : Via Z R0 O n d) (eT : T.heap = h) {a : Addr} {v : Value} (F : Fld Z h a O n d v) {pc pc' : Nat} {Ls : Array Slot} {st : List Value} (hp : pc + 3 = pc') (hd : decode c.code pc = .ok (.getfield index, 3))
    (k : ∀ T', Stand p l e R s m args below meth c T' locs cells slots → T'.heap = h → Good p.tables e below s G (T'.setTop (mkF m pc' Ls (v :: st)))) : Good p.tables e below s G (T.setTop (mkF m pc Ls (.ref a :: st))) := by
  subst hp
  obtain ⟨T', X', e', st'⟩ := getF X hx hZ hown (host := "") (Or.inl w) via eT F (g := mkF m pc Ls (.ref a :: st)) rfl rfl hd
  exact Good.go st' (k T' X' e')
theorem Good.getstatic (X : Stand p l e R s m args below meth c T locs cells slots) (hx : p.tables.exec = Jvm.exec) (hZ : Z.Warmed39 s.vm) {own R0 O n d : String} {index : Nat} (hown : s.vm.findClass own = some m.cls) (w : (Cond.fieldLink own index R0 n d).before a0 Z = true) (via : Via Z R0 O n d) (eT : T.heap = h) {v : Value} (F : Sta Z h O n d v) {pc pc' : Nat} {Ls : Array Slot} {st : List Value} (hp : pc + 3 = pc') (hd : decode c.code pc = .ok (.getstatic index, 3))
    (k : ∀ T', Stand p l e R s m args below meth c T' locs cells slots → T'.heap = h → Good p.tables e below s G (T'.setTop (mkF m pc' Ls (v :: st)))) : Good p.tables e below s G (T.setTop (mkF m pc Ls st)) := by
  subst hp
  obtain ⟨T', X', e', st'⟩ := getS2 X hx hZ hown (host := "") (Or.inl w) via eT F (g := mkF m pc Ls st) rfl hd
  exact Good.go st' (k T' X' e')
theorem Good.putfield (X : Stand p l e R s m args below meth c T locs cells slots) (hx : p.tables.exec = Jvm.exec) (hZ : Z.Warmed39 s.vm) {own R0 O n d C : String} {index kk : Nat} {ty : FieldType} (hown : s.vm.findClass own = some m.cls) (w : (Cond.fieldLink own index R0 n d).before a0 Z = true) (via : Via Z R0 O n d) (eT : T.heap = h) {a : Addr} {v old : Value} (F : Fld Z h a O n d old) (E : Exa Z h a C) (L : (Cond.lays C O n d).before a0 Z = true ∨ ((Cond.laysFinal C O n d).before a0 Z = true ∧ own = O ∧ meth.name = "<init>")) (wi : (Cond.instantiable C kk).before a0 Z = true) (hty : parseFieldDescriptor d = some ty) (hn : narrow ty v = v) (hf : fits ty v = true) {pc pc' : Nat} {Ls : Array Slot} {st : List Value} (hp : pc + 3 = pc') (hd : decode c.code pc = .ok (.putfield index, 3))
    (k : ∀ T' h', Stand p l e R s m args below meth c T' (locs ++ [⟨a, RoadKit.slotOf Z O n d⟩]) cells slots → T'.heap = h' → Wr h h' a (RoadKit.slotOf Z O n d) v → Good p.tables e below s G (T'.setTop (mkF m pc' Ls st))) : Good p.tables e below s G (T.setTop (mkF m pc Ls (v :: .ref a :: st))) := by
  subst hp
  obtain ⟨T', h', X', e', W', st'⟩ := putF X hx hZ hown (host := "") (Or.inl w) via eT F E L wi hty hn hf (g := mkF m pc Ls (v :: .ref a :: st)) rfl rfl hd
  exact Good.go st' (k T' h' X' e' W')
theorem Good.new (X : Stand p l e R s m args below meth c T locs cells slots) (hx : p.tables.exec = Jvm.exec) (hZ : Z.Warmed39 s.vm) {own C : String} {index n : Nat} (hown : s.vm.findClass own = some m.cls) (w : (Cond.classLink own index C).before a0 Z = true) (wi : (Cond.instantiable C n).before a0 Z = true) (wz : (Cond.initialized C).before a0 Z = true) (eT : T.heap = h) {pc pc' : Nat} {Ls : Array Slot} {st : List Value} (hp : pc + 3 = pc') (hd : decode c.code pc = .ok (.new index, 3)) (hc : cells + 1 ≤ R.cells) (hl : slots + n ≤ R.slots)
    (k : ∀ T' h' b, b = h.size → Stand p l e R s m args below meth c T' locs (cells + 1) (slots + n) → T'.heap = h' → Ext h h' → Exa Z h' b C → (∀ {O nm d : String} {ty : FieldType}, Laid Z a0 C O nm d → parseFieldDescriptor d = some ty → Fld Z h' b O nm d (defaultValue ty)) → Good p.tables e below s G (T'.setTop (mkF m pc' Ls (.ref b :: st)))) : Good p.tables e below s G (T.setTop (mkF m pc Ls st)) := by
  subst hp
  obtain ⟨T', h', X', e', E', A', D', -, st'⟩ := newO X hx hZ hown w wi wz eT (g := mkF m pc Ls st) rfl hd hc hl
  exact Good.go st' (k T' h' _ rfl X' e' E' A' D')
theorem Good.newarray (X : Stand p l e R s m args below meth c T locs cells slots) (hx : p.tables.exec = Jvm.exec) (hZ : Z.Warmed39 s.vm) {aty : ArrayType} (w : (Cond.arrayClass (newarray.typeOf aty)).before a0 Z = true) (eT : T.heap = h) {n : Int32} {pc pc' : Nat} {Ls : Array Slot} {st : List Value} (hp : pc + 2 = pc') (hd : decode c.code pc = .ok (.newarray aty, 2)) (hn : ¬ n < 0) {cap : Nat} (hcap : n.toNatClampNeg ≤ cap) (hb : cap * 8 ≤ 536870912) (hc : cells + 1 ≤ R.cells) (hl : slots + cap ≤ R.slots)
    (k : ∀ T' h' cA b, b = h.size → Stand p l e R s m args below meth c T' locs (cells + 1) (slots + cap) → T'.heap = h' → Ext h h' → Arr Z h' b (newA cA (newarray.typeOf aty) n) (newarray.typeOf aty) → Good p.tables e below s G (T'.setTop (mkF m pc' Ls (.ref b :: st)))) : Good p.tables e below s G (T.setTop (mkF m pc Ls (.int n :: st))) := by
  subst hp
  obtain ⟨T', h', cA, X', e', E', A', st'⟩ := newP X hx hZ w eT (g := mkF m pc Ls (.int n :: st)) rfl hd rfl hn hcap hb hc hl
  exact Good.go st' (k T' h' cA _ rfl X' e' E' A')
theorem Good.initO (X : Stand p l e R s m args below meth c T locs cells slots) (hx : p.tables.exec = Jvm.exec) (hZ : Z.Warmed39 s.vm) {own : String} {idx : Nat} (hown : s.vm.findClass own = some m.cls) (w1 : (Cond.methodLink own idx Lib.objectInit).before a0 Z = true) (w2 : (Cond.instanceMethod Lib.objectInit).before a0 Z = true) (w3 : (Cond.code Lib.objectInit ⟨#[0xb1]⟩ 1 none).before a0 Z = true) (eT : T.heap = h) {a : Addr} {pc pc' : Nat} {Ls : Array Slot} {rest : List Value} (hp : pc + 3 = pc') (hsz : Ls.size = c.maxLocals) (hd : decode c.code pc = .ok (.invokespecial idx, 3)) (hf : 1 ≤ R.frames) {W : Nat} (hW : (rest.map fun v => v.category).sum ≤ W) (hlo : W + 12 ≤ R.locals)
    (k : ∀ T', Stand p l e R s m args below meth c T' locs cells slots → T'.heap = h → Good p.tables e below s G (T'.setTop (mkF m pc' Ls rest))) : Good p.tables e below s G (T.setTop (mkF m pc Ls (.ref a :: rest))) := by
  subst hp
  obtain ⟨T', X', e', st'⟩ := Jvm.RoadKit.initO X hx hZ hown w1 w2 w3 eT (g := mkF m pc Ls (.ref a :: rest)) rfl hsz rfl hd hf (W := W) (by simpa using hW) hlo
  exact Good.go st' (k T' X' e')
/-- the contract of a body: called with these arguments on this heap it returns, and Q holds -/
def Con (l : Launch) (Z : State) (y : MethodName) (bytes : ByteArray) (maxL : Nat) (ret : Option FieldType) (rm : Room) (as' : Array Value) (h : Heap) (Q : Option Value → Heap → List Loc → Prop) : Prop :=
  ∀ ws : List Cond, MetFree l y (head1 (Cond.code y bytes maxL ret :: ws) rm) (fun a U => a = as' ∧ Z.Warmed39 U.vm ∧ U.heap = h) (fun _ _ _ _ _ => True) (fun _ U o U' => ∃ v L, o = .returned v ∧ Q v U'.heap L ∧ FrameEnd U o U' L rm.cells rm.slots)
theorem Con.body {y : MethodName} {bytes : ByteArray} {maxL : Nat} {ret : Option FieldType} {rm : Room} {as' : Array Value} {Q : Option Value → Heap → List Loc → Prop} (hpl : plainFor y = true)
    (B : ∀ G : Option Value → Heap → List Loc → Nat → Nat → Prop, (∀ v h' L k n, Q v h' L → k ≤ rm.cells → n ≤ rm.slots → G v h' L k n) → ∀ (p : Program) (e : Env) (s : State) (m : MethodId) (below : List Frame) (meth : Method) (c : Code) (T : State), Stand p l e rm s m as' below meth c T [] 0 0 → p.tables.exec = Jvm.exec → c.code = bytes → c.maxLocals = maxL → s.vm.findClass y.cls = some m.cls → meth.name = y.name → meth.sig.returnType = ret → meth.locks = false → Z.Warmed39 s.vm → T.heap = h →
      Good p.tables e below s G (T.setTop (entryFrame m as' maxL))) : Con l Z y bytes maxL ret rm as' h Q := by
  intro ws
  refine MetFree.of_bodySF hpl hisR ?_
  intro p e s m args below meth c s₁ Bd hml hP hK
  obtain ⟨rfl, hZ, hh⟩ := hP
  obtain ⟨T, fs, v, L, k, n, q, h1, h2, h3, h4, hQ, hk, hn⟩ := B (fun v h' L k n => Q v h' L ∧ k ≤ rm.cells ∧ n ≤ rm.slots) (fun _ _ _ _ _ a b c => ⟨a, b, c⟩) p e s m below meth c s₁ (Stand.of_body Bd) Bd.exec Bd.bytes hml (findClass_of_methodNamed Bd.named) (name_of_methodNamed Bd.named Bd.method).1 Bd.returns Bd.notSynchronized hZ (by rw [← hh, Bd.state]; rfl)
  exact ⟨_, _, q, h1, h2, v, L, rfl, hQ, ⟨_, rfl⟩, h3, h4.mono hk hn⟩
theorem Good.callS (X : Stand p l e R s m args below meth c T locs cells slots) (hx : p.tables.exec = Jvm.exec) (hZ : Z.Warmed39 s.vm) {own : String} {index : Nat} {y : MethodName} {bytes : ByteArray} {maxL : Nat} {ret : Option FieldType} {rm : Room} {Q : Option Value → Heap → List Loc → Prop} (hown : s.vm.findClass own = some m.cls) (w1 : (Cond.methodLink own index y).before a0 Z = true) (w2 : (Cond.static y).before a0 Z = true) (w3 : (Cond.initialized y.cls).before a0 Z = true) (w4 : (Cond.code y bytes maxL ret).before a0 Z = true) (hy : y.cls ≠ "java/lang/invoke/MethodHandle" ∧ y.cls ≠ "java/lang/invoke/VarHandle") (eT : T.heap = h) {argsL rest : List Value} (K : Con l Z y bytes maxL ret rm argsL.toArray h Q) {ps : List FieldType} {r : Option FieldType} (hdesc : parseMethodDescriptor y.desc = some ⟨ps, r⟩) (hlen : argsL.length = ps.length) {pc pc' : Nat} {Ls : Array Slot} {st : List Value} (hp : pc + 3 = pc') (hsz : Ls.size = c.maxLocals) (hs : st = argsL.reverse ++ rest) (hd : decode c.code pc = .ok (.invokestatic index, 3)) {W : Nat} (hW : (rest.map fun v => v.category).sum ≤ W) (hf : rm.frames + 1 ≤ R.frames) (hlo : W + (maxL + 11) + rm.locals ≤ R.locals) (hce : cells + rm.cells ≤ R.cells) (hsl : slots + rm.slots ≤ R.slots)
    (k : ∀ v T' L, Stand p l e R s m args below meth c T' (locs ++ L) (cells + rm.cells) (slots + rm.slots) → Q v T'.heap L → Good p.tables e below s G (T'.setTop (mkF m pc' Ls (v.toList ++ rest)))) : Good p.tables e below s G (T.setTop (mkF m pc Ls st)) := by
  subst hp hs
  obtain ⟨v, vm₁, ⟨T', L', k', n'⟩, -, X', ⟨L, hQ, l1, l2, l3⟩, st⟩ := Jvm.LawKit.callS X hx (y := y) hown (mvT hZ w1) (mvT hZ w2) (mvT hZ w3) (mvT hZ w4) hy (backOf (W := W) (K []) hZ w4 w3 hf hlo) (g := mkF m pc Ls (argsL.reverse ++ rest)) rfl hsz (argsL := argsL) (rest := rest) (lenOf hdesc hlen) rfl (by simpa using hW) hd (fun _ _ => ⟨rfl, eT, hce, hsl⟩)
  dsimp only [Pt.U, Pt.locs, Pt.cells, Pt.slots] at X' l1 l2 l3 st hQ
  subst l1 l2 l3
  exact Good.go st (k v T' L X' hQ)
theorem Good.callN (X : Stand p l e R s m args below meth c T locs cells slots) (hx : p.tables.exec = Jvm.exec) (hZ : Z.Warmed39 s.vm) {own : String} {index : Nat} {y : MethodName} {bytes : ByteArray} {maxL : Nat} {rm : Room} {Q : Option Value → Heap → List Loc → Prop} (hyn : y.name = "<init>") (hown : s.vm.findClass own = some m.cls) (w1 : (Cond.methodLink own index y).before a0 Z = true) (w2 : (Cond.instanceMethod y).before a0 Z = true) (w3 : (Cond.initialized y.cls).before a0 Z = true) (w4 : (Cond.code y bytes maxL none).before a0 Z = true) (hy : y.cls ≠ "java/lang/invoke/MethodHandle" ∧ y.cls ≠ "java/lang/invoke/VarHandle") (eT : T.heap = h) {a : Addr} {argsL rest : List Value} (K : Con l Z y bytes maxL none rm (.ref a :: argsL).toArray h Q) {ps : List FieldType} {r : Option FieldType} (hdesc : parseMethodDescriptor y.desc = some ⟨ps, r⟩) (hlen : argsL.length = ps.length) {pc pc' : Nat} {Ls : Array Slot} {st : List Value} (hp : pc + 3 = pc') (hsz : Ls.size = c.maxLocals) (hs : st = argsL.reverse ++ .ref a :: rest) (hd : decode c.code pc = .ok (.invokespecial index, 3)) {W : Nat} (hW : (rest.map fun v => v.category).sum ≤ W) (hf : rm.frames + 1 ≤ R.frames) (hlo : W + (maxL + 11) + rm.locals ≤ R.locals) (hce : cells + rm.cells ≤ R.cells) (hsl : slots + rm.slots ≤ R.slots)
    (k : ∀ v T' L, Stand p l e R s m args below meth c T' (locs ++ L) (cells + rm.cells) (slots + rm.slots) → Q v T'.heap L → Good p.tables e below s G (T'.setTop (mkF m pc' Ls (v.toList ++ rest)))) : Good p.tables e below s G (T.setTop (mkF m pc Ls st)) := by
  subst hp hs
  obtain ⟨v, vm₁, ⟨T', L', k', n'⟩, -, X', ⟨L, hQ, l1, l2, l3⟩, st⟩ := X.specialBack hx (y := y) hyn hown (mvT hZ w1) (mvT hZ w2) (mvT hZ w4) hy (backOf (W := W) (K []) hZ w4 w3 hf hlo) (g := mkF m pc Ls (argsL.reverse ++ .ref a :: rest)) rfl hsz (Steps.refl _) (a := a) (argsL := argsL) (rest := rest) (lenOf hdesc hlen) rfl (by simpa using hW) hd (fun _ _ => ⟨rfl, eT, hce, hsl⟩)
  dsimp only [Pt.U, Pt.locs, Pt.cells, Pt.slots] at X' l1 l2 l3 st hQ
  subst l1 l2 l3
  exact Good.go (fun _ q => st.trans q) (k v T' L X' hQ)
theorem Good.callV (X : Stand p l e R s m args below meth c T locs cells slots) (hx : p.tables.exec = Jvm.exec) (hZ : Z.Warmed39 s.vm) {own C : String} {index : Nat} {y : MethodName} {bytes : ByteArray} {maxL : Nat} {ret : Option FieldType} {rm : Room} {Q : Option Value → Heap → List Loc → Prop} (hown : s.vm.findClass own = some m.cls) (w1 : (Cond.methodLink own index y).before a0 Z = true) (wd : (Cond.declares y).before a0 Z = true) (ws : (Cond.selects C y y).before a0 Z = true) (w2 : (Cond.instanceMethod y).before a0 Z = true) (w3 : (Cond.initialized y.cls).before a0 Z = true) (w4 : (Cond.code y bytes maxL ret).before a0 Z = true) (hy : y.cls ≠ "java/lang/invoke/MethodHandle" ∧ y.cls ≠ "java/lang/invoke/VarHandle") (eT : T.heap = h) {a : Addr} (E : Exa Z h a C) {argsL rest : List Value} (K : Con l Z y bytes maxL ret rm (.ref a :: argsL).toArray h Q) {ps : List FieldType} {r : Option FieldType} (hdesc : parseMethodDescriptor y.desc = some ⟨ps, r⟩) (hlen : argsL.length = ps.length) {pc pc' : Nat} {Ls : Array Slot} {st : List Value} (hp : pc + 3 = pc') (hsz : Ls.size = c.maxLocals) (hs : st = argsL.reverse ++ .ref a :: rest) (hd : decode c.code pc = .ok (.invokevirtual index, 3)) {W : Nat} (hW : (rest.map fun v => v.category).sum ≤ W) (hf : rm.frames + 1 ≤ R.frames) (hlo : W + (maxL + 11) + rm.locals ≤ R.locals) (hce : cells + rm.cells ≤ R.cells) (hsl : slots + rm.slots ≤ R.slots)
    (k : ∀ v T' L, Stand p l e R s m args below meth c T' (locs ++ L) (cells + rm.cells) (slots + rm.slots) → Q v T'.heap L → Good p.tables e below s G (T'.setTop (mkF m pc' Ls (v.toList ++ rest)))) : Good p.tables e below s G (T.setTop (mkF m pc Ls st)) := by
  subst hp hs
  obtain ⟨cq, kq, q1, q2, q3⟩ := isOf hZ eT E
  obtain ⟨v, vm₁, ⟨T', L', k', n'⟩, -, X', ⟨L, hQ, l1, l2, l3⟩, st⟩ := X.virtualBack hx (y := y) (z := y) hown (mvT hZ w1) (mvT hZ wd) (notFace_of_selects (args := #[]) (mvT hZ ws)) (mvT hZ ws) (mvT hZ w2) hy (backOf (W := W) (K []) hZ w4 w3 hf hlo) q1 q3 (g := mkF m pc Ls (argsL.reverse ++ .ref a :: rest)) rfl hsz (Steps.refl _) (argsL := argsL) (rest := rest) (lenOf hdesc hlen) rfl (by simpa using hW) hd (fun _ _ => ⟨rfl, eT, hce, hsl⟩)
  dsimp only [Pt.U, Pt.locs, Pt.cells, Pt.slots] at X' l1 l2 l3 st hQ
  subst l1 l2 l3
  exact Good.go (fun _ q => st.trans q) (k v T' L X' hQ)

theorem Good.iaddN (X : Stand p l e R s m args below meth c T locs cells slots) (hx : p.tables.exec = Jvm.exec) {pc pc' : Nat} {Ls : Array Slot} {x y : Nat} {st : List Value} (hp : pc + 1 = pc') (hd : decode c.code pc = .ok (.iadd, 1)) (k : Good p.tables e below s G (T.setTop (mkF m pc' Ls (.int (Int32.ofNat (x + y)) :: st)))) : Good p.tables e below s G (T.setTop (mkF m pc Ls (.int (Int32.ofNat y) :: .int (Int32.ofNat x) :: st))) :=
  Good.iadd X hx hp hd (by rw [← Int32.ofNat_add]; exact k)
theorem Good.imulN (X : Stand p l e R s m args below meth c T locs cells slots) (hx : p.tables.exec = Jvm.exec) {pc pc' : Nat} {Ls : Array Slot} {x y : Nat} {st : List Value} (hp : pc + 1 = pc') (hd : decode c.code pc = .ok (.imul, 1)) (k : Good p.tables e below s G (T.setTop (mkF m pc' Ls (.int (Int32.ofNat (x * y)) :: st)))) : Good p.tables e below s G (T.setTop (mkF m pc Ls (.int (Int32.ofNat y) :: .int (Int32.ofNat x) :: st))) :=
  Good.imul X hx hp hd (by rw [← Int32.ofNat_mul]; exact k)
theorem Good.iincN (X : Stand p l e R s m args below meth c T locs cells slots) (hx : p.tables.exec = Jvm.exec) {pc pc' : Nat} {Ls : Array Slot} {i x w : Nat} {cst : Int} {Ls' : Array Slot} {st : List Value} (hp : pc + 3 = pc') (hd : decode c.code pc = .ok (.iinc i cst, 3)) (hl : Ls[i]? = some (.val (.int (Int32.ofNat x)))) (hv : Int32.ofInt cst = Int32.ofNat w) (hl' : storeLocals Ls i (.int (Int32.ofNat (x + w))) = some Ls') (k : Good p.tables e below s G (T.setTop (mkF m pc' Ls' st))) : Good p.tables e below s G (T.setTop (mkF m pc Ls st)) :=
  Good.iinc X hx hp hd hl hv (by rw [← Int32.ofNat_add]; exact hl') k
/-- a slot that a one-word value may be laid over -/
def One (o : Slot) : Prop := o = .unset ∨ ∃ w, o = .val w ∧ w.category = 1
/-- two slots that a double may be laid over -/
def Two (o o' : Slot) : Prop := (o = .unset ∧ o' = .unset) ∨ ∃ d, o = .val (.double d) ∧ o' = .second
theorem One.u : One .unset := Or.inl rfl
theorem One.i (x : Int32) : One (.val (.int x)) := Or.inr ⟨_, rfl, rfl⟩
theorem Two.u : Two .unset .unset := Or.inl ⟨rfl, rfl⟩
theorem Two.d (x : UInt64) : Two (.val (.double x)) .second := Or.inr ⟨_, rfl, rfl⟩
theorem store2 {l : Array Slot} {i : Nat} {x : UInt64} {o o' : Slot} (h1 : l[i]? = some o) (h2 : l[i + 1]? = some o') (ho : Two o o') : storeLocals l i (.double x) = some ((l.setIfInBounds i (.val (.double x))).setIfInBounds (i + 1) .second) := by
  obtain ⟨hi, g1⟩ := Array.getElem?_eq_some_iff.mp h1
  obtain ⟨hj, g2⟩ := Array.getElem?_eq_some_iff.mp h2
  rcases ho with ⟨rfl, rfl⟩ | ⟨d, rfl, rfl⟩
  · simp [storeLocals, storeSelf, setAt, Value.category, hi, hj, g1, g2]
  · simp [storeLocals, storeSelf, setAt, Value.category, hi, hj, g1, g2]
    apply Array.ext_getElem?
    intro j
    simp only [Array.getElem?_setIfInBounds, Array.size_setIfInBounds]
    by_cases q1 : i + 1 = j
    · simp [q1]
    · by_cases q2 : i = j <;> simp [q1, q2]
end Kit
section Arrays
variable {Z : State} {h h' : Heap} {a b : Addr} {n : Nat} {f : Nat → UInt64} {sl : Nat} {v : Value} {ws : List Addr} {ty : FieldType}
/-- a double[] of n places, place i holds f i -/
def DA (Z : State) (h : Heap) (a : Addr) (n : Nat) (f : Nat → UInt64) : Prop := ∃ cl : Cell, Arr Z h a cl .double ∧ cl.slots.size = n ∧ ∀ i, i < n → cl.slots[i]? = some (.double (f i))
def updD (f : Nat → UInt64) (j : Nat) (x : UInt64) : Nat → UInt64 := fun i => if i = j then x else f i
/-- an array of n places -/
def AR (Z : State) (h : Heap) (a : Addr) (n : Nat) (ty : FieldType) : Prop := ∃ cl : Cell, Arr Z h a cl ty ∧ cl.slots.size = n
theorem DA.lt (F : DA Z h a n f) : a < h.size := by obtain ⟨c, A, -⟩ := F; exact A.lt
theorem DA.ext (F : DA Z h a n f) (E : Ext h h') : DA Z h' a n f := by obtain ⟨c, A, r⟩ := F; exact ⟨c, A.ext E, r⟩
theorem DA.other (F : DA Z h b n f) (W : Wr h h' a sl v) (q : b ≠ a) : DA Z h' b n f := by obtain ⟨c, A, r⟩ := F; exact ⟨c, A.other W q, r⟩
theorem DA.keep (F : DA Z h a n f) (K : Keep h h' ws) (q : a ∉ ws) : DA Z h' a n f := by obtain ⟨c, A, r⟩ := F; exact ⟨c, ⟨K.2.1 a c A.1 q, A.2⟩, r⟩
theorem AR.lt (F : AR Z h a n ty) : a < h.size := by obtain ⟨c, A, -⟩ := F; exact A.lt
theorem AR.ext (F : AR Z h a n ty) (E : Ext h h') : AR Z h' a n ty := by obtain ⟨c, A, r⟩ := F; exact ⟨c, A.ext E, r⟩
theorem AR.other (F : AR Z h b n ty) (W : Wr h h' a sl v) (q : b ≠ a) : AR Z h' b n ty := by obtain ⟨c, A, r⟩ := F; exact ⟨c, A.other W q, r⟩
theorem AR.keep (F : AR Z h a n ty) (K : Keep h h' ws) (q : a ∉ ws) : AR Z h' a n ty := by obtain ⟨c, A, r⟩ := F; exact ⟨c, ⟨K.2.1 a c A.1 q, A.2⟩, r⟩
theorem clampOf {j : Int32} {i : Nat} (hj : j.toInt = (i : Int)) : j.toNatClampNeg = i := by
  show j.toInt.toNat = i
  rw [hj]; rfl
theorem inOf {j : Int32} {i m : Nat} (hj : j.toInt = (i : Int)) (hi : i < m) : ¬ (j < 0 ∨ m ≤ j.toNatClampNeg) := by
  rw [clampOf hj, Int32.lt_iff_toInt_lt, hj]
  have e0 : (0 : Int32).toInt = 0 := rfl
  omega
theorem DA.new {k : ClassId} {z : Int32} (A : Arr Z h a (newA k (newarray.typeOf .double) z) (newarray.typeOf .double)) (hz : z.toInt = (n : Int)) : DA Z h a n (fun _ => 0) :=
  ⟨_, A, by rw [sz_new, clampOf hz], fun i hi => by
    show (Array.replicate z.toNatClampNeg (defaultValue .double))[i]? = _
    rw [clampOf hz, Array.getElem?_replicate, if_pos hi]; rfl⟩
theorem AR.new {k : ClassId} {z : Int32} (A : Arr Z h a (newA k ty z) ty) (hz : z.toInt = (n : Int)) : AR Z h a n ty := ⟨_, A, by rw [sz_new, clampOf hz]⟩
theorem DA.set (F : DA Z h a n f) {j : Nat} {x : UInt64} (W : Wr h h' a j (.double x)) : DA Z h' a n (updD f j x) := by
  obtain ⟨cl, A, S, H⟩ := F
  refine ⟨_, A.same W, by rw [sz_set]; exact S, fun i hi => ?_⟩
  show (cl.slots.setIfInBounds j (.double x))[i]? = some (.double (if i = j then x else f i))
  by_cases q : i = j
  · subst q
    rw [if_pos rfl, Array.getElem?_setIfInBounds_self_of_lt (by omega)]
  · rw [if_neg q, Array.getElem?_setIfInBounds_ne (fun z => q z.symm)]; exact H i hi
theorem AR.set (F : AR Z h a n ty) (W : Wr h h' a sl v) : AR Z h' a n ty := by
  obtain ⟨cl, A, S⟩ := F
  exact ⟨_, A.same W, by rw [sz_set]; exact S⟩
theorem DA.eq (F : DA Z h a n f) {g : Nat → UInt64} (q : ∀ i, i < n → f i = g i) : DA Z h a n g := by
  obtain ⟨cl, A, S, H⟩ := F
  exact ⟨cl, A, S, fun i hi => by rw [← q i hi]; exact H i hi⟩
theorem DA.ar (F : DA Z h a n f) : AR Z h a n .double := by obtain ⟨cl, A, S, -⟩ := F; exact ⟨cl, A, S⟩
variable {p : Program} {l : Launch} {e : Env} {R : Room} {s : State} {m : MethodId} {args : Array Value} {below : List Frame} {meth : Method} {c : Code} {T : State} {locs : List Loc} {cells slots : Nat} {G : Option Value → Heap → List Loc → Nat → Nat → Prop}
theorem Good.daloadF (X : Stand p l e R s m args below meth c T locs cells slots) (hx : p.tables.exec = Jvm.exec) (hZ : Z.Warmed39 s.vm) (eT : T.heap = h) (A : DA Z h a n f) {j : Int32} (i : Nat) (hj : j.toInt = (i : Int)) (hi : i < n) {w : UInt64} (hw : f i = w) {pc pc' : Nat} {Ls : Array Slot} {st : List Value} (hp : pc + 1 = pc') (hd : decode c.code pc = .ok (.daload, 1)) (k : Good p.tables e below s G (T.setTop (mkF m pc' Ls (.double w :: st)))) : Good p.tables e below s G (T.setTop (mkF m pc Ls (.int j :: .ref a :: st))) := by
  obtain ⟨cl, A, S, H⟩ := A
  exact Good.daload X hx hZ eT A (by rw [S]; exact inOf hj hi) (by rw [clampOf hj, H i hi, hw]) hp hd k
theorem Good.dastoreF (X : Stand p l e R s m args below meth c T locs cells slots) (hx : p.tables.exec = Jvm.exec) (hZ : Z.Warmed39 s.vm) (eT : T.heap = h) (A : DA Z h a n f) {j : Int32} (i : Nat) (hj : j.toInt = (i : Int)) (hi : i < n) {x : UInt64} {pc pc' : Nat} {Ls : Array Slot} {st : List Value} (hp : pc + 1 = pc') (hd : decode c.code pc = .ok (.dastore, 1))
    (k : ∀ T' h', Stand p l e R s m args below meth c T' (locs ++ [⟨a, i⟩]) cells slots → T'.heap = h' → Wr h h' a i (.double x) → DA Z h' a n (updD f i x) → Good p.tables e below s G (T'.setTop (mkF m pc' Ls st))) : Good p.tables e below s G (T.setTop (mkF m pc Ls (.double x :: .int j :: .ref a :: st))) := by
  have A0 := A
  obtain ⟨cl, A, S, H⟩ := A
  refine Good.dastore X hx hZ eT A (by rw [S]; exact inOf hj hi) hp hd fun T' h' X' e' W' => ?_
  rw [clampOf hj] at X' W'
  exact k T' h' X' e' W' (A0.set W')
theorem Good.iastoreF (X : Stand p l e R s m args below meth c T locs cells slots) (hx : p.tables.exec = Jvm.exec) (hZ : Z.Warmed39 s.vm) (eT : T.heap = h) (A : AR Z h a n .int) {j : Int32} (i : Nat) (hj : j.toInt = (i : Int)) (hi : i < n) {x : Int32} {pc pc' : Nat} {Ls : Array Slot} {st : List Value} (hp : pc + 1 = pc') (hd : decode c.code pc = .ok (.iastore, 1))
    (k : ∀ T' h', Stand p l e R s m args below meth c T' (locs ++ [⟨a, i⟩]) cells slots → T'.heap = h' → Wr h h' a i (.int x) → AR Z h' a n .int → Good p.tables e below s G (T'.setTop (mkF m pc' Ls st))) : Good p.tables e below s G (T.setTop (mkF m pc Ls (.int x :: .int j :: .ref a :: st))) := by
  have A0 := A
  obtain ⟨cl, A, S⟩ := A
  refine Good.iastore X hx hZ eT A (by rw [S]; exact inOf hj hi) hp hd fun T' h' X' e' W' => ?_
  rw [clampOf hj] at X' W'
  exact k T' h' X' e' W' (A0.set W')
theorem Good.alenF (X : Stand p l e R s m args below meth c T locs cells slots) (hx : p.tables.exec = Jvm.exec) (hZ : Z.Warmed39 s.vm) (eT : T.heap = h) (A : DA Z h a n f) {z : Int32} (hz : z.toInt = (n : Int)) {pc pc' : Nat} {Ls : Array Slot} {st : List Value} (hp : pc + 1 = pc') (hd : decode c.code pc = .ok (.arraylength, 1)) (k : Good p.tables e below s G (T.setTop (mkF m pc' Ls (.int z :: st)))) : Good p.tables e below s G (T.setTop (mkF m pc Ls (.ref a :: st))) := by
  obtain ⟨cl, A, S, H⟩ := A
  refine Good.arraylength X hx hZ eT A (n := z) (by rw [S, clampOf hz]) ?_ hp hd k
  rw [Int32.lt_iff_toInt_lt, hz]
  have e0 : (0 : Int32).toInt = 0 := rfl
  omega
end Arrays
section Chars
variable {p : Program} {l : Launch} {e : Env} {R : Room} {s : State} {m : MethodId} {args : Array Value} {below : List Frame} {meth : Method} {c : Code} {T : State} {locs : List Loc} {cells slots : Nat} {G : Option Value → Heap → List Loc → Nat → Nat → Prop} {Z : State} {a0 : Array Value} {h : Heap}
/-- a char laid into an array of two, whose values are known -/
theorem Good.castoreV (X : Stand p l e R s m args below meth c T locs cells slots) (hx : p.tables.exec = Jvm.exec) (hZ : Z.Warmed39 s.vm) (eT : T.heap = h) {a : Addr} {kC : ClassId} {z j x : Int32} {vs : List Value} {dv : Value} (A : Arv Z h a kC .char z vs dv) (i : Nat) (hj : j.toInt = (i : Int)) (hi : (i : Int) < z.toInt) (hl : i < vs.length) {pc pc' : Nat} {Ls : Array Slot} {st : List Value} (hp : pc + 1 = pc') (hd : decode c.code pc = .ok (.castore, 1))
    (k : ∀ T' h', Stand p l e R s m args below meth c T' (locs ++ [⟨a, i⟩]) cells slots → T'.heap = h' → Wr h h' a i (.int (nar .char x)) → Arv Z h' a kC .char z (vs.set i (.int (nar .char x))) dv → Good p.tables e below s G (T'.setTop (mkF m pc' Ls st))) : Good p.tables e below s G (T.setTop (mkF m pc Ls (.int x :: .int j :: .ref a :: st))) := by
  subst hp
  obtain ⟨cl, A, q1, S, q3, H, U⟩ := A
  have hin : ¬ (j < 0 ∨ cl.slots.size ≤ j.toNatClampNeg) := by
    rw [S]
    refine inOf hj ?_
    show i < z.toInt.toNat
    omega
  obtain ⟨T', h', X', e', W', st'⟩ := stC X hx hZ eT A hin (g := mkF m pc Ls (.int x :: .int j :: .ref a :: st)) rfl rfl hd
  have V := Arv.set A q1 S q3 H U (fits_nar_char x) W' i (clampOf hj) hl
  rw [clampOf hj] at X' W'
  exact Good.go st' (k T' h' X' e' W' V)
/-- a constructor paid by a Back -/
theorem Good.callNB (X : Stand p l e R s m args below meth c T locs cells slots) (hx : p.tables.exec = Jvm.exec) (hZ : Z.Warmed39 s.vm) {own : String} {index : Nat} {y : MethodName} {bytes : ByteArray} {maxL kc ks : Nat} {Q : Option Value → Heap → List Loc → Prop} (hyn : y.name = "<init>") (hown : s.vm.findClass own = some m.cls) (w1 : (Cond.methodLink own index y).before a0 Z = true) (w2 : (Cond.instanceMethod y).before a0 Z = true) (w4 : (Cond.code y bytes maxL none).before a0 Z = true) (hy : y.cls ≠ "java/lang/invoke/MethodHandle" ∧ y.cls ≠ "java/lang/invoke/VarHandle") (eT : T.heap = h) {a : Addr} {argsL rest : List Value} {W : Nat}
    (K : Back l R p e below s args y 3 W (fun P a' => a' = (.ref a :: argsL).toArray ∧ P.U.heap = h ∧ P.cells + kc ≤ R.cells ∧ P.slots + ks ≤ R.slots) (fun P _ v B => ∃ L, Q v B.U.heap L ∧ B.locs = P.locs ++ L ∧ B.cells = P.cells + kc ∧ B.slots = P.slots + ks)) {ps : List FieldType} {r : Option FieldType} (hdesc : parseMethodDescriptor y.desc = some ⟨ps, r⟩) (hlen : argsL.length = ps.length) {pc pc' : Nat} {Ls : Array Slot} {st : List Value} (hp : pc + 3 = pc') (hsz : Ls.size = c.maxLocals) (hs : st = argsL.reverse ++ .ref a :: rest) (hd : decode c.code pc = .ok (.invokespecial index, 3)) (hW : (rest.map fun v => v.category).sum ≤ W) (hce : cells + kc ≤ R.cells) (hsl : slots + ks ≤ R.slots)
    (k : ∀ v T' L, Stand p l e R s m args below meth c T' (locs ++ L) (cells + kc) (slots + ks) → Q v T'.heap L → Good p.tables e below s G (T'.setTop (mkF m pc' Ls (v.toList ++ rest)))) : Good p.tables e below s G (T.setTop (mkF m pc Ls st)) := by
  subst hp hs
  obtain ⟨v, vm₁, ⟨T', L', k', n'⟩, -, X', ⟨L, hQ, l1, l2, l3⟩, st⟩ := X.specialBack hx (y := y) hyn hown (mvT hZ w1) (mvT hZ w2) (mvT hZ w4) hy K (g := mkF m pc Ls (argsL.reverse ++ .ref a :: rest)) rfl hsz (Steps.refl _) (a := a) (argsL := argsL) (rest := rest) (lenOf hdesc hlen) rfl (by simpa using hW) hd (fun _ _ => ⟨rfl, eT, hce, hsl⟩)
  dsimp only [Pt.U, Pt.locs, Pt.cells, Pt.slots] at X' l1 l2 l3 st hQ
  subst l1 l2 l3
  exact Good.go (fun _ q => st.trans q) (k v T' L X' hQ)
end Chars
end Jvm.OwnKit
namespace Jvm.Pilot.@@N@@
open Jvm Jvm.ClassFile Sem Op Lib Jvm.Free Jvm.Stand Jvm.LawKit Jvm.RoadKit Jvm.OwnKit Jvm.Free.Fl Bundle Jvm.Pilot.@@N@@.Jvm.D
theorem d_kind_0 : decode method_2_code 0 = .ok (.iload_n 0, 1) := by decide +kernel
theorem d_kind_1 : decode method_2_code 1 = .ok (.ifCond .ne 7, 3) := by decide +kernel
theorem d_kind_4 : decode method_2_code 4 = .ok (.getstatic 7, 3) := by decide +kernel
theorem d_kind_7 : decode method_2_code 7 = .ok (.areturn, 1) := by decide +kernel
theorem d_kind_8 : decode method_2_code 8 = .ok (.iload_n 0, 1) := by decide +kernel
theorem d_kind_9 : decode method_2_code 9 = .ok (.iconst 1, 1) := by decide +kernel
theorem d_kind_10 : decode method_2_code 10 = .ok (.if_icmp .ne 7, 3) := by decide +kernel
theorem d_kind_13 : decode method_2_code 13 = .ok (.getstatic 13, 3) := by decide +kernel
theorem d_kind_16 : decode method_2_code 16 = .ok (.areturn, 1) := by decide +kernel
theorem d_kind_17 : decode method_2_code 17 = .ok (.iload_n 0, 1) := by decide +kernel
theorem d_kind_18 : decode method_2_code 18 = .ok (.iconst 2, 1) := by decide +kernel
theorem d_kind_19 : decode method_2_code 19 = .ok (.if_icmp .ne 7, 3) := by decide +kernel
theorem d_kind_22 : decode method_2_code 22 = .ok (.getstatic 16, 3) := by decide +kernel
theorem d_kind_25 : decode method_2_code 25 = .ok (.areturn, 1) := by decide +kernel
theorem d_kind_26 : decode method_2_code 26 = .ok (.iload_n 0, 1) := by decide +kernel
theorem d_kind_27 : decode method_2_code 27 = .ok (.iconst 3, 1) := by decide +kernel
theorem d_kind_28 : decode method_2_code 28 = .ok (.if_icmp .ne 7, 3) := by decide +kernel
theorem d_kind_31 : decode method_2_code 31 = .ok (.getstatic 19, 3) := by decide +kernel
theorem d_kind_34 : decode method_2_code 34 = .ok (.areturn, 1) := by decide +kernel
theorem d_kind_35 : decode method_2_code 35 = .ok (.iload_n 0, 1) := by decide +kernel
theorem d_kind_36 : decode method_2_code 36 = .ok (.iconst 4, 1) := by decide +kernel
theorem d_kind_37 : decode method_2_code 37 = .ok (.if_icmp .ne 7, 3) := by decide +kernel
theorem d_kind_40 : decode method_2_code 40 = .ok (.getstatic 22, 3) := by decide +kernel
theorem d_kind_43 : decode method_2_code 43 = .ok (.areturn, 1) := by decide +kernel
theorem d_kind_44 : decode method_2_code 44 = .ok (.getstatic 25, 3) := by decide +kernel
theorem d_kind_47 : decode method_2_code 47 = .ok (.areturn, 1) := by decide +kernel
theorem d_init_0 : decode prog_41_method_1_code 0 = .ok (.aload_n 0, 1) := by decide +kernel
theorem d_init_1 : decode prog_41_method_1_code 1 = .ok (.invokespecial 1, 3) := by decide +kernel
theorem d_init_4 : decode prog_41_method_1_code 4 = .ok (.aload_n 0, 1) := by decide +kernel
theorem d_init_5 : decode prog_41_method_1_code 5 = .ok (.aload_n 1, 1) := by decide +kernel
theorem d_init_6 : decode prog_41_method_1_code 6 = .ok (.putfield 7, 3) := by decide +kernel
theorem d_init_9 : decode prog_41_method_1_code 9 = .ok (.aload_n 0, 1) := by decide +kernel
theorem d_init_10 : decode prog_41_method_1_code 10 = .ok (.aload_n 2, 1) := by decide +kernel
theorem d_init_11 : decode prog_41_method_1_code 11 = .ok (.putfield 13, 3) := by decide +kernel
theorem d_init_14 : decode prog_41_method_1_code 14 = .ok (.aload_n 0, 1) := by decide +kernel
theorem d_init_15 : decode prog_41_method_1_code 15 = .ok (.iload_n 3, 1) := by decide +kernel
theorem d_init_16 : decode prog_41_method_1_code 16 = .ok (.putfield 17, 3) := by decide +kernel
theorem d_init_19 : decode prog_41_method_1_code 19 = .ok (.return_, 1) := by decide +kernel
theorem d_name_0 : decode prog_41_method_8_code 0 = .ok (.aload_n 0, 1) := by decide +kernel
theorem d_name_1 : decode prog_41_method_8_code 1 = .ok (.getfield 7, 3) := by decide +kernel
theorem d_name_4 : decode prog_41_method_8_code 4 = .ok (.getstatic 27, 3) := by decide +kernel
theorem d_name_7 : decode prog_41_method_8_code 7 = .ok (.if_acmp .eq 13, 3) := by decide +kernel
theorem d_name_10 : decode prog_41_method_8_code 10 = .ok (.aload_n 0, 1) := by decide +kernel
theorem d_name_11 : decode prog_41_method_8_code 11 = .ok (.getfield 7, 3) := by decide +kernel
theorem d_name_14 : decode prog_41_method_8_code 14 = .ok (.getstatic 45, 3) := by decide +kernel
theorem d_name_17 : decode prog_41_method_8_code 17 = .ok (.if_acmp .ne 7, 3) := by decide +kernel
theorem d_name_20 : decode prog_41_method_8_code 20 = .ok (.iconst 1, 1) := by decide +kernel
theorem d_name_21 : decode prog_41_method_8_code 21 = .ok (.goto 4, 3) := by decide +kernel
theorem d_name_24 : decode prog_41_method_8_code 24 = .ok (.iconst 0, 1) := by decide +kernel
theorem d_name_25 : decode prog_41_method_8_code 25 = .ok (.ireturn, 1) := by decide +kernel
theorem pn_t : plainName "com/example/clearance/clearance/sql/Token" = true := by first | (simp [plainName, overriddenIn]; done) | decide +kernel
theorem pn_0 : plainName "com/example/clearance/clearance/sql/TokenIsNamePinLaw" = true := by first | (simp [plainName, overriddenIn]; done) | decide +kernel
theorem own_and255 (x : Int32) : ¬ (x &&& (255 : Int32)) < 0 ∧ ¬ (255 : Int32) < (x &&& (255 : Int32)) := by
  have k1 : (x &&& (255 : Int32)).toBitVec.toNat ≤ 255 := by
    simp only [Int32.toBitVec_and, BitVec.toNat_and]
    exact Nat.and_le_right
  have k2 : 0 ≤ (x &&& (255 : Int32)).toInt := (c_andS x 255).2.2 (by decide)
  have k3 : (x &&& (255 : Int32)).toInt ≤ 255 := by
    have : (x &&& (255 : Int32)).toInt = (x &&& (255 : Int32)).toBitVec.toInt := rfl
    rw [this, BitVec.toInt_eq_toNat_cond]; split <;> omega
  have e0 : (0 : Int32).toInt = 0 := rfl
  have e1 : (255 : Int32).toInt = 255 := rfl
  rw [Int32.lt_iff_toInt_lt, Int32.lt_iff_toInt_lt]
  omega
theorem own_six (k : Int32) : ∃ i : Int32, (k &&& (2147483647 : Int32)) % (6 : Int32) = i ∧ (i = 0 ∨ i = 1 ∨ i = 2 ∨ i = 3 ∨ i = 4 ∨ i = 5) := by
  refine ⟨_, rfl, ?_⟩
  have h0 : 0 ≤ (k &&& (2147483647 : Int32)).toInt := (c_andS k 2147483647).2.2 (by decide)
  have h1 := (c_irem (k &&& (2147483647 : Int32)) 6 6 (by decide)).1 h0
  generalize (k &&& (2147483647 : Int32)) % (6 : Int32) = x at h1
  have e : ∀ j : Int32, x.toInt = j.toInt → x = j := fun j h => Int32.toInt_inj.mp h
  have h2 : x.toInt = 0 ∨ x.toInt = 1 ∨ x.toInt = 2 ∨ x.toInt = 3 ∨ x.toInt = 4 ∨ x.toInt = 5 := by omega
  rcases h2 with h | h | h | h | h | h
  · exact Or.inl (e 0 h)
  · exact Or.inr (Or.inl (e 1 h))
  · exact Or.inr (Or.inr (Or.inl (e 2 h)))
  · exact Or.inr (Or.inr (Or.inr (Or.inl (e 3 h))))
  · exact Or.inr (Or.inr (Or.inr (Or.inr (Or.inl (e 4 h)))))
  · exact Or.inr (Or.inr (Or.inr (Or.inr (Or.inr (e 5 h)))))
theorem pd_0 : parseMethodDescriptor "([C)V" = some ⟨[(.array .char)], none⟩ := by decide +kernel
theorem pd_1 : parseMethodDescriptor "(I)Lcom/example/clearance/clearance/sql/Token$Kind;" = some ⟨[.int], some (.object "com/example/clearance/clearance/sql/Token$Kind")⟩ := by decide +kernel
theorem pd_2 : parseMethodDescriptor "(Lcom/example/clearance/clearance/sql/Token$Kind;Ljava/lang/String;I)V" = some ⟨[(.object "com/example/clearance/clearance/sql/Token$Kind"), (.object "java/lang/String"), .int], none⟩ := by decide +kernel
theorem pd_3 : parseMethodDescriptor "()Z" = some ⟨[], some .boolean⟩ := by decide +kernel
set_option maxRecDepth 65536 in
set_option maxHeartbeats 40000000 in
theorem c_kind0 (l : Launch) (Z : State) (a0 : Array Value) (hw : ∀ d ∈ tables_1, d.before a0 Z = true) (a0 : Addr) (h0 : Heap) (S1 : Sta Z h0 "com/example/clearance/clearance/sql/Token$Kind" "WORD" "Lcom/example/clearance/clearance/sql/Token$Kind;" (.ref a0)) :
    Con l Z (⟨"com/example/clearance/clearance/sql/TokenIsNamePinLaw", "kindOf", "(I)Lcom/example/clearance/clearance/sql/Token$Kind;"⟩ : MethodName) method_2_code 1 (some (.object "com/example/clearance/clearance/sql/Token$Kind")) ({ frames := 0, cells := 0, slots := 0, locals := 0 } : Room) #[.int (0 : Int32)] h0 (fun v h L => v = some (.ref a0) ∧ h = h0 ∧ L = []) := by
  refine Con.body (plainFor_of_name pn_0) ?_
  intro G hG p e s m below meth c T X hx hby hml hown hnm hret hlk hZ e0
  rw [show entryFrame m #[.int (0 : Int32)] 1 = mkF m 0 #[.val (.int (0 : Int32))] [] from by first | (simp [entryFrame, mkF, argsToLocals, Value.category, maxLocals]; done) | rfl]
  refine Good.iloadN X hx (pc' := 1) rfl (hb hby d_kind_0) rfl ?_
  refine Good.ifNo X hx (pc' := 4) rfl (hb hby d_kind_1) rfl ?_
  refine Good.getstatic X hx hZ hown (hw _ (List.mem_of_getElem? (i := 38) rfl)) Via.refl e0 S1 (pc' := 7) rfl (hb hby d_kind_4) fun T1 X1 e1 => ?_
  exact Good.retA X1 hx hlk hret rfl rfl (hb hby d_kind_7) (hG _ _ _ _ _ (⟨rfl, e1, rfl⟩) (by decide) (by decide))
set_option maxRecDepth 65536 in
set_option maxHeartbeats 40000000 in
theorem c_kind1 (l : Launch) (Z : State) (a0 : Array Value) (hw : ∀ d ∈ tables_1, d.before a0 Z = true) (a1 : Addr) (h0 : Heap) (S1 : Sta Z h0 "com/example/clearance/clearance/sql/Token$Kind" "QUOTED_NAME" "Lcom/example/clearance/clearance/sql/Token$Kind;" (.ref a1)) :
    Con l Z (⟨"com/example/clearance/clearance/sql/TokenIsNamePinLaw", "kindOf", "(I)Lcom/example/clearance/clearance/sql/Token$Kind;"⟩ : MethodName) method_2_code 1 (some (.object "com/example/clearance/clearance/sql/Token$Kind")) ({ frames := 0, cells := 0, slots := 0, locals := 0 } : Room) #[.int (1 : Int32)] h0 (fun v h L => v = some (.ref a1) ∧ h = h0 ∧ L = []) := by
  refine Con.body (plainFor_of_name pn_0) ?_
  intro G hG p e s m below meth c T X hx hby hml hown hnm hret hlk hZ e0
  rw [show entryFrame m #[.int (1 : Int32)] 1 = mkF m 0 #[.val (.int (1 : Int32))] [] from by first | (simp [entryFrame, mkF, argsToLocals, Value.category, maxLocals]; done) | rfl]
  refine Good.iloadN X hx (pc' := 1) rfl (hb hby d_kind_0) rfl ?_
  refine Good.ifYes X hx (pc' := 8) (by decide) (hb hby d_kind_1) rfl ?_
  refine Good.iloadN X hx (pc' := 9) rfl (hb hby d_kind_8) rfl ?_
  refine Good.iconst X hx (pc' := 10) (w := (1 : Int32)) rfl (hb hby d_kind_9) rfl ?_
  refine Good.icmpNo X hx (pc' := 13) rfl (hb hby d_kind_10) rfl ?_
  refine Good.getstatic X hx hZ hown (hw _ (List.mem_of_getElem? (i := 57) rfl)) Via.refl e0 S1 (pc' := 16) rfl (hb hby d_kind_13) fun T1 X1 e1 => ?_
  exact Good.retA X1 hx hlk hret rfl rfl (hb hby d_kind_16) (hG _ _ _ _ _ (⟨rfl, e1, rfl⟩) (by decide) (by decide))
set_option maxRecDepth 65536 in
set_option maxHeartbeats 40000000 in
theorem c_kind2 (l : Launch) (Z : State) (a0 : Array Value) (hw : ∀ d ∈ tables_1, d.before a0 Z = true) (a2 : Addr) (h0 : Heap) (S1 : Sta Z h0 "com/example/clearance/clearance/sql/Token$Kind" "STRING" "Lcom/example/clearance/clearance/sql/Token$Kind;" (.ref a2)) :
    Con l Z (⟨"com/example/clearance/clearance/sql/TokenIsNamePinLaw", "kindOf", "(I)Lcom/example/clearance/clearance/sql/Token$Kind;"⟩ : MethodName) method_2_code 1 (some (.object "com/example/clearance/clearance/sql/Token$Kind")) ({ frames := 0, cells := 0, slots := 0, locals := 0 } : Room) #[.int (2 : Int32)] h0 (fun v h L => v = some (.ref a2) ∧ h = h0 ∧ L = []) := by
  refine Con.body (plainFor_of_name pn_0) ?_
  intro G hG p e s m below meth c T X hx hby hml hown hnm hret hlk hZ e0
  rw [show entryFrame m #[.int (2 : Int32)] 1 = mkF m 0 #[.val (.int (2 : Int32))] [] from by first | (simp [entryFrame, mkF, argsToLocals, Value.category, maxLocals]; done) | rfl]
  refine Good.iloadN X hx (pc' := 1) rfl (hb hby d_kind_0) rfl ?_
  refine Good.ifYes X hx (pc' := 8) (by decide) (hb hby d_kind_1) rfl ?_
  refine Good.iloadN X hx (pc' := 9) rfl (hb hby d_kind_8) rfl ?_
  refine Good.iconst X hx (pc' := 10) (w := (1 : Int32)) rfl (hb hby d_kind_9) rfl ?_
  refine Good.icmpYes X hx (pc' := 17) (by decide) (hb hby d_kind_10) rfl ?_
  refine Good.iloadN X hx (pc' := 18) rfl (hb hby d_kind_17) rfl ?_
  refine Good.iconst X hx (pc' := 19) (w := (2 : Int32)) rfl (hb hby d_kind_18) rfl ?_
  refine Good.icmpNo X hx (pc' := 22) rfl (hb hby d_kind_19) rfl ?_
  refine Good.getstatic X hx hZ hown (hw _ (List.mem_of_getElem? (i := 66) rfl)) Via.refl e0 S1 (pc' := 25) rfl (hb hby d_kind_22) fun T1 X1 e1 => ?_
  exact Good.retA X1 hx hlk hret rfl rfl (hb hby d_kind_25) (hG _ _ _ _ _ (⟨rfl, e1, rfl⟩) (by decide) (by decide))
set_option maxRecDepth 65536 in
set_option maxHeartbeats 40000000 in
theorem c_kind3 (l : Launch) (Z : State) (a0 : Array Value) (hw : ∀ d ∈ tables_1, d.before a0 Z = true) (a3 : Addr) (h0 : Heap) (S1 : Sta Z h0 "com/example/clearance/clearance/sql/Token$Kind" "NUMBER" "Lcom/example/clearance/clearance/sql/Token$Kind;" (.ref a3)) :
    Con l Z (⟨"com/example/clearance/clearance/sql/TokenIsNamePinLaw", "kindOf", "(I)Lcom/example/clearance/clearance/sql/Token$Kind;"⟩ : MethodName) method_2_code 1 (some (.object "com/example/clearance/clearance/sql/Token$Kind")) ({ frames := 0, cells := 0, slots := 0, locals := 0 } : Room) #[.int (3 : Int32)] h0 (fun v h L => v = some (.ref a3) ∧ h = h0 ∧ L = []) := by
  refine Con.body (plainFor_of_name pn_0) ?_
  intro G hG p e s m below meth c T X hx hby hml hown hnm hret hlk hZ e0
  rw [show entryFrame m #[.int (3 : Int32)] 1 = mkF m 0 #[.val (.int (3 : Int32))] [] from by first | (simp [entryFrame, mkF, argsToLocals, Value.category, maxLocals]; done) | rfl]
  refine Good.iloadN X hx (pc' := 1) rfl (hb hby d_kind_0) rfl ?_
  refine Good.ifYes X hx (pc' := 8) (by decide) (hb hby d_kind_1) rfl ?_
  refine Good.iloadN X hx (pc' := 9) rfl (hb hby d_kind_8) rfl ?_
  refine Good.iconst X hx (pc' := 10) (w := (1 : Int32)) rfl (hb hby d_kind_9) rfl ?_
  refine Good.icmpYes X hx (pc' := 17) (by decide) (hb hby d_kind_10) rfl ?_
  refine Good.iloadN X hx (pc' := 18) rfl (hb hby d_kind_17) rfl ?_
  refine Good.iconst X hx (pc' := 19) (w := (2 : Int32)) rfl (hb hby d_kind_18) rfl ?_
  refine Good.icmpYes X hx (pc' := 26) (by decide) (hb hby d_kind_19) rfl ?_
  refine Good.iloadN X hx (pc' := 27) rfl (hb hby d_kind_26) rfl ?_
  refine Good.iconst X hx (pc' := 28) (w := (3 : Int32)) rfl (hb hby d_kind_27) rfl ?_
  refine Good.icmpNo X hx (pc' := 31) rfl (hb hby d_kind_28) rfl ?_
  refine Good.getstatic X hx hZ hown (hw _ (List.mem_of_getElem? (i := 62) rfl)) Via.refl e0 S1 (pc' := 34) rfl (hb hby d_kind_31) fun T1 X1 e1 => ?_
  exact Good.retA X1 hx hlk hret rfl rfl (hb hby d_kind_34) (hG _ _ _ _ _ (⟨rfl, e1, rfl⟩) (by decide) (by decide))
set_option maxRecDepth 65536 in
set_option maxHeartbeats 40000000 in
theorem c_kind4 (l : Launch) (Z : State) (a0 : Array Value) (hw : ∀ d ∈ tables_1, d.before a0 Z = true) (a4 : Addr) (h0 : Heap) (S1 : Sta Z h0 "com/example/clearance/clearance/sql/Token$Kind" "SYMBOL" "Lcom/example/clearance/clearance/sql/Token$Kind;" (.ref a4)) :
    Con l Z (⟨"com/example/clearance/clearance/sql/TokenIsNamePinLaw", "kindOf", "(I)Lcom/example/clearance/clearance/sql/Token$Kind;"⟩ : MethodName) method_2_code 1 (some (.object "com/example/clearance/clearance/sql/Token$Kind")) ({ frames := 0, cells := 0, slots := 0, locals := 0 } : Room) #[.int (4 : Int32)] h0 (fun v h L => v = some (.ref a4) ∧ h = h0 ∧ L = []) := by
  refine Con.body (plainFor_of_name pn_0) ?_
  intro G hG p e s m below meth c T X hx hby hml hown hnm hret hlk hZ e0
  rw [show entryFrame m #[.int (4 : Int32)] 1 = mkF m 0 #[.val (.int (4 : Int32))] [] from by first | (simp [entryFrame, mkF, argsToLocals, Value.category, maxLocals]; done) | rfl]
  refine Good.iloadN X hx (pc' := 1) rfl (hb hby d_kind_0) rfl ?_
  refine Good.ifYes X hx (pc' := 8) (by decide) (hb hby d_kind_1) rfl ?_
  refine Good.iloadN X hx (pc' := 9) rfl (hb hby d_kind_8) rfl ?_
  refine Good.iconst X hx (pc' := 10) (w := (1 : Int32)) rfl (hb hby d_kind_9) rfl ?_
  refine Good.icmpYes X hx (pc' := 17) (by decide) (hb hby d_kind_10) rfl ?_
  refine Good.iloadN X hx (pc' := 18) rfl (hb hby d_kind_17) rfl ?_
  refine Good.iconst X hx (pc' := 19) (w := (2 : Int32)) rfl (hb hby d_kind_18) rfl ?_
  refine Good.icmpYes X hx (pc' := 26) (by decide) (hb hby d_kind_19) rfl ?_
  refine Good.iloadN X hx (pc' := 27) rfl (hb hby d_kind_26) rfl ?_
  refine Good.iconst X hx (pc' := 28) (w := (3 : Int32)) rfl (hb hby d_kind_27) rfl ?_
  refine Good.icmpYes X hx (pc' := 35) (by decide) (hb hby d_kind_28) rfl ?_
  refine Good.iloadN X hx (pc' := 36) rfl (hb hby d_kind_35) rfl ?_
  refine Good.iconst X hx (pc' := 37) (w := (4 : Int32)) rfl (hb hby d_kind_36) rfl ?_
  refine Good.icmpNo X hx (pc' := 40) rfl (hb hby d_kind_37) rfl ?_
  refine Good.getstatic X hx hZ hown (hw _ (List.mem_of_getElem? (i := 60) rfl)) Via.refl e0 S1 (pc' := 43) rfl (hb hby d_kind_40) fun T1 X1 e1 => ?_
  exact Good.retA X1 hx hlk hret rfl rfl (hb hby d_kind_43) (hG _ _ _ _ _ (⟨rfl, e1, rfl⟩) (by decide) (by decide))
set_option maxRecDepth 65536 in
set_option maxHeartbeats 40000000 in
theorem c_kind5 (l : Launch) (Z : State) (a0 : Array Value) (hw : ∀ d ∈ tables_1, d.before a0 Z = true) (a5 : Addr) (h0 : Heap) (S1 : Sta Z h0 "com/example/clearance/clearance/sql/Token$Kind" "END" "Lcom/example/clearance/clearance/sql/Token$Kind;" (.ref a5)) :
    Con l Z (⟨"com/example/clearance/clearance/sql/TokenIsNamePinLaw", "kindOf", "(I)Lcom/example/clearance/clearance/sql/Token$Kind;"⟩ : MethodName) method_2_code 1 (some (.object "com/example/clearance/clearance/sql/Token$Kind")) ({ frames := 0, cells := 0, slots := 0, locals := 0 } : Room) #[.int (5 : Int32)] h0 (fun v h L => v = some (.ref a5) ∧ h = h0 ∧ L = []) := by
  refine Con.body (plainFor_of_name pn_0) ?_
  intro G hG p e s m below meth c T X hx hby hml hown hnm hret hlk hZ e0
  rw [show entryFrame m #[.int (5 : Int32)] 1 = mkF m 0 #[.val (.int (5 : Int32))] [] from by first | (simp [entryFrame, mkF, argsToLocals, Value.category, maxLocals]; done) | rfl]
  refine Good.iloadN X hx (pc' := 1) rfl (hb hby d_kind_0) rfl ?_
  refine Good.ifYes X hx (pc' := 8) (by decide) (hb hby d_kind_1) rfl ?_
  refine Good.iloadN X hx (pc' := 9) rfl (hb hby d_kind_8) rfl ?_
  refine Good.iconst X hx (pc' := 10) (w := (1 : Int32)) rfl (hb hby d_kind_9) rfl ?_
  refine Good.icmpYes X hx (pc' := 17) (by decide) (hb hby d_kind_10) rfl ?_
  refine Good.iloadN X hx (pc' := 18) rfl (hb hby d_kind_17) rfl ?_
  refine Good.iconst X hx (pc' := 19) (w := (2 : Int32)) rfl (hb hby d_kind_18) rfl ?_
  refine Good.icmpYes X hx (pc' := 26) (by decide) (hb hby d_kind_19) rfl ?_
  refine Good.iloadN X hx (pc' := 27) rfl (hb hby d_kind_26) rfl ?_
  refine Good.iconst X hx (pc' := 28) (w := (3 : Int32)) rfl (hb hby d_kind_27) rfl ?_
  refine Good.icmpYes X hx (pc' := 35) (by decide) (hb hby d_kind_28) rfl ?_
  refine Good.iloadN X hx (pc' := 36) rfl (hb hby d_kind_35) rfl ?_
  refine Good.iconst X hx (pc' := 37) (w := (4 : Int32)) rfl (hb hby d_kind_36) rfl ?_
  refine Good.icmpYes X hx (pc' := 44) (by decide) (hb hby d_kind_37) rfl ?_
  refine Good.getstatic X hx hZ hown (hw _ (List.mem_of_getElem? (i := 64) rfl)) Via.refl e0 S1 (pc' := 47) rfl (hb hby d_kind_44) fun T1 X1 e1 => ?_
  exact Good.retA X1 hx hlk hret rfl rfl (hb hby d_kind_47) (hG _ _ _ _ _ (⟨rfl, e1, rfl⟩) (by decide) (by decide))
set_option maxRecDepth 65536 in
set_option maxHeartbeats 40000000 in
theorem c_init (l : Launch) (Z : State) (a0 : Array Value) (hw : ∀ d ∈ tables_1, d.before a0 Z = true) (a kk tx : Addr) (st : Int32) (u1 u2 u3 : Value) (h0 : Heap) (n0 : Nat) (Z0 : n0 ≤ h0.size) (Ea : Exa Z h0 a "com/example/clearance/clearance/sql/Token") (F_kind : Fld Z h0 a "com/example/clearance/clearance/sql/Token" "kind" "Lcom/example/clearance/clearance/sql/Token$Kind;" u1) (F_text : Fld Z h0 a "com/example/clearance/clearance/sql/Token" "text" "Ljava/lang/String;" u2) (F_start : Fld Z h0 a "com/example/clearance/clearance/sql/Token" "start" "I" u3) (ga : n0 ≤ a) :
    Con l Z (⟨"com/example/clearance/clearance/sql/Token", "<init>", "(Lcom/example/clearance/clearance/sql/Token$Kind;Ljava/lang/String;I)V"⟩ : MethodName) prog_41_method_1_code 4 none ({ frames := 1, cells := 0, slots := 0, locals := 12 } : Room) #[.ref a, .ref kk, .ref tx, .int st] h0 (fun v h L => v = none ∧ Fr n0 L ∧ Keep h0 h [a] ∧ Exa Z h a "com/example/clearance/clearance/sql/Token" ∧ Fld Z h a "com/example/clearance/clearance/sql/Token" "kind" "Lcom/example/clearance/clearance/sql/Token$Kind;" (.ref kk)) := by
  refine Con.body (plainFor_of_name pn_t) ?_
  intro G hG p e s m below meth c T X hx hby hml hown hnm hret hlk hZ e0
  rw [show entryFrame m #[.ref a, .ref kk, .ref tx, .int st] 4 = mkF m 0 #[.val (.ref a), .val (.ref kk), .val (.ref tx), .val (.int st)] [] from by first | (simp [entryFrame, mkF, argsToLocals, Value.category, maxLocals]; done) | rfl]
  have N0 := Fr.nil n0
  refine Good.aloadN X hx (pc' := 1) rfl (hb hby d_init_0) rfl rfl ?_
  refine Good.initO X hx hZ hown (hw _ (List.mem_of_getElem? (i := 44) rfl)) (hw _ (List.mem_of_getElem? (i := 13) rfl)) (hw _ (List.mem_of_getElem? (i := 14) rfl)) e0 (pc' := 4) rfl (by rw [hml]; rfl) (hb hby d_init_1) (by decide) (W := 0) (Nat.le_of_eq rfl) (by decide) fun T1 X1 e1 => ?_
  refine Good.aloadN X1 hx (pc' := 5) rfl (hb hby d_init_4) rfl rfl ?_
  refine Good.aloadN X1 hx (pc' := 6) rfl (hb hby d_init_5) rfl rfl ?_
  refine Good.putfield X1 hx hZ hown (hw _ (List.mem_of_getElem? (i := 45) rfl)) Via.refl e1 F_kind Ea (Or.inr ⟨(hw _ (List.mem_of_getElem? (i := 46) rfl)), rfl, hnm⟩) (hw _ (List.mem_of_getElem? (i := 32) rfl)) (ty := (.object "com/example/clearance/clearance/sql/Token$Kind")) (by decide) rfl rfl (pc' := 9) rfl (hb hby d_init_6) fun T2 h2 X2 e2 W2 => ?_
  have F_a_text_2 := F_text.other W2 (Or.inr (slot_ne (Or.inr (hw _ (List.mem_of_getElem? (i := 48) rfl))) (Or.inr (hw _ (List.mem_of_getElem? (i := 46) rfl))) (by decide) (t := (.object "java/lang/String")) (t' := (.object "com/example/clearance/clearance/sql/Token$Kind")) (by decide) (by decide)))
  have F_a_start_2 := F_start.other W2 (Or.inr (slot_ne (Or.inr (hw _ (List.mem_of_getElem? (i := 50) rfl))) (Or.inr (hw _ (List.mem_of_getElem? (i := 46) rfl))) (by decide) (t := .int) (t' := (.object "com/example/clearance/clearance/sql/Token$Kind")) (by decide) (by decide)))
  have E_a_2 := Ea.wr W2
  have Z_2 : n0 ≤ h2.size := by rw [W2.size]; exact Z0
  have N_2 := Fr.snoc X2 N0 ga
  have F_a_kind_2 := F_kind.same W2
  refine Good.aloadN X2 hx (pc' := 10) rfl (hb hby d_init_9) rfl rfl ?_
  refine Good.aloadN X2 hx (pc' := 11) rfl (hb hby d_init_10) rfl rfl ?_
  refine Good.putfield X2 hx hZ hown (hw _ (List.mem_of_getElem? (i := 47) rfl)) Via.refl e2 F_a_text_2 E_a_2 (Or.inr ⟨(hw _ (List.mem_of_getElem? (i := 48) rfl)), rfl, hnm⟩) (hw _ (List.mem_of_getElem? (i := 32) rfl)) (ty := (.object "java/lang/String")) (by decide) rfl rfl (pc' := 14) rfl (hb hby d_init_11) fun T3 h3 X3 e3 W3 => ?_
  have F_a_kind_3 := F_a_kind_2.other W3 (Or.inr (slot_ne (Or.inr (hw _ (List.mem_of_getElem? (i := 46) rfl))) (Or.inr (hw _ (List.mem_of_getElem? (i := 48) rfl))) (by decide) (t := (.object "com/example/clearance/clearance/sql/Token$Kind")) (t' := (.object "java/lang/String")) (by decide) (by decide)))
  have F_a_start_3 := F_a_start_2.other W3 (Or.inr (slot_ne (Or.inr (hw _ (List.mem_of_getElem? (i := 50) rfl))) (Or.inr (hw _ (List.mem_of_getElem? (i := 48) rfl))) (by decide) (t := .int) (t' := (.object "java/lang/String")) (by decide) (by decide)))
  have E_a_3 := E_a_2.wr W3
  have Z_3 : n0 ≤ h3.size := by rw [W3.size]; exact Z_2
  have N_3 := Fr.snoc X3 N_2 ga
  have F_a_text_3 := F_a_text_2.same W3
  refine Good.aloadN X3 hx (pc' := 15) rfl (hb hby d_init_14) rfl rfl ?_
  refine Good.iloadN X3 hx (pc' := 16) rfl (hb hby d_init_15) rfl ?_
  refine Good.putfield X3 hx hZ hown (hw _ (List.mem_of_getElem? (i := 49) rfl)) Via.refl e3 F_a_start_3 E_a_3 (Or.inr ⟨(hw _ (List.mem_of_getElem? (i := 50) rfl)), rfl, hnm⟩) (hw _ (List.mem_of_getElem? (i := 32) rfl)) (ty := .int) (by decide) rfl rfl (pc' := 19) rfl (hb hby d_init_16) fun T4 h4 X4 e4 W4 => ?_
  have F_a_kind_4 := F_a_kind_3.other W4 (Or.inr (slot_ne (Or.inr (hw _ (List.mem_of_getElem? (i := 46) rfl))) (Or.inr (hw _ (List.mem_of_getElem? (i := 50) rfl))) (by decide) (t := (.object "com/example/clearance/clearance/sql/Token$Kind")) (t' := .int) (by decide) (by decide)))
  have F_a_text_4 := F_a_text_3.other W4 (Or.inr (slot_ne (Or.inr (hw _ (List.mem_of_getElem? (i := 48) rfl))) (Or.inr (hw _ (List.mem_of_getElem? (i := 50) rfl))) (by decide) (t := (.object "java/lang/String")) (t' := .int) (by decide) (by decide)))
  have E_a_4 := E_a_3.wr W4
  have Z_4 : n0 ≤ h4.size := by rw [W4.size]; exact Z_3
  have N_4 := Fr.snoc X4 N_3 ga
  have F_a_start_4 := F_a_start_3.same W4
  exact Good.ret0 X4 hx hlk hret (hb hby d_init_19) (hG _ _ _ _ _ (by rw [e4]; exact ⟨rfl, N_4, ((((Keep.refl h0 [a]).wr W2 (Or.inl (by simp))).wr W3 (Or.inl (by simp))).wr W4 (Or.inl (by simp))), E_a_4, F_a_kind_4⟩) (by decide) (by decide))
set_option maxRecDepth 65536 in
set_option maxHeartbeats 40000000 in
theorem c_name (l : Launch) (Z : State) (a0 : Array Value) (hw : ∀ d ∈ tables_1, d.before a0 Z = true) (a kk a0' a1 : Addr) (h0 : Heap) (Fk : Fld Z h0 a "com/example/clearance/clearance/sql/Token" "kind" "Lcom/example/clearance/clearance/sql/Token$Kind;" (.ref kk)) (S0 : Sta Z h0 "com/example/clearance/clearance/sql/Token$Kind" "WORD" "Lcom/example/clearance/clearance/sql/Token$Kind;" (.ref a0')) (S1 : Sta Z h0 "com/example/clearance/clearance/sql/Token$Kind" "QUOTED_NAME" "Lcom/example/clearance/clearance/sql/Token$Kind;" (.ref a1)) :
    Con l Z (⟨"com/example/clearance/clearance/sql/Token", "isName", "()Z"⟩ : MethodName) prog_41_method_8_code 1 (some .boolean) ({ frames := 0, cells := 0, slots := 0, locals := 0 } : Room) #[.ref a] h0 (fun v h L => v = some (.int (if kk = a0' ∨ kk = a1 then 1 else 0)) ∧ h = h0 ∧ L = []) := by
  refine Con.body (plainFor_of_name pn_t) ?_
  intro G hG p e s m below meth c T X hx hby hml hown hnm hret hlk hZ e0
  rw [show entryFrame m #[.ref a] 1 = mkF m 0 #[.val (.ref a)] [] from by first | (simp [entryFrame, mkF, argsToLocals, Value.category, maxLocals]; done) | rfl]
  refine Good.aloadN X hx (pc' := 1) rfl (hb hby d_name_0) rfl rfl ?_
  refine Good.getfield X hx hZ hown (hw _ (List.mem_of_getElem? (i := 45) rfl)) Via.refl e0 Fk (pc' := 4) rfl (hb hby d_name_1) fun T1 X1 e1 => ?_
  refine Good.getstatic X1 hx hZ hown (hw _ (List.mem_of_getElem? (i := 56) rfl)) Via.refl e1 S0 (pc' := 7) rfl (hb hby d_name_4) fun T2 X2 e2 => ?_
  by_cases q0 : kk = a0'
  · refine Good.acmpYes X2 hx (pc' := 20) (by decide) (hb hby d_name_7) rfl rfl (by simp [XT.acmp, q0]) ?_
    refine Good.iconst X2 hx (pc' := 21) (w := (1 : Int32)) rfl (hb hby d_name_20) rfl ?_
    refine Good.goto X2 hx (pc' := 25) (by decide) (hb hby d_name_21) ?_
    exact Good.retZ X2 hx hlk hret (hb hby d_name_25) (Or.inr rfl) (hG _ _ _ _ _ (⟨by rw [if_pos (Or.inl q0)], e2, rfl⟩) (by decide) (by decide))
  · refine Good.acmpNo X2 hx (pc' := 10) rfl (hb hby d_name_7) rfl rfl (by simp [XT.acmp, q0]) ?_
    refine Good.aloadN X2 hx (pc' := 11) rfl (hb hby d_name_10) rfl rfl ?_
    refine Good.getfield X2 hx hZ hown (hw _ (List.mem_of_getElem? (i := 45) rfl)) Via.refl e2 Fk (pc' := 14) rfl (hb hby d_name_11) fun T3 X3 e3 => ?_
    refine Good.getstatic X3 hx hZ hown (hw _ (List.mem_of_getElem? (i := 59) rfl)) Via.refl e3 S1 (pc' := 17) rfl (hb hby d_name_14) fun T4 X4 e4 => ?_
    by_cases q1 : kk = a1
    · refine Good.acmpNo X4 hx (pc' := 20) rfl (hb hby d_name_17) rfl rfl (by simp [XT.acmp, q1]) ?_
      refine Good.iconst X4 hx (pc' := 21) (w := (1 : Int32)) rfl (hb hby d_name_20) rfl ?_
      refine Good.goto X4 hx (pc' := 25) (by decide) (hb hby d_name_21) ?_
      exact Good.retZ X4 hx hlk hret (hb hby d_name_25) (Or.inr rfl) (hG _ _ _ _ _ (⟨by rw [if_pos (Or.inr q1)], e4, rfl⟩) (by decide) (by decide))
    · refine Good.acmpYes X4 hx (pc' := 24) (by decide) (hb hby d_name_17) rfl rfl (by simp [XT.acmp, q1]) ?_
      refine Good.iconst X4 hx (pc' := 25) (w := (0 : Int32)) rfl (hb hby d_name_24) rfl ?_
      exact Good.retZ X4 hx hlk hret (hb hby d_name_25) (Or.inl rfl) (hG _ _ _ _ _ (⟨by rw [if_neg (fun q => q.elim q0 q1)], e4, rfl⟩) (by decide) (by decide))
set_option maxRecDepth 65536 in
set_option maxHeartbeats 40000000 in
theorem c_law (l : Launch) (Z : State) (a0 : Array Value) (hw : ∀ d ∈ tables_1, d.before a0 Z = true) (k x0 x1 st : Int32) (a0_ a1 a2 a3 a4 a5 : Addr) (G1 : Int32) (h0 : Heap) (n0 : Nat) (Z0 : n0 ≤ h0.size) (X00 : Old Z n0 h0) (SC : Sta Z Z.heap "java/lang/String" "COMPACT_STRINGS" "Z" (.int G1)) (hC : ¬ G1 = 0) (S0 : Sta Z Z.heap "com/example/clearance/clearance/sql/Token$Kind" "WORD" "Lcom/example/clearance/clearance/sql/Token$Kind;" (.ref a0_)) (S1 : Sta Z Z.heap "com/example/clearance/clearance/sql/Token$Kind" "QUOTED_NAME" "Lcom/example/clearance/clearance/sql/Token$Kind;" (.ref a1)) (S2 : Sta Z Z.heap "com/example/clearance/clearance/sql/Token$Kind" "STRING" "Lcom/example/clearance/clearance/sql/Token$Kind;" (.ref a2)) (S3 : Sta Z Z.heap "com/example/clearance/clearance/sql/Token$Kind" "NUMBER" "Lcom/example/clearance/clearance/sql/Token$Kind;" (.ref a3)) (S4 : Sta Z Z.heap "com/example/clearance/clearance/sql/Token$Kind" "SYMBOL" "Lcom/example/clearance/clearance/sql/Token$Kind;" (.ref a4)) (S5 : Sta Z Z.heap "com/example/clearance/clearance/sql/Token$Kind" "END" "Lcom/example/clearance/clearance/sql/Token$Kind;" (.ref a5)) (ne20 : ¬ a2 = a0_) (ne21 : ¬ a2 = a1) (ne30 : ¬ a3 = a0_) (ne31 : ¬ a3 = a1) (ne40 : ¬ a4 = a0_) (ne41 : ¬ a4 = a1) (ne50 : ¬ a5 = a0_) (ne51 : ¬ a5 = a1) :
    Con l Z x code maxLocals ret room_1 #[.int k, .int x0, .int x1, .int st] h0 (fun v h L => v = some (.int 1) ∧ Fr n0 L) := by
  refine Con.body (plainFor_of_name pn_0) ?_
  intro G hG p e s m below meth c T X hx hby hml hown hnm hret hlk hZ e0
  rw [show entryFrame m #[.int k, .int x0, .int x1, .int st] maxLocals = mkF m 0 #[.val (.int k), .val (.int x0), .val (.int x1), .val (.int st), .unset, .unset, .unset, .unset, .unset] [] from by first | (simp [entryFrame, mkF, argsToLocals, Value.category, maxLocals]; done) | rfl]
  have N0 := Fr.nil n0
  obtain ⟨i, hi, hi6⟩ := own_six k
  refine Good.iloadN X hx (pc' := 1) rfl (hb hby at_0) rfl ?_
  refine Good.ldcI X hx hZ hown (hw _ (List.mem_of_getElem? (i := 0) rfl)) (pc' := 3) rfl (hb hby at_1) ?_
  refine Good.iand X hx (pc' := 4) rfl (hb hby at_3) ?_
  refine Good.bipush X hx (pc' := 6) (w := (6 : Int32)) rfl (hb hby at_4) rfl ?_
  refine Good.irem X hx (pc' := 7) rfl (hb hby at_6) (by decide) ?_
  rw [hi]
  refine Good.istore X hx (pc' := 9) (Ls' := #[.val (.int k), .val (.int x0), .val (.int x1), .val (.int st), .val (.int i), .unset, .unset, .unset, .unset]) rfl (hb hby at_7) rfl ?_
  refine Good.iconst X hx (pc' := 10) (w := (2 : Int32)) rfl (hb hby at_9) rfl ?_
  refine Good.newarray X hx hZ (hw _ (List.mem_of_getElem? (i := 1) rfl)) e0 (pc' := 12) rfl (hb hby at_10) (by decide) (cap := 2) (by decide) (by decide) (by decide) (by decide) fun T1 h1 k1 b1 g1 X1 e1 E1 A1 => ?_
  have ge_b1 : n0 ≤ b1 := by rw [g1]; exact Z0
  have Z_1 := Nat.le_trans Z0 E1.1
  have V_b1 : Arv Z h1 b1 k1 .char (2 : Int32) [] (.int (0 : Int32)) := Arv.new A1 (by decide)
  have V2_b1 := V_b1.pad (pad_rep [] (.int (0 : Int32)) 2)
  refine Good.dup X1 hx (pc' := 13) rfl (hb hby at_12) rfl ?_
  refine Good.iconst X1 hx (pc' := 14) (w := (0 : Int32)) rfl (hb hby at_13) rfl ?_
  refine Good.iloadN X1 hx (pc' := 15) rfl (hb hby at_14) rfl ?_
  refine Good.sipush X1 hx (pc' := 18) (w := (255 : Int32)) rfl (hb hby at_15) rfl ?_
  refine Good.iand X1 hx (pc' := 19) rfl (hb hby at_18) ?_
  refine Good.i2c X1 hx (pc' := 20) rfl (hb hby at_19) ?_
  refine Good.castoreV X1 hx hZ e1 V2_b1 0 rfl (by decide) (by simp) (pc' := 21) rfl (hb hby at_20) fun T2 h2 X2 e2 W2 V2 => ?_
  have Z_2 : n0 ≤ h2.size := by rw [W2.size]; exact Z_1
  have N_2 := Fr.snoc X2 N0 ge_b1
  refine Good.dup X2 hx (pc' := 22) rfl (hb hby at_21) rfl ?_
  refine Good.iconst X2 hx (pc' := 23) (w := (1 : Int32)) rfl (hb hby at_22) rfl ?_
  refine Good.iloadN X2 hx (pc' := 24) rfl (hb hby at_23) rfl ?_
  refine Good.sipush X2 hx (pc' := 27) (w := (255 : Int32)) rfl (hb hby at_24) rfl ?_
  refine Good.iand X2 hx (pc' := 28) rfl (hb hby at_27) ?_
  refine Good.i2c X2 hx (pc' := 29) rfl (hb hby at_28) ?_
  refine Good.castoreV X2 hx hZ e2 V2 1 rfl (by decide) (by simp) (pc' := 30) rfl (hb hby at_29) fun T3 h3 X3 e3 W3 V3 => ?_
  have Z_3 : n0 ≤ h3.size := by rw [W3.size]; exact Z_2
  have N_3 := Fr.snoc X3 N_2 ge_b1
  have VC : Arv Z h3 b1 _ .char (2 : Int32) ([nar .char ((x0 &&& (255 : Int32))).toUInt32.toUInt16.toUInt32.toInt32, nar .char ((x1 &&& (255 : Int32))).toUInt32.toUInt16.toUInt32.toInt32].map Value.int) (.int (0 : Int32)) := V3
  have O1 : Old Z n0 h3 := (((X00.ext E1).wr W2 ge_b1).wr W3 ge_b1)
  refine Good.astore X3 hx (pc' := 32) (Ls' := #[.val (.int k), .val (.int x0), .val (.int x1), .val (.int st), .val (.int i), .val (.ref b1), .unset, .unset, .unset]) rfl (hb hby at_30) rfl rfl ?_
  have ltc : b1 < h3.size := VC.lt
  refine Good.new X3 hx hZ hown (hw _ (List.mem_of_getElem? (i := 2) rfl)) (hw _ (List.mem_of_getElem? (i := 3) rfl)) (hw _ (List.mem_of_getElem? (i := 4) rfl)) e3 (pc' := 35) rfl (hb hby at_32) (by decide) (by decide) fun T4 h4 b4 g4 X4 e4 E4 A4 D4 => ?_
  have ge_b4 : n0 ≤ b4 := by rw [g4]; exact Z_3
  have Z_4 := Nat.le_trans Z_3 E4.1
  have F0_coder_b4 := D4 (O := "java/lang/String") (nm := "coder") (d := "B") (Or.inr (hw _ (List.mem_of_getElem? (i := 28) rfl))) (ty := .byte) (by decide)
  have F0_value_b4 := D4 (O := "java/lang/String") (nm := "value") (d := "[B") (Or.inr (hw _ (List.mem_of_getElem? (i := 30) rfl))) (ty := (.array .byte)) (by decide)
  have ne_c : b1 ≠ b4 := by rw [g4]; exact Nat.ne_of_lt ltc
  have VC2 := VC.ext E4
  have O2 := O1.ext E4
  refine Good.dup X4 hx (pc' := 36) rfl (hb hby at_35) rfl ?_
  refine Good.aload X4 hx (pc' := 38) rfl (hb hby at_36) rfl rfl ?_
  have hws : ∀ d ∈ StrChars.Road.words, d.before a0 Z = true := fun d hd => hw d ((by decide +kernel : ∀ d ∈ StrChars.Road.words, d ∈ tables_1) d hd)
  have hlat : ∀ c ∈ [nar .char ((x0 &&& (255 : Int32))).toUInt32.toUInt16.toUInt32.toInt32, nar .char ((x1 &&& (255 : Int32))).toUInt32.toUInt16.toUInt32.toInt32], ¬ c < 0 ∧ ¬ (255 : Int32) < c := by
    intro c hc
    simp only [List.mem_cons, List.not_mem_nil, or_false] at hc
    rcases hc with rfl | rfl
    · rw [show nar .char ((x0 &&& (255 : Int32))).toUInt32.toUInt16.toUInt32.toInt32 = x0 &&& 255 from by simp only [nar, i2c_mask]]; exact own_and255 x0
    · rw [show nar .char ((x1 &&& (255 : Int32))).toUInt32.toUInt16.toUInt32.toInt32 = x1 &&& 255 from by simp only [nar, i2c_mask]]; exact own_and255 x1
  refine Good.callNB X4 hx hZ (y := ⟨"java/lang/String", "<init>", "([C)V"⟩) rfl hown (hw _ (List.mem_of_getElem? (i := 5) rfl)) (hw _ (List.mem_of_getElem? (i := 6) rfl)) (hw _ (List.mem_of_getElem? (i := 7) rfl)) (by decide) e4 (a := b4) (argsL := [(.ref b1)]) (rest := [(.ref b4)]) (W := 1) (StrChars.Road.backV (W := 1) hZ hws (kI := 4) (hw _ (List.mem_of_getElem? (i := 3) rfl)) (cs := [nar .char ((x0 &&& (255 : Int32))).toUInt32.toUInt16.toUInt32.toInt32, nar .char ((x1 &&& (255 : Int32))).toUInt32.toUInt16.toUInt32.toInt32]) (bs := [(nar .char ((x0 &&& (255 : Int32))).toUInt32.toUInt16.toUInt32.toInt32).toInt8.toInt32, (nar .char ((x1 &&& (255 : Int32))).toUInt32.toUInt16.toUInt32.toInt32).toInt8.toInt32]) (n := 2) ge_b4 Z_4 A4 F0_value_b4 F0_coder_b4 VC2 (SC.ext O2.2) hC rfl rfl (by decide) (by decide) hlat rfl (by decide) (by decide)) (hdesc := pd_0) rfl (pc' := 41) rfl (by rw [hml]; rfl) rfl (hb hby at_38) (Nat.le_of_eq rfl) (by decide) (by decide) fun v5 T5 L5 X5 Q5 => ?_
  obtain ⟨rfl, Nv, Kv, Ev, -⟩ := Q5
  have Z_5 := Nat.le_trans Z_4 Kv.1
  have N_5 := Fr.app N_3 Nv
  have O3 := O2.keep Kv (allS ge_b4 all0)
  refine Good.astore X5 hx (pc' := 43) (Ls' := #[.val (.int k), .val (.int x0), .val (.int x1), .val (.int st), .val (.int i), .val (.ref b1), .val (.ref b4), .unset, .unset]) rfl (hb hby at_41) rfl rfl ?_
  refine Good.new X5 hx hZ hown (hw _ (List.mem_of_getElem? (i := 31) rfl)) (hw _ (List.mem_of_getElem? (i := 32) rfl)) (hw _ (List.mem_of_getElem? (i := 33) rfl)) rfl (pc' := 46) rfl (hb hby at_43) (by decide) (by decide) fun T6 h6 b6 g6 X6 e6 E6 A6 D6 => ?_
  have ge_b6 : n0 ≤ b6 := by rw [g6]; exact Z_5
  have Z_6 := Nat.le_trans Z_5 E6.1
  have F0_kind_b6 := D6 (O := "com/example/clearance/clearance/sql/Token") (nm := "kind") (d := "Lcom/example/clearance/clearance/sql/Token$Kind;") (Or.inr (hw _ (List.mem_of_getElem? (i := 46) rfl))) (ty := (.object "com/example/clearance/clearance/sql/Token$Kind")) (by decide)
  have F0_text_b6 := D6 (O := "com/example/clearance/clearance/sql/Token") (nm := "text") (d := "Ljava/lang/String;") (Or.inr (hw _ (List.mem_of_getElem? (i := 48) rfl))) (ty := (.object "java/lang/String")) (by decide)
  have F0_start_b6 := D6 (O := "com/example/clearance/clearance/sql/Token") (nm := "start") (d := "I") (Or.inr (hw _ (List.mem_of_getElem? (i := 50) rfl))) (ty := .int) (by decide)
  have O4 := O3.ext E6
  refine Good.dup X6 hx (pc' := 47) rfl (hb hby at_46) rfl ?_
  refine Good.iload X6 hx (pc' := 49) rfl (hb hby at_47) rfl ?_
  rcases hi6 with rfl | rfl | rfl | rfl | rfl | rfl
  · refine Good.callS X6 hx hZ (y := ⟨"com/example/clearance/clearance/sql/TokenIsNamePinLaw", "kindOf", "(I)Lcom/example/clearance/clearance/sql/Token$Kind;"⟩) hown (hw _ (List.mem_of_getElem? (i := 34) rfl)) (hw _ (List.mem_of_getElem? (i := 35) rfl)) (hw _ (List.mem_of_getElem? (i := 36) rfl)) (hw _ (List.mem_of_getElem? (i := 37) rfl)) (by decide) e6 (argsL := [(.int (0 : Int32))]) (rest := [(.ref b6), (.ref b6)]) (c_kind0 l Z a0 hw a0_ h6 (S0.ext O4.2)) (hdesc := pd_1) rfl (pc' := 52) rfl (by rw [hml]; rfl) rfl (hb hby at_49) (W := 2) (Nat.le_of_eq rfl) (by decide) (by decide) (by decide) (by decide) fun v7 T7 L7 X7 Q7 => ?_
    obtain ⟨rfl, hh1, rfl⟩ := Q7
    rw [List.append_nil] at X7
    refine Good.aload X7 hx (pc' := 54) rfl (hb hby at_52) rfl rfl ?_
    refine Good.iloadN X7 hx (pc' := 55) rfl (hb hby at_54) rfl ?_
    refine Good.callN X7 hx hZ (y := ⟨"com/example/clearance/clearance/sql/Token", "<init>", "(Lcom/example/clearance/clearance/sql/Token$Kind;Ljava/lang/String;I)V"⟩) rfl hown (hw _ (List.mem_of_getElem? (i := 41) rfl)) (hw _ (List.mem_of_getElem? (i := 42) rfl)) (hw _ (List.mem_of_getElem? (i := 33) rfl)) (hw _ (List.mem_of_getElem? (i := 43) rfl)) (by decide) hh1 (a := b6) (argsL := [(.ref a0_), (.ref b4), (.int st)]) (rest := [(.ref b6)]) (c_init l Z a0 hw b6 a0_ b4 st _ _ _ h6 n0 Z_6 A6 F0_kind_b6 F0_text_b6 F0_start_b6 ge_b6) (hdesc := pd_2) rfl (pc' := 58) rfl (by rw [hml]; rfl) rfl (hb hby at_55) (W := 1) (Nat.le_of_eq rfl) (by decide) (by decide) (by decide) (by decide) fun v8 T8 L8 X8 Q8 => ?_
    obtain ⟨rfl, Nq, Kq, Eq, Fq⟩ := Q8
    have E_b6_8 := A6.keep Kq
    have Z_8 := Nat.le_trans Z_6 Kq.1
    have N_8 := Fr.app N_5 Nq
    have O5 := O4.keep Kq (allS ge_b6 all0)
    refine Good.astore X8 hx (pc' := 60) (Ls' := #[.val (.int k), .val (.int x0), .val (.int x1), .val (.int st), .val (.int (0 : Int32)), .val (.ref b1), .val (.ref b4), .val (.ref b6), .unset]) rfl (hb hby at_58) rfl rfl ?_
    refine Good.iload X8 hx (pc' := 62) rfl (hb hby at_60) rfl ?_
    refine Good.ifYes X8 hx (pc' := 71) (by decide) (hb hby at_62) rfl ?_
    refine Good.iconst X8 hx (pc' := 72) (w := (1 : Int32)) rfl (hb hby at_71) rfl ?_
    refine Good.goto X8 hx (pc' := 76) (by decide) (hb hby at_72) ?_
    refine Good.istore X8 hx (pc' := 78) (Ls' := #[.val (.int k), .val (.int x0), .val (.int x1), .val (.int st), .val (.int (0 : Int32)), .val (.ref b1), .val (.ref b4), .val (.ref b6), .val (.int (1 : Int32))]) rfl (hb hby at_76) rfl ?_
    refine Good.aload X8 hx (pc' := 80) rfl (hb hby at_78) rfl rfl ?_
    refine Good.callV X8 hx hZ (y := ⟨"com/example/clearance/clearance/sql/Token", "isName", "()Z"⟩) hown (hw _ (List.mem_of_getElem? (i := 51) rfl)) (hw _ (List.mem_of_getElem? (i := 52) rfl)) (hw _ (List.mem_of_getElem? (i := 54) rfl)) (hw _ (List.mem_of_getElem? (i := 53) rfl)) (hw _ (List.mem_of_getElem? (i := 33) rfl)) (hw _ (List.mem_of_getElem? (i := 55) rfl)) (by decide) rfl Eq (argsL := []) (rest := []) (c_name l Z a0 hw b6 a0_ a0_ a1 T8.heap Fq (S0.ext O5.2) (S1.ext O5.2)) (hdesc := pd_3) rfl (pc' := 83) rfl (by rw [hml]; rfl) rfl (hb hby at_80) (W := 0) (Nat.le_of_eq rfl) (by decide) (by decide) (by decide) (by decide) fun v9 T9 L9 X9 Q9 => ?_
    obtain ⟨rfl, hh2, rfl⟩ := Q9
    rw [List.append_nil] at X9
    rw [if_pos (by simp)]
    refine Good.iload X9 hx (pc' := 85) rfl (hb hby at_83) rfl ?_
    refine Good.icmpNo X9 hx (pc' := 88) rfl (hb hby at_85) rfl ?_
    refine Good.iconst X9 hx (pc' := 89) (w := (1 : Int32)) rfl (hb hby at_88) rfl ?_
    refine Good.goto X9 hx (pc' := 93) (by decide) (hb hby at_89) ?_
    exact Good.retZ X9 hx hlk hret (hb hby at_93) (Or.inr rfl) (hG _ _ _ _ _ (⟨rfl, N_8⟩) (by decide) (by decide))
  · refine Good.callS X6 hx hZ (y := ⟨"com/example/clearance/clearance/sql/TokenIsNamePinLaw", "kindOf", "(I)Lcom/example/clearance/clearance/sql/Token$Kind;"⟩) hown (hw _ (List.mem_of_getElem? (i := 34) rfl)) (hw _ (List.mem_of_getElem? (i := 35) rfl)) (hw _ (List.mem_of_getElem? (i := 36) rfl)) (hw _ (List.mem_of_getElem? (i := 37) rfl)) (by decide) e6 (argsL := [(.int (1 : Int32))]) (rest := [(.ref b6), (.ref b6)]) (c_kind1 l Z a0 hw a1 h6 (S1.ext O4.2)) (hdesc := pd_1) rfl (pc' := 52) rfl (by rw [hml]; rfl) rfl (hb hby at_49) (W := 2) (Nat.le_of_eq rfl) (by decide) (by decide) (by decide) (by decide) fun v7 T7 L7 X7 Q7 => ?_
    obtain ⟨rfl, hh1, rfl⟩ := Q7
    rw [List.append_nil] at X7
    refine Good.aload X7 hx (pc' := 54) rfl (hb hby at_52) rfl rfl ?_
    refine Good.iloadN X7 hx (pc' := 55) rfl (hb hby at_54) rfl ?_
    refine Good.callN X7 hx hZ (y := ⟨"com/example/clearance/clearance/sql/Token", "<init>", "(Lcom/example/clearance/clearance/sql/Token$Kind;Ljava/lang/String;I)V"⟩) rfl hown (hw _ (List.mem_of_getElem? (i := 41) rfl)) (hw _ (List.mem_of_getElem? (i := 42) rfl)) (hw _ (List.mem_of_getElem? (i := 33) rfl)) (hw _ (List.mem_of_getElem? (i := 43) rfl)) (by decide) hh1 (a := b6) (argsL := [(.ref a1), (.ref b4), (.int st)]) (rest := [(.ref b6)]) (c_init l Z a0 hw b6 a1 b4 st _ _ _ h6 n0 Z_6 A6 F0_kind_b6 F0_text_b6 F0_start_b6 ge_b6) (hdesc := pd_2) rfl (pc' := 58) rfl (by rw [hml]; rfl) rfl (hb hby at_55) (W := 1) (Nat.le_of_eq rfl) (by decide) (by decide) (by decide) (by decide) fun v8 T8 L8 X8 Q8 => ?_
    obtain ⟨rfl, Nq, Kq, Eq, Fq⟩ := Q8
    have E_b6_8 := A6.keep Kq
    have Z_8 := Nat.le_trans Z_6 Kq.1
    have N_8 := Fr.app N_5 Nq
    have O5 := O4.keep Kq (allS ge_b6 all0)
    refine Good.astore X8 hx (pc' := 60) (Ls' := #[.val (.int k), .val (.int x0), .val (.int x1), .val (.int st), .val (.int (1 : Int32)), .val (.ref b1), .val (.ref b4), .val (.ref b6), .unset]) rfl (hb hby at_58) rfl rfl ?_
    refine Good.iload X8 hx (pc' := 62) rfl (hb hby at_60) rfl ?_
    refine Good.ifNo X8 hx (pc' := 65) rfl (hb hby at_62) rfl ?_
    refine Good.iload X8 hx (pc' := 67) rfl (hb hby at_65) rfl ?_
    refine Good.iconst X8 hx (pc' := 68) (w := (1 : Int32)) rfl (hb hby at_67) rfl ?_
    refine Good.icmpNo X8 hx (pc' := 71) rfl (hb hby at_68) rfl ?_
    refine Good.iconst X8 hx (pc' := 72) (w := (1 : Int32)) rfl (hb hby at_71) rfl ?_
    refine Good.goto X8 hx (pc' := 76) (by decide) (hb hby at_72) ?_
    refine Good.istore X8 hx (pc' := 78) (Ls' := #[.val (.int k), .val (.int x0), .val (.int x1), .val (.int st), .val (.int (1 : Int32)), .val (.ref b1), .val (.ref b4), .val (.ref b6), .val (.int (1 : Int32))]) rfl (hb hby at_76) rfl ?_
    refine Good.aload X8 hx (pc' := 80) rfl (hb hby at_78) rfl rfl ?_
    refine Good.callV X8 hx hZ (y := ⟨"com/example/clearance/clearance/sql/Token", "isName", "()Z"⟩) hown (hw _ (List.mem_of_getElem? (i := 51) rfl)) (hw _ (List.mem_of_getElem? (i := 52) rfl)) (hw _ (List.mem_of_getElem? (i := 54) rfl)) (hw _ (List.mem_of_getElem? (i := 53) rfl)) (hw _ (List.mem_of_getElem? (i := 33) rfl)) (hw _ (List.mem_of_getElem? (i := 55) rfl)) (by decide) rfl Eq (argsL := []) (rest := []) (c_name l Z a0 hw b6 a1 a0_ a1 T8.heap Fq (S0.ext O5.2) (S1.ext O5.2)) (hdesc := pd_3) rfl (pc' := 83) rfl (by rw [hml]; rfl) rfl (hb hby at_80) (W := 0) (Nat.le_of_eq rfl) (by decide) (by decide) (by decide) (by decide) fun v9 T9 L9 X9 Q9 => ?_
    obtain ⟨rfl, hh2, rfl⟩ := Q9
    rw [List.append_nil] at X9
    rw [if_pos (by simp)]
    refine Good.iload X9 hx (pc' := 85) rfl (hb hby at_83) rfl ?_
    refine Good.icmpNo X9 hx (pc' := 88) rfl (hb hby at_85) rfl ?_
    refine Good.iconst X9 hx (pc' := 89) (w := (1 : Int32)) rfl (hb hby at_88) rfl ?_
    refine Good.goto X9 hx (pc' := 93) (by decide) (hb hby at_89) ?_
    exact Good.retZ X9 hx hlk hret (hb hby at_93) (Or.inr rfl) (hG _ _ _ _ _ (⟨rfl, N_8⟩) (by decide) (by decide))
  · refine Good.callS X6 hx hZ (y := ⟨"com/example/clearance/clearance/sql/TokenIsNamePinLaw", "kindOf", "(I)Lcom/example/clearance/clearance/sql/Token$Kind;"⟩) hown (hw _ (List.mem_of_getElem? (i := 34) rfl)) (hw _ (List.mem_of_getElem? (i := 35) rfl)) (hw _ (List.mem_of_getElem? (i := 36) rfl)) (hw _ (List.mem_of_getElem? (i := 37) rfl)) (by decide) e6 (argsL := [(.int (2 : Int32))]) (rest := [(.ref b6), (.ref b6)]) (c_kind2 l Z a0 hw a2 h6 (S2.ext O4.2)) (hdesc := pd_1) rfl (pc' := 52) rfl (by rw [hml]; rfl) rfl (hb hby at_49) (W := 2) (Nat.le_of_eq rfl) (by decide) (by decide) (by decide) (by decide) fun v7 T7 L7 X7 Q7 => ?_
    obtain ⟨rfl, hh1, rfl⟩ := Q7
    rw [List.append_nil] at X7
    refine Good.aload X7 hx (pc' := 54) rfl (hb hby at_52) rfl rfl ?_
    refine Good.iloadN X7 hx (pc' := 55) rfl (hb hby at_54) rfl ?_
    refine Good.callN X7 hx hZ (y := ⟨"com/example/clearance/clearance/sql/Token", "<init>", "(Lcom/example/clearance/clearance/sql/Token$Kind;Ljava/lang/String;I)V"⟩) rfl hown (hw _ (List.mem_of_getElem? (i := 41) rfl)) (hw _ (List.mem_of_getElem? (i := 42) rfl)) (hw _ (List.mem_of_getElem? (i := 33) rfl)) (hw _ (List.mem_of_getElem? (i := 43) rfl)) (by decide) hh1 (a := b6) (argsL := [(.ref a2), (.ref b4), (.int st)]) (rest := [(.ref b6)]) (c_init l Z a0 hw b6 a2 b4 st _ _ _ h6 n0 Z_6 A6 F0_kind_b6 F0_text_b6 F0_start_b6 ge_b6) (hdesc := pd_2) rfl (pc' := 58) rfl (by rw [hml]; rfl) rfl (hb hby at_55) (W := 1) (Nat.le_of_eq rfl) (by decide) (by decide) (by decide) (by decide) fun v8 T8 L8 X8 Q8 => ?_
    obtain ⟨rfl, Nq, Kq, Eq, Fq⟩ := Q8
    have E_b6_8 := A6.keep Kq
    have Z_8 := Nat.le_trans Z_6 Kq.1
    have N_8 := Fr.app N_5 Nq
    have O5 := O4.keep Kq (allS ge_b6 all0)
    refine Good.astore X8 hx (pc' := 60) (Ls' := #[.val (.int k), .val (.int x0), .val (.int x1), .val (.int st), .val (.int (2 : Int32)), .val (.ref b1), .val (.ref b4), .val (.ref b6), .unset]) rfl (hb hby at_58) rfl rfl ?_
    refine Good.iload X8 hx (pc' := 62) rfl (hb hby at_60) rfl ?_
    refine Good.ifNo X8 hx (pc' := 65) rfl (hb hby at_62) rfl ?_
    refine Good.iload X8 hx (pc' := 67) rfl (hb hby at_65) rfl ?_
    refine Good.iconst X8 hx (pc' := 68) (w := (1 : Int32)) rfl (hb hby at_67) rfl ?_
    refine Good.icmpYes X8 hx (pc' := 75) (by decide) (hb hby at_68) rfl ?_
    refine Good.iconst X8 hx (pc' := 76) (w := (0 : Int32)) rfl (hb hby at_75) rfl ?_
    refine Good.istore X8 hx (pc' := 78) (Ls' := #[.val (.int k), .val (.int x0), .val (.int x1), .val (.int st), .val (.int (2 : Int32)), .val (.ref b1), .val (.ref b4), .val (.ref b6), .val (.int (0 : Int32))]) rfl (hb hby at_76) rfl ?_
    refine Good.aload X8 hx (pc' := 80) rfl (hb hby at_78) rfl rfl ?_
    refine Good.callV X8 hx hZ (y := ⟨"com/example/clearance/clearance/sql/Token", "isName", "()Z"⟩) hown (hw _ (List.mem_of_getElem? (i := 51) rfl)) (hw _ (List.mem_of_getElem? (i := 52) rfl)) (hw _ (List.mem_of_getElem? (i := 54) rfl)) (hw _ (List.mem_of_getElem? (i := 53) rfl)) (hw _ (List.mem_of_getElem? (i := 33) rfl)) (hw _ (List.mem_of_getElem? (i := 55) rfl)) (by decide) rfl Eq (argsL := []) (rest := []) (c_name l Z a0 hw b6 a2 a0_ a1 T8.heap Fq (S0.ext O5.2) (S1.ext O5.2)) (hdesc := pd_3) rfl (pc' := 83) rfl (by rw [hml]; rfl) rfl (hb hby at_80) (W := 0) (Nat.le_of_eq rfl) (by decide) (by decide) (by decide) (by decide) fun v9 T9 L9 X9 Q9 => ?_
    obtain ⟨rfl, hh2, rfl⟩ := Q9
    rw [List.append_nil] at X9
    rw [if_neg (fun q => q.elim ne20 ne21)]
    refine Good.iload X9 hx (pc' := 85) rfl (hb hby at_83) rfl ?_
    refine Good.icmpNo X9 hx (pc' := 88) rfl (hb hby at_85) rfl ?_
    refine Good.iconst X9 hx (pc' := 89) (w := (1 : Int32)) rfl (hb hby at_88) rfl ?_
    refine Good.goto X9 hx (pc' := 93) (by decide) (hb hby at_89) ?_
    exact Good.retZ X9 hx hlk hret (hb hby at_93) (Or.inr rfl) (hG _ _ _ _ _ (⟨rfl, N_8⟩) (by decide) (by decide))
  · refine Good.callS X6 hx hZ (y := ⟨"com/example/clearance/clearance/sql/TokenIsNamePinLaw", "kindOf", "(I)Lcom/example/clearance/clearance/sql/Token$Kind;"⟩) hown (hw _ (List.mem_of_getElem? (i := 34) rfl)) (hw _ (List.mem_of_getElem? (i := 35) rfl)) (hw _ (List.mem_of_getElem? (i := 36) rfl)) (hw _ (List.mem_of_getElem? (i := 37) rfl)) (by decide) e6 (argsL := [(.int (3 : Int32))]) (rest := [(.ref b6), (.ref b6)]) (c_kind3 l Z a0 hw a3 h6 (S3.ext O4.2)) (hdesc := pd_1) rfl (pc' := 52) rfl (by rw [hml]; rfl) rfl (hb hby at_49) (W := 2) (Nat.le_of_eq rfl) (by decide) (by decide) (by decide) (by decide) fun v7 T7 L7 X7 Q7 => ?_
    obtain ⟨rfl, hh1, rfl⟩ := Q7
    rw [List.append_nil] at X7
    refine Good.aload X7 hx (pc' := 54) rfl (hb hby at_52) rfl rfl ?_
    refine Good.iloadN X7 hx (pc' := 55) rfl (hb hby at_54) rfl ?_
    refine Good.callN X7 hx hZ (y := ⟨"com/example/clearance/clearance/sql/Token", "<init>", "(Lcom/example/clearance/clearance/sql/Token$Kind;Ljava/lang/String;I)V"⟩) rfl hown (hw _ (List.mem_of_getElem? (i := 41) rfl)) (hw _ (List.mem_of_getElem? (i := 42) rfl)) (hw _ (List.mem_of_getElem? (i := 33) rfl)) (hw _ (List.mem_of_getElem? (i := 43) rfl)) (by decide) hh1 (a := b6) (argsL := [(.ref a3), (.ref b4), (.int st)]) (rest := [(.ref b6)]) (c_init l Z a0 hw b6 a3 b4 st _ _ _ h6 n0 Z_6 A6 F0_kind_b6 F0_text_b6 F0_start_b6 ge_b6) (hdesc := pd_2) rfl (pc' := 58) rfl (by rw [hml]; rfl) rfl (hb hby at_55) (W := 1) (Nat.le_of_eq rfl) (by decide) (by decide) (by decide) (by decide) fun v8 T8 L8 X8 Q8 => ?_
    obtain ⟨rfl, Nq, Kq, Eq, Fq⟩ := Q8
    have E_b6_8 := A6.keep Kq
    have Z_8 := Nat.le_trans Z_6 Kq.1
    have N_8 := Fr.app N_5 Nq
    have O5 := O4.keep Kq (allS ge_b6 all0)
    refine Good.astore X8 hx (pc' := 60) (Ls' := #[.val (.int k), .val (.int x0), .val (.int x1), .val (.int st), .val (.int (3 : Int32)), .val (.ref b1), .val (.ref b4), .val (.ref b6), .unset]) rfl (hb hby at_58) rfl rfl ?_
    refine Good.iload X8 hx (pc' := 62) rfl (hb hby at_60) rfl ?_
    refine Good.ifNo X8 hx (pc' := 65) rfl (hb hby at_62) rfl ?_
    refine Good.iload X8 hx (pc' := 67) rfl (hb hby at_65) rfl ?_
    refine Good.iconst X8 hx (pc' := 68) (w := (1 : Int32)) rfl (hb hby at_67) rfl ?_
    refine Good.icmpYes X8 hx (pc' := 75) (by decide) (hb hby at_68) rfl ?_
    refine Good.iconst X8 hx (pc' := 76) (w := (0 : Int32)) rfl (hb hby at_75) rfl ?_
    refine Good.istore X8 hx (pc' := 78) (Ls' := #[.val (.int k), .val (.int x0), .val (.int x1), .val (.int st), .val (.int (3 : Int32)), .val (.ref b1), .val (.ref b4), .val (.ref b6), .val (.int (0 : Int32))]) rfl (hb hby at_76) rfl ?_
    refine Good.aload X8 hx (pc' := 80) rfl (hb hby at_78) rfl rfl ?_
    refine Good.callV X8 hx hZ (y := ⟨"com/example/clearance/clearance/sql/Token", "isName", "()Z"⟩) hown (hw _ (List.mem_of_getElem? (i := 51) rfl)) (hw _ (List.mem_of_getElem? (i := 52) rfl)) (hw _ (List.mem_of_getElem? (i := 54) rfl)) (hw _ (List.mem_of_getElem? (i := 53) rfl)) (hw _ (List.mem_of_getElem? (i := 33) rfl)) (hw _ (List.mem_of_getElem? (i := 55) rfl)) (by decide) rfl Eq (argsL := []) (rest := []) (c_name l Z a0 hw b6 a3 a0_ a1 T8.heap Fq (S0.ext O5.2) (S1.ext O5.2)) (hdesc := pd_3) rfl (pc' := 83) rfl (by rw [hml]; rfl) rfl (hb hby at_80) (W := 0) (Nat.le_of_eq rfl) (by decide) (by decide) (by decide) (by decide) fun v9 T9 L9 X9 Q9 => ?_
    obtain ⟨rfl, hh2, rfl⟩ := Q9
    rw [List.append_nil] at X9
    rw [if_neg (fun q => q.elim ne30 ne31)]
    refine Good.iload X9 hx (pc' := 85) rfl (hb hby at_83) rfl ?_
    refine Good.icmpNo X9 hx (pc' := 88) rfl (hb hby at_85) rfl ?_
    refine Good.iconst X9 hx (pc' := 89) (w := (1 : Int32)) rfl (hb hby at_88) rfl ?_
    refine Good.goto X9 hx (pc' := 93) (by decide) (hb hby at_89) ?_
    exact Good.retZ X9 hx hlk hret (hb hby at_93) (Or.inr rfl) (hG _ _ _ _ _ (⟨rfl, N_8⟩) (by decide) (by decide))
  · refine Good.callS X6 hx hZ (y := ⟨"com/example/clearance/clearance/sql/TokenIsNamePinLaw", "kindOf", "(I)Lcom/example/clearance/clearance/sql/Token$Kind;"⟩) hown (hw _ (List.mem_of_getElem? (i := 34) rfl)) (hw _ (List.mem_of_getElem? (i := 35) rfl)) (hw _ (List.mem_of_getElem? (i := 36) rfl)) (hw _ (List.mem_of_getElem? (i := 37) rfl)) (by decide) e6 (argsL := [(.int (4 : Int32))]) (rest := [(.ref b6), (.ref b6)]) (c_kind4 l Z a0 hw a4 h6 (S4.ext O4.2)) (hdesc := pd_1) rfl (pc' := 52) rfl (by rw [hml]; rfl) rfl (hb hby at_49) (W := 2) (Nat.le_of_eq rfl) (by decide) (by decide) (by decide) (by decide) fun v7 T7 L7 X7 Q7 => ?_
    obtain ⟨rfl, hh1, rfl⟩ := Q7
    rw [List.append_nil] at X7
    refine Good.aload X7 hx (pc' := 54) rfl (hb hby at_52) rfl rfl ?_
    refine Good.iloadN X7 hx (pc' := 55) rfl (hb hby at_54) rfl ?_
    refine Good.callN X7 hx hZ (y := ⟨"com/example/clearance/clearance/sql/Token", "<init>", "(Lcom/example/clearance/clearance/sql/Token$Kind;Ljava/lang/String;I)V"⟩) rfl hown (hw _ (List.mem_of_getElem? (i := 41) rfl)) (hw _ (List.mem_of_getElem? (i := 42) rfl)) (hw _ (List.mem_of_getElem? (i := 33) rfl)) (hw _ (List.mem_of_getElem? (i := 43) rfl)) (by decide) hh1 (a := b6) (argsL := [(.ref a4), (.ref b4), (.int st)]) (rest := [(.ref b6)]) (c_init l Z a0 hw b6 a4 b4 st _ _ _ h6 n0 Z_6 A6 F0_kind_b6 F0_text_b6 F0_start_b6 ge_b6) (hdesc := pd_2) rfl (pc' := 58) rfl (by rw [hml]; rfl) rfl (hb hby at_55) (W := 1) (Nat.le_of_eq rfl) (by decide) (by decide) (by decide) (by decide) fun v8 T8 L8 X8 Q8 => ?_
    obtain ⟨rfl, Nq, Kq, Eq, Fq⟩ := Q8
    have E_b6_8 := A6.keep Kq
    have Z_8 := Nat.le_trans Z_6 Kq.1
    have N_8 := Fr.app N_5 Nq
    have O5 := O4.keep Kq (allS ge_b6 all0)
    refine Good.astore X8 hx (pc' := 60) (Ls' := #[.val (.int k), .val (.int x0), .val (.int x1), .val (.int st), .val (.int (4 : Int32)), .val (.ref b1), .val (.ref b4), .val (.ref b6), .unset]) rfl (hb hby at_58) rfl rfl ?_
    refine Good.iload X8 hx (pc' := 62) rfl (hb hby at_60) rfl ?_
    refine Good.ifNo X8 hx (pc' := 65) rfl (hb hby at_62) rfl ?_
    refine Good.iload X8 hx (pc' := 67) rfl (hb hby at_65) rfl ?_
    refine Good.iconst X8 hx (pc' := 68) (w := (1 : Int32)) rfl (hb hby at_67) rfl ?_
    refine Good.icmpYes X8 hx (pc' := 75) (by decide) (hb hby at_68) rfl ?_
    refine Good.iconst X8 hx (pc' := 76) (w := (0 : Int32)) rfl (hb hby at_75) rfl ?_
    refine Good.istore X8 hx (pc' := 78) (Ls' := #[.val (.int k), .val (.int x0), .val (.int x1), .val (.int st), .val (.int (4 : Int32)), .val (.ref b1), .val (.ref b4), .val (.ref b6), .val (.int (0 : Int32))]) rfl (hb hby at_76) rfl ?_
    refine Good.aload X8 hx (pc' := 80) rfl (hb hby at_78) rfl rfl ?_
    refine Good.callV X8 hx hZ (y := ⟨"com/example/clearance/clearance/sql/Token", "isName", "()Z"⟩) hown (hw _ (List.mem_of_getElem? (i := 51) rfl)) (hw _ (List.mem_of_getElem? (i := 52) rfl)) (hw _ (List.mem_of_getElem? (i := 54) rfl)) (hw _ (List.mem_of_getElem? (i := 53) rfl)) (hw _ (List.mem_of_getElem? (i := 33) rfl)) (hw _ (List.mem_of_getElem? (i := 55) rfl)) (by decide) rfl Eq (argsL := []) (rest := []) (c_name l Z a0 hw b6 a4 a0_ a1 T8.heap Fq (S0.ext O5.2) (S1.ext O5.2)) (hdesc := pd_3) rfl (pc' := 83) rfl (by rw [hml]; rfl) rfl (hb hby at_80) (W := 0) (Nat.le_of_eq rfl) (by decide) (by decide) (by decide) (by decide) fun v9 T9 L9 X9 Q9 => ?_
    obtain ⟨rfl, hh2, rfl⟩ := Q9
    rw [List.append_nil] at X9
    rw [if_neg (fun q => q.elim ne40 ne41)]
    refine Good.iload X9 hx (pc' := 85) rfl (hb hby at_83) rfl ?_
    refine Good.icmpNo X9 hx (pc' := 88) rfl (hb hby at_85) rfl ?_
    refine Good.iconst X9 hx (pc' := 89) (w := (1 : Int32)) rfl (hb hby at_88) rfl ?_
    refine Good.goto X9 hx (pc' := 93) (by decide) (hb hby at_89) ?_
    exact Good.retZ X9 hx hlk hret (hb hby at_93) (Or.inr rfl) (hG _ _ _ _ _ (⟨rfl, N_8⟩) (by decide) (by decide))
  · refine Good.callS X6 hx hZ (y := ⟨"com/example/clearance/clearance/sql/TokenIsNamePinLaw", "kindOf", "(I)Lcom/example/clearance/clearance/sql/Token$Kind;"⟩) hown (hw _ (List.mem_of_getElem? (i := 34) rfl)) (hw _ (List.mem_of_getElem? (i := 35) rfl)) (hw _ (List.mem_of_getElem? (i := 36) rfl)) (hw _ (List.mem_of_getElem? (i := 37) rfl)) (by decide) e6 (argsL := [(.int (5 : Int32))]) (rest := [(.ref b6), (.ref b6)]) (c_kind5 l Z a0 hw a5 h6 (S5.ext O4.2)) (hdesc := pd_1) rfl (pc' := 52) rfl (by rw [hml]; rfl) rfl (hb hby at_49) (W := 2) (Nat.le_of_eq rfl) (by decide) (by decide) (by decide) (by decide) fun v7 T7 L7 X7 Q7 => ?_
    obtain ⟨rfl, hh1, rfl⟩ := Q7
    rw [List.append_nil] at X7
    refine Good.aload X7 hx (pc' := 54) rfl (hb hby at_52) rfl rfl ?_
    refine Good.iloadN X7 hx (pc' := 55) rfl (hb hby at_54) rfl ?_
    refine Good.callN X7 hx hZ (y := ⟨"com/example/clearance/clearance/sql/Token", "<init>", "(Lcom/example/clearance/clearance/sql/Token$Kind;Ljava/lang/String;I)V"⟩) rfl hown (hw _ (List.mem_of_getElem? (i := 41) rfl)) (hw _ (List.mem_of_getElem? (i := 42) rfl)) (hw _ (List.mem_of_getElem? (i := 33) rfl)) (hw _ (List.mem_of_getElem? (i := 43) rfl)) (by decide) hh1 (a := b6) (argsL := [(.ref a5), (.ref b4), (.int st)]) (rest := [(.ref b6)]) (c_init l Z a0 hw b6 a5 b4 st _ _ _ h6 n0 Z_6 A6 F0_kind_b6 F0_text_b6 F0_start_b6 ge_b6) (hdesc := pd_2) rfl (pc' := 58) rfl (by rw [hml]; rfl) rfl (hb hby at_55) (W := 1) (Nat.le_of_eq rfl) (by decide) (by decide) (by decide) (by decide) fun v8 T8 L8 X8 Q8 => ?_
    obtain ⟨rfl, Nq, Kq, Eq, Fq⟩ := Q8
    have E_b6_8 := A6.keep Kq
    have Z_8 := Nat.le_trans Z_6 Kq.1
    have N_8 := Fr.app N_5 Nq
    have O5 := O4.keep Kq (allS ge_b6 all0)
    refine Good.astore X8 hx (pc' := 60) (Ls' := #[.val (.int k), .val (.int x0), .val (.int x1), .val (.int st), .val (.int (5 : Int32)), .val (.ref b1), .val (.ref b4), .val (.ref b6), .unset]) rfl (hb hby at_58) rfl rfl ?_
    refine Good.iload X8 hx (pc' := 62) rfl (hb hby at_60) rfl ?_
    refine Good.ifNo X8 hx (pc' := 65) rfl (hb hby at_62) rfl ?_
    refine Good.iload X8 hx (pc' := 67) rfl (hb hby at_65) rfl ?_
    refine Good.iconst X8 hx (pc' := 68) (w := (1 : Int32)) rfl (hb hby at_67) rfl ?_
    refine Good.icmpYes X8 hx (pc' := 75) (by decide) (hb hby at_68) rfl ?_
    refine Good.iconst X8 hx (pc' := 76) (w := (0 : Int32)) rfl (hb hby at_75) rfl ?_
    refine Good.istore X8 hx (pc' := 78) (Ls' := #[.val (.int k), .val (.int x0), .val (.int x1), .val (.int st), .val (.int (5 : Int32)), .val (.ref b1), .val (.ref b4), .val (.ref b6), .val (.int (0 : Int32))]) rfl (hb hby at_76) rfl ?_
    refine Good.aload X8 hx (pc' := 80) rfl (hb hby at_78) rfl rfl ?_
    refine Good.callV X8 hx hZ (y := ⟨"com/example/clearance/clearance/sql/Token", "isName", "()Z"⟩) hown (hw _ (List.mem_of_getElem? (i := 51) rfl)) (hw _ (List.mem_of_getElem? (i := 52) rfl)) (hw _ (List.mem_of_getElem? (i := 54) rfl)) (hw _ (List.mem_of_getElem? (i := 53) rfl)) (hw _ (List.mem_of_getElem? (i := 33) rfl)) (hw _ (List.mem_of_getElem? (i := 55) rfl)) (by decide) rfl Eq (argsL := []) (rest := []) (c_name l Z a0 hw b6 a5 a0_ a1 T8.heap Fq (S0.ext O5.2) (S1.ext O5.2)) (hdesc := pd_3) rfl (pc' := 83) rfl (by rw [hml]; rfl) rfl (hb hby at_80) (W := 0) (Nat.le_of_eq rfl) (by decide) (by decide) (by decide) (by decide) fun v9 T9 L9 X9 Q9 => ?_
    obtain ⟨rfl, hh2, rfl⟩ := Q9
    rw [List.append_nil] at X9
    rw [if_neg (fun q => q.elim ne50 ne51)]
    refine Good.iload X9 hx (pc' := 85) rfl (hb hby at_83) rfl ?_
    refine Good.icmpNo X9 hx (pc' := 88) rfl (hb hby at_85) rfl ?_
    refine Good.iconst X9 hx (pc' := 89) (w := (1 : Int32)) rfl (hb hby at_88) rfl ?_
    refine Good.goto X9 hx (pc' := 93) (by decide) (hb hby at_89) ?_
    exact Good.retZ X9 hx hlk hret (hb hby at_93) (Or.inr rfl) (hG _ _ _ _ _ (⟨rfl, N_8⟩) (by decide) (by decide))
theorem own_eqI {args : Array Value} {Z : State} {t : Term} {N : Int32} (h : (Jvm.Cond.eq t (.int N)).value args Z none Z [] = some true) : t.eval args Z none [] Z = some (.int N) := by
  simp only [Cond.value, Term.eval] at h
  cases ht : t.eval args Z none [] Z with
  | none => simp [ht] at h
  | some v => cases v <;> simp_all
theorem own_neq0 {args : Array Value} {Z : State} {t : Term} {z : Int32} (ev : t.eval args Z none [] Z = some (.int z)) (h : (Jvm.Cond.not (.eq t (.int 0))).value args Z none Z [] = some true) : ¬ z = 0 := by
  intro q
  subst q
  simp [Cond.value, ev, Term.eval] at h
theorem own_fld {args : Array Value} {Z : State} {t : Term} {C f d : String} {a : Addr} {v : Value} (ev : t.eval args Z none [] Z = some (.ref a)) (h : (Term.field t C f d).eval args Z none [] Z = some v) : Fld Z Z.heap a C f d v := by
  refine Fld.start ?_
  simpa [Term.eval, ev] using h
theorem own_exa {args : Array Value} {Z : State} {t : Term} {C : String} (h : (Jvm.Cond.exactly t C).value args Z none Z [] = some true) : ∃ a, t.eval args Z none [] Z = some (.ref a) ∧ Exa Z Z.heap a C := by
  obtain ⟨a', c', cell, k, e1, -⟩ := Cond.exactly_spec (Cond.before_iff.mpr h)
  exact ⟨a', e1, Exa.start e1 h⟩
set_option maxRecDepth 65536 in
set_option maxHeartbeats 40000000 in
theorem comes_1 {Post : Tables → Env → Array Value → State → Outcome → State → Prop} (hpost : ∀ tb e args s v u, (limb_1_1.after args s (.returned v) u = true ∧ limb_1_2.after args s (.returned v) u = true ∧ True) → FrameEnd s (.returned v) u (Jvm.fieldLocs frame_1_writes args s ++ Jvm.arrayLocs frame_1_arrays args s ++ Jvm.staticLocs frame_1_statics s) 16 128 → Post tb e args s (.returned v) u) :
    ArmFor flags0 classFile x code maxLocals ret World_1 tables_1 room_1 Calls_1 rest_1 Pre_1 Post := by
  intro l hfl _ _ p e ha hc hk s m args below hf hA hF happ hP
  obtain ⟨hcalls, hrest, hpre⟩ := hP
  obtain ⟨-, -, -, hnamed, -, -, -, hat⟩ := (Spec.applies_iff hf).mp happ
  obtain ⟨hg, hn⟩ := and_e (Cond.before_iff.mp (show (Jvm.Cond.and given_1 narrow_1).before args s = true from hpre))
  obtain ⟨w0, w1, w2, w3, rfl⟩ : ∃ w0 w1 w2 w3 : Value, args = #[w0, w1, w2, w3] := by
    have hs : args.size = 4 := by
      obtain ⟨q, -⟩ := and_e hg
      simpa [Cond.value, given_1] using q
    obtain ⟨L⟩ := args
    match L, hs with
    | [w0, w1, w2, w3], _ => exact ⟨w0, w1, w2, w3, rfl⟩
  have hw := fun d (hd : d ∈ tables_1) => atoms_spec (ws := Jvm.Cond.code x code maxLocals ret :: tables_1) hat d (List.mem_cons_of_mem _ hd)
  obtain ⟨-, hg0⟩ := and_e hg
  obtain ⟨gi0, hg1⟩ := and_e hg0
  obtain ⟨i0, ei0⟩ := is_v gi0
  obtain rfl : w0 = (.int i0) := Option.some.inj ei0
  obtain ⟨gi1, hg2⟩ := and_e hg1
  obtain ⟨i1, ei1⟩ := is_v gi1
  obtain rfl : w1 = (.int i1) := Option.some.inj ei1
  obtain ⟨gi2, hg3⟩ := and_e hg2
  obtain ⟨i2, ei2⟩ := is_v gi2
  obtain rfl : w2 = (.int i2) := Option.some.inj ei2
  obtain ⟨i3, ei3⟩ := is_v hg3
  obtain rfl : w3 = (.int i3) := Option.some.inj ei3
  obtain ⟨me0, hn1⟩ := and_e hn
  obtain ⟨me1, hn2⟩ := and_e hn1
  obtain ⟨mo1, hn3⟩ := and_e hn2
  obtain ⟨mo0, hn4⟩ := and_e hn3
  obtain ⟨me4, hn5⟩ := and_e hn4
  obtain ⟨mo4, hn6⟩ := and_e hn5
  obtain ⟨me3, hn7⟩ := and_e hn6
  obtain ⟨mo3, hn8⟩ := and_e hn7
  obtain ⟨me5, hn9⟩ := and_e hn8
  obtain ⟨mo5, hn10⟩ := and_e hn9
  obtain ⟨me2, hn11⟩ := and_e hn10
  have mo2 := hn11
  obtain ⟨b0, ev0, -⟩ := own_exa me0
  have F0 := own_fld ev0 (own_eqI mo0)
  have S0 := Sta.start ev0 (Or.inr ⟨(hw _ (List.mem_of_getElem? (i := 39) rfl)), (hw _ (List.mem_of_getElem? (i := 40) rfl))⟩)
  obtain ⟨b1, ev1, -⟩ := own_exa me1
  have F1 := own_fld ev1 (own_eqI mo1)
  have S1 := Sta.start ev1 (Or.inr ⟨(hw _ (List.mem_of_getElem? (i := 39) rfl)), (hw _ (List.mem_of_getElem? (i := 58) rfl))⟩)
  obtain ⟨b2, ev2, -⟩ := own_exa me2
  have F2 := own_fld ev2 (own_eqI mo2)
  have S2 := Sta.start ev2 (Or.inr ⟨(hw _ (List.mem_of_getElem? (i := 39) rfl)), (hw _ (List.mem_of_getElem? (i := 67) rfl))⟩)
  obtain ⟨b3, ev3, -⟩ := own_exa me3
  have F3 := own_fld ev3 (own_eqI mo3)
  have S3 := Sta.start ev3 (Or.inr ⟨(hw _ (List.mem_of_getElem? (i := 39) rfl)), (hw _ (List.mem_of_getElem? (i := 63) rfl))⟩)
  obtain ⟨b4, ev4, -⟩ := own_exa me4
  have F4 := own_fld ev4 (own_eqI mo4)
  have S4 := Sta.start ev4 (Or.inr ⟨(hw _ (List.mem_of_getElem? (i := 39) rfl)), (hw _ (List.mem_of_getElem? (i := 61) rfl))⟩)
  obtain ⟨b5, ev5, -⟩ := own_exa me5
  have F5 := own_fld ev5 (own_eqI mo5)
  have S5 := Sta.start ev5 (Or.inr ⟨(hw _ (List.mem_of_getElem? (i := 39) rfl)), (hw _ (List.mem_of_getElem? (i := 65) rfl))⟩)
  obtain ⟨hsets, hown0⟩ := atoms_of _ (rest_1_c_eq ▸ (show rest_1_c.before _ s = true from hrest))
  obtain ⟨G1, eG⟩ := is_v (Cond.before_iff.mp (hsets _ (List.mem_of_getElem? (i := 1) rfl)))
  have SC := Sta.start eG (Or.inl (hsets _ (List.mem_of_getElem? (i := 0) rfl)))
  have hC := own_neq0 eG (Cond.before_iff.mp (hsets _ (List.mem_of_getElem? (i := 2) rfl)))
  have K := c_law l s _ hw i0 i1 i2 i3 b0 b1 b2 b3 b4 b5 G1 s.heap s.heap.size (Nat.le_refl _) (Old.start s) SC hC S0 S1 S2 S3 S4 S5 (F2.ne F0 (by decide)) (F2.ne F1 (by decide)) (F3.ne F0 (by decide)) (F3.ne F1 (by decide)) (F4.ne F0 (by decide)) (F4.ne F1 (by decide)) (F5.ne F0 (by decide)) (F5.ne F1 (by decide))
  obtain ⟨n, o, h1, h2, h3, _, L, rfl, ⟨rfl, N⟩, hq⟩ := K tables_1 p e ha hc hk s m _ below hf ((Spec.applies_iff_loose hf).mp happ).1 ⟨rfl, State.Warmed39.refl s, rfl⟩ trivial
  refine ⟨n, _, h1, h2, h3, hpost _ _ _ _ _ _ ⟨Cond.after_iff.mpr rfl, Cond.after_iff.mpr (eq_i res_at (Term.int_eval (1)) rfl), trivial⟩ ⟨hq.1, hq.2.1, (hq.2.2.sift fun y hy => Or.inr (N y hy)).mono (by decide) (by decide)⟩⟩
theorem main_1_1 : Claimed_1_1 := comes_1 fun _ _ _ _ _ _ h hF => ⟨h.1, hF⟩
theorem main_1_2 : Claimed_1_2 := comes_1 fun _ _ _ _ _ _ h hF => ⟨h.2.1, hF⟩
end Jvm.Pilot.@@N@@
namespace Jvm.Pilot.@@N@@
open Jvm Jvm.ClassFile Sem Op Lib Jvm.Free Jvm.Stand Jvm.Pilot.@@N@@.Jvm.D
/-! MADE BY PROGRAM (witnessworld.py) out of the Statement's table words and the real class files: 22 classes; the members and pool entries that the words name. The judged class is class 1, her method 2. -/
namespace start1
open Jvm.ClassFile
def u (s : String) : CpInfo := .utf8 (stringToUtf16 s)
/-- a pool by its gaps: so many unusable entries, then the entry; so many at the end -/
def gap : Nat → List CpInfo → List CpInfo
  | 0, r => r
  | n + 1, r => .unusable :: gap n r
def poolList (es : List (Nat × CpInfo)) (last : Nat) : List CpInfo := es.foldr (fun e r => gap e.1 (e.2 :: r)) (gap last [])
def pool (es : List (Nat × CpInfo)) (last : Nat) : Array CpInfo := ⟨poolList es last⟩
def fileOf (pool : Array CpInfo) (this : Nat) (attrs : Array Attribute := #[]) (ms : Array MethodInfo := #[]) (fl : Nat := 33) (sup : Nat := 0) (ifs : Array Nat := #[]) (fds : Array FieldInfo := #[]) : ClassFile where
  minorVersion := 0
  majorVersion := 65
  constantPool := pool
  accessFlags := fl
  thisClass := this
  superClass := sup
  interfaces := ifs
  fields := fds
  methods := ms
  attributes := attrs
def plain (name : String) (sup : Option ClassId) : Class where
  name := name
  kind := .ordinary
  loader := none
  accessFlags := 33
  super := sup
  interfaces := #[]
  cf := none
  fields := #[]
  methods := #[]
  instanceTypes := #[]
  staticTypes := #[]
  resolved := #[]
  callSites := []
  init := .initialized
  statics := none
  mirror := none

def pool0 : Array CpInfo := pool [(5, u "<init>"), (0, u "()V"), (1, .class_ 10), (1, u "java/lang/Object")] 113

def k0c0 : Code := { maxStack := 0, maxLocals := 1, code := object_method_1_code, exceptionTable := #[], attributes := #[] }
def k0m0 : Method := { name := "<init>", desc := "()V", sig := { parameters := [], returnType := none }, accessFlags := 1, code := some k0c0 }
/-- java/lang/Object -/
def k0 : Class := { plain "java/lang/Object" none with
  accessFlags := 33
  interfaces := #[]
  cf := some (fileOf pool0 8 #[] #[{ accessFlags := 1, nameIndex := 5, descriptorIndex := 6, attributes := #[] }] 33 0 #[] #[])
  fields := #[]
  methods := #[k0m0]
  instanceTypes := #[]
  staticTypes := #[]
  resolved := Array.replicate 124 none
  statics := none }

def pool1 : Array CpInfo := pool [(2, .class_ 4), (1, u "java/lang/Object"), (0, u "<init>"), (0, u "()V"), (0, .fieldref 8 9), (0, .class_ 10), (0, .nameAndType 11 12), (0, u "com/example/clearance/clearance/sql/Token$Kind"), (0, u "WORD"), (0, u "Lcom/example/clearance/clearance/sql/Token$Kind;"), (0, .fieldref 8 14), (0, .nameAndType 15 12), (0, u "QUOTED_NAME"), (0, .fieldref 8 17), (0, .nameAndType 18 12), (0, u "STRING"), (0, .fieldref 8 20), (0, .nameAndType 21 12), (0, u "NUMBER"), (0, .fieldref 8 23), (0, .nameAndType 24 12), (0, u "SYMBOL"), (0, .fieldref 8 26), (0, .nameAndType 27 12), (0, u "END"), (0, .integer 2147483647), (0, .class_ 30), (0, u "java/lang/String"), (0, .methodref 29 32), (0, .nameAndType 5 33), (0, u "([C)V"), (0, .class_ 35), (0, u "com/example/clearance/clearance/sql/Token"), (0, .methodref 37 38), (0, .class_ 39), (0, .nameAndType 40 41), (0, u "com/example/clearance/clearance/sql/TokenIsNamePinLaw"), (0, u "kindOf"), (0, u "(I)Lcom/example/clearance/clearance/sql/Token$Kind;"), (0, .methodref 34 43), (0, .nameAndType 5 44), (0, u "(Lcom/example/clearance/clearance/sql/Token$Kind;Ljava/lang/String;I)V"), (0, .methodref 34 46), (0, .nameAndType 47 48), (0, u "isName"), (0, u "()Z"), (3, u "law"), (0, u "(IIII)Z")] 6

def k1m0 : Method := { name := "<init>", desc := "()V", sig := { parameters := [], returnType := none }, accessFlags := 1, code := none }
def k1c1 : Code := { maxStack := 2, maxLocals := 1, code := method_2_code, exceptionTable := #[], attributes := #[] }
def k1m1 : Method := { name := "kindOf", desc := "(I)Lcom/example/clearance/clearance/sql/Token$Kind;", sig := { parameters := [.int], returnType := some (.object "com/example/clearance/clearance/sql/Token$Kind") }, accessFlags := 10, code := some k1c1 }
def k1c2 : Code := { maxStack := 5, maxLocals := 9, code := code, exceptionTable := #[], attributes := #[] }
def k1m2 : Method := { name := "law", desc := "(IIII)Z", sig := { parameters := [.int, .int, .int, .int], returnType := some .boolean }, accessFlags := 9, code := some k1c2 }
/-- com/example/clearance/clearance/sql/TokenIsNamePinLaw -/
def k1 : Class := { plain "com/example/clearance/clearance/sql/TokenIsNamePinLaw" (some 0) with
  accessFlags := 49
  interfaces := #[]
  cf := some (fileOf pool1 37 #[] #[{ accessFlags := 1, nameIndex := 5, descriptorIndex := 6, attributes := #[] }, { accessFlags := 10, nameIndex := 40, descriptorIndex := 41, attributes := #[] }, { accessFlags := 9, nameIndex := 52, descriptorIndex := 53, attributes := #[] }] 49 2 #[] #[])
  fields := #[]
  methods := #[k1m0, k1m1, k1m2]
  instanceTypes := #[]
  staticTypes := #[]
  resolved := Array.replicate 60 none
  statics := none }

def pool2 : Array CpInfo := pool [(1, .class_ 2), (0, u "java/io/Serializable"), (0, .class_ 4), (0, u "java/lang/Object")] 2

/-- java/io/Serializable -/
def k2 : Class := { plain "java/io/Serializable" (some 0) with
  accessFlags := 1537
  interfaces := #[]
  cf := some (fileOf pool2 1 #[] #[] 1537 3 #[] #[])
  fields := #[]
  methods := #[]
  instanceTypes := #[]
  staticTypes := #[]
  resolved := Array.replicate 7 none
  statics := none }

def pool3 : Array CpInfo := pool [(1, .class_ 2), (0, u "java/lang/Comparable"), (0, .class_ 4), (0, u "java/lang/Object")] 7

/-- java/lang/Comparable -/
def k3 : Class := { plain "java/lang/Comparable" (some 0) with
  accessFlags := 1537
  interfaces := #[]
  cf := some (fileOf pool3 1 #[] #[] 1537 3 #[] #[])
  fields := #[]
  methods := #[]
  instanceTypes := #[]
  staticTypes := #[]
  resolved := Array.replicate 12 none
  statics := none }

def pool4 : Array CpInfo := pool [(2, .class_ 4), (1, u "java/lang/CharSequence"), (42, .class_ 48), (0, u "java/lang/CharSequence$1CodePointIterator"), (10, .class_ 60), (0, u "java/lang/CharSequence$1CharIterator"), (5, .class_ 67), (0, u "java/lang/Object")] 63

/-- java/lang/CharSequence -/
def k4 : Class := { plain "java/lang/CharSequence" (some 0) with
  accessFlags := 1537
  interfaces := #[]
  cf := some (fileOf pool4 2 #[.nestMembers #[47, 59]] #[] 1537 66 #[] #[])
  fields := #[]
  methods := #[]
  instanceTypes := #[]
  staticTypes := #[]
  resolved := Array.replicate 131 none
  statics := none }

def pool5 : Array CpInfo := pool [(1, .class_ 2), (0, u "java/lang/constant/Constable"), (0, .class_ 4), (0, u "java/lang/Object")] 6

/-- java/lang/constant/Constable -/
def k5 : Class := { plain "java/lang/constant/Constable" (some 0) with
  accessFlags := 1537
  interfaces := #[]
  cf := some (fileOf pool5 1 #[] #[] 1537 3 #[] #[])
  fields := #[]
  methods := #[]
  instanceTypes := #[]
  staticTypes := #[]
  resolved := Array.replicate 11 none
  statics := none }

def pool6 : Array CpInfo := pool [(1, .class_ 2), (0, u "java/lang/constant/ConstantDesc"), (0, .class_ 4), (0, u "java/lang/Object")] 32

/-- java/lang/constant/ConstantDesc -/
def k6 : Class := { plain "java/lang/constant/ConstantDesc" (some 0) with
  accessFlags := 1537
  interfaces := #[]
  cf := some (fileOf pool6 1 #[] #[] 1537 3 #[] #[])
  fields := #[]
  methods := #[]
  instanceTypes := #[]
  staticTypes := #[]
  resolved := Array.replicate 37 none
  statics := none }

def pool7 : Array CpInfo := pool [(1, .methodref 2 3), (0, .class_ 4), (0, .nameAndType 5 6), (0, u "java/lang/Object"), (0, u "<init>"), (0, u "()V"), (2, .fieldref 10 11), (0, .class_ 12), (0, .nameAndType 13 14), (0, u "java/lang/String"), (0, u "value"), (0, u "[B"), (0, .fieldref 10 16), (0, .nameAndType 17 18), (0, u "coder"), (0, u "B"), (2, u "hash"), (0, u "I"), (2, u "hashIsZero"), (0, u "Z"), (0, .methodref 10 28), (0, .nameAndType 5 29), (0, u "([CIILjava/lang/Void;)V"), (8, .fieldref 10 39), (0, .nameAndType 40 26), (0, u "COMPACT_STRINGS"), (1, .class_ 44), (1, u "java/lang/StringUTF16"), (0, u "compress"), (1, .methodref 42 48), (0, .nameAndType 49 50), (0, u "coderFromArrayLen"), (0, u "([BI)B"), (126, .methodref 42 178), (0, .nameAndType 45 179), (0, u "([CII)[B"), (395, .class_ 576), (0, u "java/lang/CharSequence"), (22, u "CASE_INSENSITIVE_ORDER"), (0, u "Ljava/util/Comparator;"), (409, u "([C)V"), (90, u "serialPersistentFields"), (0, u "[Ljava/io/ObjectStreamField;"), (0, .class_ 1104), (0, u "java/lang/String$CaseInsensitiveComparator"), (1, .class_ 1107), (0, u "java/io/Serializable"), (0, .class_ 1109), (0, u "java/lang/Comparable"), (0, .class_ 1111), (0, u "java/lang/constant/Constable"), (0, .class_ 1113), (0, u "java/lang/constant/ConstantDesc"), (2, u "serialVersionUID"), (0, u "J"), (3, u "REPL"), (0, u "C"), (2, u "LATIN1"), (1, u "UTF16")] 323

def k7m0 : Method := { name := "<init>", desc := "()V", sig := { parameters := [], returnType := none }, accessFlags := 1, code := none }
def k7c1 : Code := { maxStack := 5, maxLocals := 2, code := jdk_42_method_3_code, exceptionTable := #[], attributes := #[] }
def k7m1 : Method := { name := "<init>", desc := "([C)V", sig := { parameters := [(.array .char)], returnType := none }, accessFlags := 1, code := some k7c1 }
def k7c2 : Code := { maxStack := 4, maxLocals := 6, code := jdk_42_method_149_code, exceptionTable := #[], attributes := #[] }
def k7m2 : Method := { name := "<init>", desc := "([CIILjava/lang/Void;)V", sig := { parameters := [(.array .char), .int, .int, (.object "java/lang/Void")], returnType := none }, accessFlags := 2, code := some k7c2 }
/-- java/lang/String -/
def k7 : Class := { plain "java/lang/String" (some 0) with
  accessFlags := 49
  interfaces := #[2, 3, 4, 5, 6]
  cf := some (fileOf pool7 10 #[.nestMembers #[1103]] #[{ accessFlags := 1, nameIndex := 5, descriptorIndex := 6, attributes := #[] }, { accessFlags := 1, nameIndex := 5, descriptorIndex := 1010, attributes := #[] }, { accessFlags := 2, nameIndex := 5, descriptorIndex := 29, attributes := #[] }] 49 2 #[1106, 1108, 575, 1110, 1112] #[{ accessFlags := 18, nameIndex := 13, descriptorIndex := 14, attributes := #[] }, { accessFlags := 18, nameIndex := 17, descriptorIndex := 18, attributes := #[] }, { accessFlags := 2, nameIndex := 21, descriptorIndex := 22, attributes := #[] }, { accessFlags := 2, nameIndex := 25, descriptorIndex := 26, attributes := #[] }, { accessFlags := 26, nameIndex := 1116, descriptorIndex := 1117, attributes := #[] }, { accessFlags := 24, nameIndex := 40, descriptorIndex := 26, attributes := #[] }, { accessFlags := 26, nameIndex := 1101, descriptorIndex := 1102, attributes := #[] }, { accessFlags := 26, nameIndex := 1121, descriptorIndex := 1122, attributes := #[] }, { accessFlags := 25, nameIndex := 599, descriptorIndex := 600, attributes := #[] }, { accessFlags := 24, nameIndex := 1125, descriptorIndex := 18, attributes := #[] }, { accessFlags := 24, nameIndex := 1127, descriptorIndex := 18, attributes := #[] }])
  fields := #[{ name := "value", type := (.array .byte), accessFlags := 18, slot := 0, constantValue := 0 }, { name := "coder", type := .byte, accessFlags := 18, slot := 1, constantValue := 0 }, { name := "hash", type := .int, accessFlags := 2, slot := 2, constantValue := 0 }, { name := "hashIsZero", type := .boolean, accessFlags := 2, slot := 3, constantValue := 0 }, { name := "serialVersionUID", type := .long, accessFlags := 26, slot := 0, constantValue := 0 }, { name := "COMPACT_STRINGS", type := .boolean, accessFlags := 24, slot := 1, constantValue := 0 }, { name := "serialPersistentFields", type := (.array (.object "java/io/ObjectStreamField")), accessFlags := 26, slot := 2, constantValue := 0 }, { name := "REPL", type := .char, accessFlags := 26, slot := 3, constantValue := 0 }, { name := "CASE_INSENSITIVE_ORDER", type := (.object "java/util/Comparator"), accessFlags := 25, slot := 4, constantValue := 0 }, { name := "LATIN1", type := .byte, accessFlags := 24, slot := 5, constantValue := 0 }, { name := "UTF16", type := .byte, accessFlags := 24, slot := 6, constantValue := 0 }]
  methods := #[k7m0, k7m1, k7m2]
  instanceTypes := #[(.array .byte), .byte, .int, .boolean]
  staticTypes := #[.long, .boolean, (.array (.object "java/io/ObjectStreamField")), .char, (.object "java/util/Comparator"), .byte, .byte]
  resolved := Array.replicate 1451 none
  statics := some 0 }

def pool8 : Array CpInfo := pool [(6, .class_ 8), (1, u "java/lang/Object"), (0, u "<init>"), (0, u "()V"), (1, .class_ 14), (1, u "java/lang/StringUTF16"), (31, u "$assertionsDisabled"), (0, u "Z"), (13, u "HI_BYTE_SHIFT"), (0, u "I"), (2, u "LO_BYTE_SHIFT"), (49, .methodref 12 116), (0, .nameAndType 117 118), (0, u "compress"), (0, u "([CI[BII)I"), (3, u "([CII)[B"), (138, u "coderFromArrayLen"), (0, u "([BI)B"), (106, .class_ 371), (1, u "java/lang/StringUTF16$LinesSpliterator"), (58, u "MAX_LENGTH"), (196, .class_ 628), (0, u "java/lang/StringUTF16$CodePointsSpliterator"), (0, .class_ 630), (0, u "java/lang/StringUTF16$CharsSpliterator")] 4

def k8m0 : Method := { name := "<init>", desc := "()V", sig := { parameters := [], returnType := none }, accessFlags := 0, code := none }
def k8c1 : Code := { maxStack := 2, maxLocals := 2, code := jdk_52_method_15_code, exceptionTable := #[], attributes := #[] }
def k8m1 : Method := { name := "coderFromArrayLen", desc := "([BI)B", sig := { parameters := [(.array .byte), .int], returnType := some .byte }, accessFlags := 8, code := some k8c1 }
def k8c2 : Code := { maxStack := 5, maxLocals := 6, code := jdk_52_method_16_code, exceptionTable := #[], attributes := #[] }
def k8m2 : Method := { name := "compress", desc := "([CII)[B", sig := { parameters := [(.array .char), .int, .int], returnType := some (.array .byte) }, accessFlags := 9, code := some k8c2 }
def k8c3 : Code := { maxStack := 3, maxLocals := 7, code := jdk_52_method_21_code, exceptionTable := #[], attributes := #[] }
def k8m3 : Method := { name := "compress", desc := "([CI[BII)I", sig := { parameters := [(.array .char), .int, (.array .byte), .int, .int], returnType := some .int }, accessFlags := 9, code := some k8c3 }
/-- java/lang/StringUTF16 -/
def k8 : Class := { plain "java/lang/StringUTF16" (some 0) with
  accessFlags := 48
  interfaces := #[]
  cf := some (fileOf pool8 12 #[.nestMembers #[627, 629, 369]] #[{ accessFlags := 0, nameIndex := 9, descriptorIndex := 10, attributes := #[] }, { accessFlags := 8, nameIndex := 261, descriptorIndex := 262, attributes := #[] }, { accessFlags := 9, nameIndex := 117, descriptorIndex := 122, attributes := #[] }, { accessFlags := 9, nameIndex := 117, descriptorIndex := 118, attributes := #[] }] 48 6 #[] #[{ accessFlags := 26, nameIndex := 61, descriptorIndex := 62, attributes := #[] }, { accessFlags := 26, nameIndex := 65, descriptorIndex := 62, attributes := #[] }, { accessFlags := 24, nameIndex := 430, descriptorIndex := 62, attributes := #[] }, { accessFlags := 4120, nameIndex := 46, descriptorIndex := 47, attributes := #[] }])
  fields := #[{ name := "HI_BYTE_SHIFT", type := .int, accessFlags := 26, slot := 0, constantValue := 0 }, { name := "LO_BYTE_SHIFT", type := .int, accessFlags := 26, slot := 1, constantValue := 0 }, { name := "MAX_LENGTH", type := .int, accessFlags := 24, slot := 2, constantValue := 0 }, { name := "$assertionsDisabled", type := .boolean, accessFlags := 4120, slot := 3, constantValue := 0 }]
  methods := #[k8m0, k8m1, k8m2, k8m3]
  instanceTypes := #[]
  staticTypes := #[.int, .int, .int, .boolean]
  resolved := Array.replicate 635 none
  statics := none }

def pool9 : Array CpInfo := pool [(1, .methodref 2 3), (0, .class_ 4), (0, .nameAndType 5 6), (0, u "java/lang/Object"), (0, u "<init>"), (0, u "()V"), (0, .fieldref 8 9), (0, .class_ 10), (0, .nameAndType 11 12), (0, u "com/example/clearance/clearance/sql/Token"), (0, u "kind"), (0, u "Lcom/example/clearance/clearance/sql/Token$Kind;"), (0, .fieldref 8 14), (0, .nameAndType 15 16), (0, u "text"), (0, u "Ljava/lang/String;"), (0, .fieldref 8 18), (0, .nameAndType 19 20), (0, u "start"), (0, u "I"), (6, .fieldref 28 29), (0, .class_ 30), (0, .nameAndType 31 12), (0, u "com/example/clearance/clearance/sql/Token$Kind"), (0, u "WORD"), (13, .fieldref 28 46), (0, .nameAndType 47 12), (0, u "QUOTED_NAME"), (21, u "(Lcom/example/clearance/clearance/sql/Token$Kind;Ljava/lang/String;I)V"), (10, u "isName"), (0, u "()Z")] 21

def k9c0 : Code := { maxStack := 2, maxLocals := 4, code := prog_41_method_1_code, exceptionTable := #[], attributes := #[] }
def k9m0 : Method := { name := "<init>", desc := "(Lcom/example/clearance/clearance/sql/Token$Kind;Ljava/lang/String;I)V", sig := { parameters := [(.object "com/example/clearance/clearance/sql/Token$Kind"), (.object "java/lang/String"), .int], returnType := none }, accessFlags := 0, code := some k9c0 }
def k9c1 : Code := { maxStack := 2, maxLocals := 1, code := prog_41_method_8_code, exceptionTable := #[], attributes := #[] }
def k9m1 : Method := { name := "isName", desc := "()Z", sig := { parameters := [], returnType := some .boolean }, accessFlags := 0, code := some k9c1 }
/-- com/example/clearance/clearance/sql/Token -/
def k9 : Class := { plain "com/example/clearance/clearance/sql/Token" (some 0) with
  accessFlags := 48
  interfaces := #[]
  cf := some (fileOf pool9 8 #[.nestMembers #[28]] #[{ accessFlags := 0, nameIndex := 5, descriptorIndex := 69, attributes := #[] }, { accessFlags := 0, nameIndex := 80, descriptorIndex := 81, attributes := #[] }] 48 2 #[] #[{ accessFlags := 18, nameIndex := 11, descriptorIndex := 12, attributes := #[] }, { accessFlags := 18, nameIndex := 15, descriptorIndex := 16, attributes := #[] }, { accessFlags := 18, nameIndex := 19, descriptorIndex := 20, attributes := #[] }])
  fields := #[{ name := "kind", type := (.object "com/example/clearance/clearance/sql/Token$Kind"), accessFlags := 18, slot := 0, constantValue := 0 }, { name := "text", type := (.object "java/lang/String"), accessFlags := 18, slot := 1, constantValue := 0 }, { name := "start", type := .int, accessFlags := 18, slot := 2, constantValue := 0 }]
  methods := #[k9m0, k9m1]
  instanceTypes := #[(.object "com/example/clearance/clearance/sql/Token$Kind"), (.object "java/lang/String"), .int]
  staticTypes := #[]
  resolved := Array.replicate 103 none
  statics := none }

def pool10 : Array CpInfo := pool [(2, .class_ 4), (1, u "java/lang/Enum"), (0, u "name"), (0, u "Ljava/lang/String;"), (2, u "ordinal"), (0, u "I"), (1, .class_ 14), (1, u "java/lang/Object"), (4, u "hash"), (86, .class_ 108), (1, u "java/lang/Enum$EnumDesc"), (2, .class_ 112), (0, u "java/lang/constant/Constable"), (0, .class_ 114), (0, u "java/lang/Comparable"), (0, .class_ 116), (0, u "java/io/Serializable")] 87

/-- java/lang/Enum -/
def k10 : Class := { plain "java/lang/Enum" (some 0) with
  accessFlags := 1057
  interfaces := #[5, 3, 2]
  cf := some (fileOf pool10 2 #[.nestMembers #[106]] #[] 1057 12 #[111, 113, 115] #[{ accessFlags := 18, nameIndex := 5, descriptorIndex := 6, attributes := #[] }, { accessFlags := 18, nameIndex := 9, descriptorIndex := 10, attributes := #[] }, { accessFlags := 2, nameIndex := 19, descriptorIndex := 10, attributes := #[] }])
  fields := #[{ name := "name", type := (.object "java/lang/String"), accessFlags := 18, slot := 0, constantValue := 0 }, { name := "ordinal", type := .int, accessFlags := 18, slot := 1, constantValue := 0 }, { name := "hash", type := .int, accessFlags := 2, slot := 2, constantValue := 0 }]
  methods := #[]
  instanceTypes := #[(.object "java/lang/String"), .int, .int]
  staticTypes := #[]
  resolved := Array.replicate 204 none
  statics := none }

def pool11 : Array CpInfo := pool [(1, .class_ 2), (0, u "com/example/clearance/clearance/sql/Token$Kind"), (2, u "WORD"), (0, u "Lcom/example/clearance/clearance/sql/Token$Kind;"), (2, u "QUOTED_NAME"), (2, u "STRING"), (2, u "NUMBER"), (2, u "SYMBOL"), (2, u "END"), (2, u "$VALUES"), (0, u "[Lcom/example/clearance/clearance/sql/Token$Kind;"), (6, .class_ 34), (1, u "java/lang/Enum"), (29, .class_ 65), (0, u "com/example/clearance/clearance/sql/Token")] 2

/-- com/example/clearance/clearance/sql/Token$Kind -/
def k11 : Class := { plain "com/example/clearance/clearance/sql/Token$Kind" (some 10) with
  accessFlags := 16432
  interfaces := #[]
  cf := some (fileOf pool11 1 #[.nestHost 64] #[] 16432 32 #[] #[{ accessFlags := 16409, nameIndex := 5, descriptorIndex := 6, attributes := #[] }, { accessFlags := 16409, nameIndex := 9, descriptorIndex := 6, attributes := #[] }, { accessFlags := 16409, nameIndex := 12, descriptorIndex := 6, attributes := #[] }, { accessFlags := 16409, nameIndex := 15, descriptorIndex := 6, attributes := #[] }, { accessFlags := 16409, nameIndex := 18, descriptorIndex := 6, attributes := #[] }, { accessFlags := 16409, nameIndex := 21, descriptorIndex := 6, attributes := #[] }, { accessFlags := 4122, nameIndex := 24, descriptorIndex := 25, attributes := #[] }])
  fields := #[{ name := "WORD", type := (.object "com/example/clearance/clearance/sql/Token$Kind"), accessFlags := 16409, slot := 0, constantValue := 0 }, { name := "QUOTED_NAME", type := (.object "com/example/clearance/clearance/sql/Token$Kind"), accessFlags := 16409, slot := 1, constantValue := 0 }, { name := "STRING", type := (.object "com/example/clearance/clearance/sql/Token$Kind"), accessFlags := 16409, slot := 2, constantValue := 0 }, { name := "NUMBER", type := (.object "com/example/clearance/clearance/sql/Token$Kind"), accessFlags := 16409, slot := 3, constantValue := 0 }, { name := "SYMBOL", type := (.object "com/example/clearance/clearance/sql/Token$Kind"), accessFlags := 16409, slot := 4, constantValue := 0 }, { name := "END", type := (.object "com/example/clearance/clearance/sql/Token$Kind"), accessFlags := 16409, slot := 5, constantValue := 0 }, { name := "$VALUES", type := (.array (.object "com/example/clearance/clearance/sql/Token$Kind")), accessFlags := 4122, slot := 6, constantValue := 0 }]
  methods := #[]
  instanceTypes := #[(.object "java/lang/String"), .int, .int]
  staticTypes := #[(.object "com/example/clearance/clearance/sql/Token$Kind"), (.object "com/example/clearance/clearance/sql/Token$Kind"), (.object "com/example/clearance/clearance/sql/Token$Kind"), (.object "com/example/clearance/clearance/sql/Token$Kind"), (.object "com/example/clearance/clearance/sql/Token$Kind"), (.object "com/example/clearance/clearance/sql/Token$Kind"), (.array (.object "com/example/clearance/clearance/sql/Token$Kind"))]
  resolved := Array.replicate 68 none
  statics := some 1 }

def pool12 : Array CpInfo := pool [(4, .class_ 6), (1, u "java/lang/Object"), (0, u "<init>"), (0, u "()V"), (5, .class_ 16), (1, u "java/lang/StringLatin1"), (104, u "$assertionsDisabled"), (0, u "Z"), (98, .class_ 223), (1, u "java/lang/StringLatin1$LinesSpliterator"), (166, .class_ 391), (0, u "java/lang/StringLatin1$CharsSpliterator")] 3

def k12m0 : Method := { name := "<init>", desc := "()V", sig := { parameters := [], returnType := none }, accessFlags := 0, code := none }
/-- java/lang/StringLatin1 -/
def k12 : Class := { plain "java/lang/StringLatin1" (some 0) with
  accessFlags := 48
  interfaces := #[]
  cf := some (fileOf pool12 14 #[.nestMembers #[390, 221]] #[{ accessFlags := 0, nameIndex := 7, descriptorIndex := 8, attributes := #[] }] 48 4 #[] #[{ accessFlags := 4120, nameIndex := 121, descriptorIndex := 122, attributes := #[] }])
  fields := #[{ name := "$assertionsDisabled", type := .boolean, accessFlags := 4120, slot := 0, constantValue := 0 }]
  methods := #[k12m0]
  instanceTypes := #[]
  staticTypes := #[.boolean]
  resolved := Array.replicate 395 none
  statics := none }

def pool13 : Array CpInfo := pool [(2, .class_ 4), (1, u "java/lang/Object"), (0, u "<init>"), (0, u "()V"), (17, .class_ 26), (1, u "jdk/internal/util/Preconditions"), (28, .class_ 56), (0, u "jdk/internal/util/Preconditions$4"), (57, .class_ 115), (0, u "jdk/internal/util/Preconditions$1"), (7, u "SIOOBE_FORMATTER"), (0, u "Ljava/util/function/BiFunction;"), (0, .class_ 126), (0, u "jdk/internal/util/Preconditions$2"), (3, u "AIOOBE_FORMATTER"), (0, .class_ 132), (0, u "jdk/internal/util/Preconditions$3"), (3, u "IOOBE_FORMATTER")] 57

def k13m0 : Method := { name := "<init>", desc := "()V", sig := { parameters := [], returnType := none }, accessFlags := 1, code := none }
/-- jdk/internal/util/Preconditions -/
def k13 : Class := { plain "jdk/internal/util/Preconditions" (some 0) with
  accessFlags := 33
  interfaces := #[]
  cf := some (fileOf pool13 24 #[.nestMembers #[55, 131, 125, 114]] #[{ accessFlags := 1, nameIndex := 5, descriptorIndex := 6, attributes := #[] }] 33 2 #[] #[{ accessFlags := 25, nameIndex := 123, descriptorIndex := 124, attributes := #[] }, { accessFlags := 25, nameIndex := 130, descriptorIndex := 124, attributes := #[] }, { accessFlags := 25, nameIndex := 136, descriptorIndex := 124, attributes := #[] }])
  fields := #[{ name := "SIOOBE_FORMATTER", type := (.object "java/util/function/BiFunction"), accessFlags := 25, slot := 0, constantValue := 0 }, { name := "AIOOBE_FORMATTER", type := (.object "java/util/function/BiFunction"), accessFlags := 25, slot := 1, constantValue := 0 }, { name := "IOOBE_FORMATTER", type := (.object "java/util/function/BiFunction"), accessFlags := 25, slot := 2, constantValue := 0 }]
  methods := #[k13m0]
  instanceTypes := #[]
  staticTypes := #[(.object "java/util/function/BiFunction"), (.object "java/util/function/BiFunction"), (.object "java/util/function/BiFunction")]
  resolved := Array.replicate 194 none
  statics := some 2 }

def pool14 : Array CpInfo := pool [(9, u "<init>"), (6, .class_ 18), (1, u "java/lang/Object"), (0, u "()V"), (1, .class_ 23), (1, u "jdk/internal/util/ArraysSupport"), (0, u "LOG2_ARRAY_LONG_INDEX_SCALE"), (0, u "I"), (2, u "U"), (0, u "Ljdk/internal/misc/Unsafe;"), (8, u "BIG_ENDIAN"), (0, u "Z"), (8, u "LOG2_BYTE_BIT_SIZE"), (4, u "LOG2_ARRAY_INT_INDEX_SCALE"), (54, u "JLA"), (0, u "Ljdk/internal/access/JavaLangAccess;"), (11, u "LOG2_ARRAY_BOOLEAN_INDEX_SCALE"), (9, u "LOG2_ARRAY_BYTE_INDEX_SCALE"), (5, u "LOG2_ARRAY_CHAR_INDEX_SCALE"), (5, u "LOG2_ARRAY_SHORT_INDEX_SCALE"), (18, u "LOG2_ARRAY_FLOAT_INDEX_SCALE"), (24, u "LOG2_ARRAY_DOUBLE_INDEX_SCALE"), (89, u "T_BOOLEAN"), (2, u "T_CHAR"), (1, u "T_FLOAT"), (1, u "T_DOUBLE"), (1, u "T_BYTE"), (1, u "T_SHORT"), (1, u "T_INT"), (1, u "T_LONG"), (1, u "SOFT_MAX_ARRAY_LENGTH")] 83

def k14m0 : Method := { name := "<init>", desc := "()V", sig := { parameters := [], returnType := none }, accessFlags := 2, code := none }
/-- jdk/internal/util/ArraysSupport -/
def k14 : Class := { plain "jdk/internal/util/ArraysSupport" (some 0) with
  accessFlags := 33
  interfaces := #[]
  cf := some (fileOf pool14 21 #[] #[{ accessFlags := 2, nameIndex := 9, descriptorIndex := 19, attributes := #[] }] 33 16 #[] #[{ accessFlags := 24, nameIndex := 28, descriptorIndex := 29, attributes := #[] }, { accessFlags := 26, nameIndex := 38, descriptorIndex := 39, attributes := #[] }, { accessFlags := 25, nameIndex := 121, descriptorIndex := 25, attributes := #[] }, { accessFlags := 25, nameIndex := 131, descriptorIndex := 25, attributes := #[] }, { accessFlags := 25, nameIndex := 137, descriptorIndex := 25, attributes := #[] }, { accessFlags := 25, nameIndex := 143, descriptorIndex := 25, attributes := #[] }, { accessFlags := 25, nameIndex := 53, descriptorIndex := 25, attributes := #[] }, { accessFlags := 25, nameIndex := 24, descriptorIndex := 25, attributes := #[] }, { accessFlags := 25, nameIndex := 162, descriptorIndex := 25, attributes := #[] }, { accessFlags := 25, nameIndex := 187, descriptorIndex := 25, attributes := #[] }, { accessFlags := 26, nameIndex := 48, descriptorIndex := 25, attributes := #[] }, { accessFlags := 25, nameIndex := 277, descriptorIndex := 25, attributes := #[] }, { accessFlags := 25, nameIndex := 280, descriptorIndex := 25, attributes := #[] }, { accessFlags := 25, nameIndex := 282, descriptorIndex := 25, attributes := #[] }, { accessFlags := 25, nameIndex := 284, descriptorIndex := 25, attributes := #[] }, { accessFlags := 25, nameIndex := 286, descriptorIndex := 25, attributes := #[] }, { accessFlags := 25, nameIndex := 288, descriptorIndex := 25, attributes := #[] }, { accessFlags := 25, nameIndex := 290, descriptorIndex := 25, attributes := #[] }, { accessFlags := 25, nameIndex := 292, descriptorIndex := 25, attributes := #[] }, { accessFlags := 26, nameIndex := 108, descriptorIndex := 109, attributes := #[] }, { accessFlags := 25, nameIndex := 294, descriptorIndex := 25, attributes := #[] }])
  fields := #[{ name := "U", type := (.object "jdk/internal/misc/Unsafe"), accessFlags := 24, slot := 0, constantValue := 0 }, { name := "BIG_ENDIAN", type := .boolean, accessFlags := 26, slot := 1, constantValue := 0 }, { name := "LOG2_ARRAY_BOOLEAN_INDEX_SCALE", type := .int, accessFlags := 25, slot := 2, constantValue := 0 }, { name := "LOG2_ARRAY_BYTE_INDEX_SCALE", type := .int, accessFlags := 25, slot := 3, constantValue := 0 }, { name := "LOG2_ARRAY_CHAR_INDEX_SCALE", type := .int, accessFlags := 25, slot := 4, constantValue := 0 }, { name := "LOG2_ARRAY_SHORT_INDEX_SCALE", type := .int, accessFlags := 25, slot := 5, constantValue := 0 }, { name := "LOG2_ARRAY_INT_INDEX_SCALE", type := .int, accessFlags := 25, slot := 6, constantValue := 0 }, { name := "LOG2_ARRAY_LONG_INDEX_SCALE", type := .int, accessFlags := 25, slot := 7, constantValue := 0 }, { name := "LOG2_ARRAY_FLOAT_INDEX_SCALE", type := .int, accessFlags := 25, slot := 8, constantValue := 0 }, { name := "LOG2_ARRAY_DOUBLE_INDEX_SCALE", type := .int, accessFlags := 25, slot := 9, constantValue := 0 }, { name := "LOG2_BYTE_BIT_SIZE", type := .int, accessFlags := 26, slot := 10, constantValue := 0 }, { name := "T_BOOLEAN", type := .int, accessFlags := 25, slot := 11, constantValue := 0 }, { name := "T_CHAR", type := .int, accessFlags := 25, slot := 12, constantValue := 0 }, { name := "T_FLOAT", type := .int, accessFlags := 25, slot := 13, constantValue := 0 }, { name := "T_DOUBLE", type := .int, accessFlags := 25, slot := 14, constantValue := 0 }, { name := "T_BYTE", type := .int, accessFlags := 25, slot := 15, constantValue := 0 }, { name := "T_SHORT", type := .int, accessFlags := 25, slot := 16, constantValue := 0 }, { name := "T_INT", type := .int, accessFlags := 25, slot := 17, constantValue := 0 }, { name := "T_LONG", type := .int, accessFlags := 25, slot := 18, constantValue := 0 }, { name := "JLA", type := (.object "jdk/internal/access/JavaLangAccess"), accessFlags := 26, slot := 19, constantValue := 0 }, { name := "SOFT_MAX_ARRAY_LENGTH", type := .int, accessFlags := 25, slot := 20, constantValue := 0 }]
  methods := #[k14m0]
  instanceTypes := #[]
  staticTypes := #[(.object "jdk/internal/misc/Unsafe"), .boolean, .int, .int, .int, .int, .int, .int, .int, .int, .int, .int, .int, .int, .int, .int, .int, .int, .int, (.object "jdk/internal/access/JavaLangAccess"), .int]
  resolved := Array.replicate 378 none
  statics := none }

def pool15 : Array CpInfo := pool [(1, u "java/lang/Cloneable"), (0, .class_ 1), (0, u "java/lang/Object"), (0, .class_ 3)] 3

/-- java/lang/Cloneable -/
def k15 : Class := { plain "java/lang/Cloneable" (some 0) with
  accessFlags := 1537
  interfaces := #[]
  cf := some (fileOf pool15 2 #[] #[] 1537 4 #[] #[])
  fields := #[]
  methods := #[]
  instanceTypes := #[]
  staticTypes := #[]
  resolved := Array.replicate 8 none
  statics := none }

/-- the primitive byte -/
def k16 : Class := { plain "byte" none with kind := .primitive 'B', accessFlags := 0x411 }
/-- [B -/
def k17 : Class := { plain "[B" (some 0) with kind := .array 16 .byte, interfaces := #[15, 2], accessFlags := 1041 }

/-- the primitive char -/
def k18 : Class := { plain "char" none with kind := .primitive 'C', accessFlags := 0x411 }
/-- [C -/
def k19 : Class := { plain "[C" (some 0) with kind := .array 18 .char, interfaces := #[15, 2], accessFlags := 1041 }

/-- the primitive int -/
def k20 : Class := { plain "int" none with kind := .primitive 'I', accessFlags := 0x411 }
/-- [I -/
def k21 : Class := { plain "[I" (some 0) with kind := .array 20 .int, interfaces := #[15, 2], accessFlags := 1041 }

def heap : Heap := #[{ cls := 7, slots := #[.long 0, .int 1, .null, .int 0, .null, .int 0, .int 0], vm := .statics 7 },
  { cls := 11, slots := #[.ref 3, .ref 4, .ref 5, .ref 6, .ref 7, .ref 8, .null], vm := .statics 11 },
  { cls := 13, slots := #[.null, .null, .null], vm := .statics 13 },
  { cls := 11, slots := #[.null, .int 0, .int 0], vm := .none },
  { cls := 11, slots := #[.null, .int 1, .int 0], vm := .none },
  { cls := 11, slots := #[.null, .int 2, .int 0], vm := .none },
  { cls := 11, slots := #[.null, .int 3, .int 0], vm := .none },
  { cls := 11, slots := #[.null, .int 4, .int 0], vm := .none },
  { cls := 11, slots := #[.null, .int 5, .int 0], vm := .none }]
def classes : Array Class := #[k0, k1, k2, k3, k4, k5, k6, k7, k8, k9, k10, k11, k12, k13, k14, k15, k16, k17, k18, k19, k20, k21]
def interned : List (Array UInt16 × Addr) := []
def slotsUsed : Nat := 35
def theMethod : MethodId := ⟨1, 2⟩
def args0 : Array Value := #[.int 2, .int 5, .int 7, .int 9]
def aboutOver (below : List Frame) : State where
  vm := { classes := classes, interned := interned.toArray }
  heap := heap
  slotsUsed := slotsUsed
  threads := #[{ frames := .invoking theMethod args0 :: below }]
def below0 : List Frame := [.native { method := ⟨0, 0⟩, args := #[] }]
def about1 : State := aboutOver below0
def p0 : Program := .bare "" "" ""
def e0 : Env := launch0.env 0 0 0
theorem w_frames : about1.frames = Frame.invoking theMethod args0 :: below0 := rfl
set_option maxRecDepth 65536 in
theorem w_args : argsFit about1.vm theMethod args0 = true := by decide +kernel
set_option maxRecDepth 65536 in
theorem w_heap : heapFits about1 = true := by decide +kernel
set_option maxRecDepth 65536 in
theorem w_runnable : about1.curStatus? = some .runnable := by decide +kernel
set_option maxRecDepth 65536 in
theorem w_alone : about1.alone = true := by decide +kernel
set_option maxRecDepth 65536 in
theorem w_named : about1.methodNamed? x = some theMethod := by decide +kernel
set_option maxRecDepth 65536 in
theorem w_hears : about1.hears theMethod below0 = true := by decide +kernel
set_option maxRecDepth 65536 in
theorem w_ripe : about1.ripe theMethod args0 below0 = true := by decide +kernel
theorem w_running : about1.status = .running := rfl
set_option maxRecDepth 65536 in
theorem w_room : about1.hasRoom e0.platform room_1 = true :=
  launch0.hasRoom_least _ room_1 (by decide +kernel) (by decide +kernel) (by decide +kernel) (by decide +kernel) (by decide +kernel) (by decide +kernel)
theorem allAtoms_all (ts : List Jvm.Cond) (a : Array Jvm.Value) (st : Jvm.State) : (allAtoms ts).before a st = ts.all (fun c => c.before a st) := by
  induction ts with
  | nil => rfl
  | cons c t ih =>
    show (Jvm.Cond.and c (allAtoms t)).before a st = _
    rw [Jvm.Cond.before_and, ih, List.all_cons]
def words1 : List Jvm.Cond := Jvm.Cond.code x code maxLocals ret :: tables_1
/-- a 'code' word, met by the world's own term for the bytes: nothing is compared byte by byte -/
theorem code_word {y : MethodName} {bytes : ByteArray} {mx : Nat} {rt : Option FieldType} {a : Array Value} {s : State} {m : MethodId} {meth : Method} {c : Code} (h1 : s.methodNamed? y = some m) (h2 : s.vm.method? m = some meth) (h3 : meth.code = some c) (h4 : c.code = bytes)
    (h5 : (c.maxLocals == mx && c.exceptionTable.isEmpty && decide (c.maxStack ≤ mostOperands) && decide (meth.sig.returnType = rt) && !meth.locks && decide (parseMethodDescriptor y.desc = some meth.sig)) = true) : (Jvm.Cond.code y bytes mx rt).before a s = true := by
  simp only [Bool.and_eq_true, beq_iff_eq, Bool.not_eq_true', decide_eq_true_eq] at h5
  obtain ⟨⟨⟨⟨⟨g1, g2⟩, g3⟩, g4⟩, g5⟩, g6⟩ := h5
  simp [Cond.before, Cond.holds, Cond.value, h1, h2, h3, h4, g1, g2, g3, g4, g5, g6]
def isCode : Jvm.Cond → Bool
  | .code _ _ _ _ => true
  | _ => false
theorem all_split {L : List Jvm.Cond} {P : Jvm.Cond → Bool} (h1 : L.all (fun c => isCode c || P c) = true) (h2 : ∀ c ∈ L.filter isCode, P c = true) : L.all P = true := by
  refine List.all_eq_true.mpr fun c hc => ?_
  have h := List.all_eq_true.mp h1 c hc
  rcases Bool.eq_false_or_eq_true (isCode c) with hi | hi
  · exact h2 c (List.mem_filter.mpr ⟨hc, hi⟩)
  · simpa [hi] using h
set_option maxRecDepth 65536 in
theorem w_c0 : (Jvm.Cond.code x code maxLocals ret).before args0 about1 = true := code_word (m := ⟨1, 2⟩) (meth := k1m2) (c := k1c2) (by decide +kernel) rfl rfl rfl (by decide +kernel)
set_option maxRecDepth 65536 in
theorem w_c1 : (Jvm.Cond.code ({ cls := "java/lang/String", name := "<init>", desc := "([C)V" } : Jvm.MethodName) jdk_42_method_3_code (2 : Nat) (Option.none : Option Jvm.ClassFile.FieldType)).before args0 about1 = true := code_word (m := ⟨7, 1⟩) (meth := k7m1) (c := k7c1) (by decide +kernel) rfl rfl rfl (by decide +kernel)
set_option maxRecDepth 65536 in
theorem w_c2 : (Jvm.Cond.code ({ cls := "java/lang/String", name := "<init>", desc := "([CIILjava/lang/Void;)V" } : Jvm.MethodName) jdk_42_method_149_code (6 : Nat) (Option.none : Option Jvm.ClassFile.FieldType)).before args0 about1 = true := code_word (m := ⟨7, 2⟩) (meth := k7m2) (c := k7c2) (by decide +kernel) rfl rfl rfl (by decide +kernel)
set_option maxRecDepth 65536 in
theorem w_c3 : (Jvm.Cond.code ({ cls := "java/lang/Object", name := "<init>", desc := "()V" } : Jvm.MethodName) object_method_1_code (1 : Nat) (Option.none : Option Jvm.ClassFile.FieldType)).before args0 about1 = true := code_word (m := ⟨0, 0⟩) (meth := k0m0) (c := k0c0) (by decide +kernel) rfl rfl rfl (by decide +kernel)
set_option maxRecDepth 65536 in
theorem w_c4 : (Jvm.Cond.code ({ cls := "java/lang/StringUTF16", name := "compress", desc := "([CII)[B" } : Jvm.MethodName) jdk_52_method_16_code (6 : Nat) (Option.some (Jvm.ClassFile.FieldType.array Jvm.ClassFile.FieldType.byte))).before args0 about1 = true := code_word (m := ⟨8, 2⟩) (meth := k8m2) (c := k8c2) (by decide +kernel) rfl rfl rfl (by decide +kernel)
set_option maxRecDepth 65536 in
theorem w_c5 : (Jvm.Cond.code ({ cls := "java/lang/StringUTF16", name := "compress", desc := "([CI[BII)I" } : Jvm.MethodName) jdk_52_method_21_code (7 : Nat) (Option.some Jvm.ClassFile.FieldType.int)).before args0 about1 = true := code_word (m := ⟨8, 3⟩) (meth := k8m3) (c := k8c3) (by decide +kernel) rfl rfl rfl (by decide +kernel)
set_option maxRecDepth 65536 in
theorem w_c6 : (Jvm.Cond.code ({ cls := "java/lang/StringUTF16", name := "coderFromArrayLen", desc := "([BI)B" } : Jvm.MethodName) jdk_52_method_15_code (2 : Nat) (Option.some Jvm.ClassFile.FieldType.byte)).before args0 about1 = true := code_word (m := ⟨8, 1⟩) (meth := k8m1) (c := k8c1) (by decide +kernel) rfl rfl rfl (by decide +kernel)
set_option maxRecDepth 65536 in
theorem w_c7 : (Jvm.Cond.code ({ cls := "com/example/clearance/clearance/sql/TokenIsNamePinLaw", name := "kindOf", desc := "(I)Lcom/example/clearance/clearance/sql/Token$Kind;" } : Jvm.MethodName) method_2_code (1 : Nat) (Option.some (Jvm.ClassFile.FieldType.object "com/example/clearance/clearance/sql/Token$Kind"))).before args0 about1 = true := code_word (m := ⟨1, 1⟩) (meth := k1m1) (c := k1c1) (by decide +kernel) rfl rfl rfl (by decide +kernel)
set_option maxRecDepth 65536 in
theorem w_c8 : (Jvm.Cond.code ({ cls := "com/example/clearance/clearance/sql/Token", name := "<init>", desc := "(Lcom/example/clearance/clearance/sql/Token$Kind;Ljava/lang/String;I)V" } : Jvm.MethodName) prog_41_method_1_code (4 : Nat) (Option.none : Option Jvm.ClassFile.FieldType)).before args0 about1 = true := code_word (m := ⟨9, 0⟩) (meth := k9m0) (c := k9c0) (by decide +kernel) rfl rfl rfl (by decide +kernel)
set_option maxRecDepth 65536 in
theorem w_c9 : (Jvm.Cond.code ({ cls := "com/example/clearance/clearance/sql/Token", name := "isName", desc := "()Z" } : Jvm.MethodName) prog_41_method_8_code (1 : Nat) (Option.some Jvm.ClassFile.FieldType.boolean)).before args0 about1 = true := code_word (m := ⟨9, 1⟩) (meth := k9m1) (c := k9c1) (by decide +kernel) rfl rfl rfl (by decide +kernel)
def codes1 : List Jvm.Cond := [Jvm.Cond.code x code maxLocals ret, Jvm.Cond.code ({ cls := "java/lang/String", name := "<init>", desc := "([C)V" } : Jvm.MethodName) jdk_42_method_3_code (2 : Nat) (Option.none : Option Jvm.ClassFile.FieldType), Jvm.Cond.code ({ cls := "java/lang/String", name := "<init>", desc := "([CIILjava/lang/Void;)V" } : Jvm.MethodName) jdk_42_method_149_code (6 : Nat) (Option.none : Option Jvm.ClassFile.FieldType), Jvm.Cond.code ({ cls := "java/lang/Object", name := "<init>", desc := "()V" } : Jvm.MethodName) object_method_1_code (1 : Nat) (Option.none : Option Jvm.ClassFile.FieldType), Jvm.Cond.code ({ cls := "java/lang/StringUTF16", name := "compress", desc := "([CII)[B" } : Jvm.MethodName) jdk_52_method_16_code (6 : Nat) (Option.some (Jvm.ClassFile.FieldType.array Jvm.ClassFile.FieldType.byte)), Jvm.Cond.code ({ cls := "java/lang/StringUTF16", name := "compress", desc := "([CI[BII)I" } : Jvm.MethodName) jdk_52_method_21_code (7 : Nat) (Option.some Jvm.ClassFile.FieldType.int), Jvm.Cond.code ({ cls := "java/lang/StringUTF16", name := "coderFromArrayLen", desc := "([BI)B" } : Jvm.MethodName) jdk_52_method_15_code (2 : Nat) (Option.some Jvm.ClassFile.FieldType.byte), Jvm.Cond.code ({ cls := "com/example/clearance/clearance/sql/TokenIsNamePinLaw", name := "kindOf", desc := "(I)Lcom/example/clearance/clearance/sql/Token$Kind;" } : Jvm.MethodName) method_2_code (1 : Nat) (Option.some (Jvm.ClassFile.FieldType.object "com/example/clearance/clearance/sql/Token$Kind")), Jvm.Cond.code ({ cls := "com/example/clearance/clearance/sql/Token", name := "<init>", desc := "(Lcom/example/clearance/clearance/sql/Token$Kind;Ljava/lang/String;I)V" } : Jvm.MethodName) prog_41_method_1_code (4 : Nat) (Option.none : Option Jvm.ClassFile.FieldType), Jvm.Cond.code ({ cls := "com/example/clearance/clearance/sql/Token", name := "isName", desc := "()Z" } : Jvm.MethodName) prog_41_method_8_code (1 : Nat) (Option.some Jvm.ClassFile.FieldType.boolean)]
set_option maxRecDepth 65536 in
theorem codes_eq : words1.filter isCode = codes1 := rfl
theorem w_codes : ∀ c ∈ words1.filter isCode, c.before args0 about1 = true := by
  rw [codes_eq]
  intro c hc
  simp only [codes1, List.mem_cons, List.not_mem_nil, or_false] at hc
  rcases hc with rfl | rfl | rfl | rfl | rfl | rfl | rfl | rfl | rfl | rfl
  · exact w_c0
  · exact w_c1
  · exact w_c2
  · exact w_c3
  · exact w_c4
  · exact w_c5
  · exact w_c6
  · exact w_c7
  · exact w_c8
  · exact w_c9
set_option maxRecDepth 65536 in
theorem w_t1 : (words1.take 24).all (fun c => isCode c || c.before args0 about1) = true := by decide +kernel
set_option maxRecDepth 65536 in
theorem w_t2 : ((words1.drop 24).take 24).all (fun c => isCode c || c.before args0 about1) = true := by decide +kernel
set_option maxRecDepth 65536 in
theorem w_t3 : ((words1.drop 24).drop 24).all (fun c => isCode c || c.before args0 about1) = true := by decide +kernel
theorem w_tables : (allAtoms (Jvm.Cond.code x code maxLocals ret :: tables_1)).before args0 about1 = true := by
  rw [allAtoms_all]
  show words1.all (fun c => c.before args0 about1) = true
  refine all_split ?_ w_codes
  rw [← List.take_append_drop 24 words1, List.all_append, w_t1, ← List.take_append_drop 24 (words1.drop 24), List.all_append, w_t2, w_t3]
  rfl
set_option maxRecDepth 65536 in
theorem w_rest : rest_1_c.before args0 about1 = true := by decide +kernel
set_option maxRecDepth 65536 in
theorem w_case : (Jvm.Cond.and given_1 narrow_1).before args0 about1 = true := by decide +kernel
theorem w_applies : (headSpec (Jvm.Cond.code x code maxLocals ret :: tables_1) room_1).applies x e0.platform about1 = true :=
  (Spec.applies_iff w_frames).mpr ⟨w_running, w_runnable, w_alone, w_named, w_hears, w_ripe, w_room, w_tables⟩
theorem atStart : AtStart classFile x code maxLocals ret World_1 tables_1 room_1 Calls_1 rest_1 Pre_1 launch0 p0 e0 about1 theMethod args0 below0 :=
  ⟨lists_1, trivial, launch0.admits_env _ _ _, launch0.least_env, fairChoices_fair.cas, fairChoices_fair.clock, w_frames, w_args, w_heap, w_applies, trivial, w_rest, w_case⟩
end start1
theorem witness_1 : WitnessClaimed_1 := ⟨start1.p0, start1.e0, start1.about1, start1.theMethod, start1.args0, start1.below0, start1.atStart⟩
end Jvm.Pilot.@@N@@
