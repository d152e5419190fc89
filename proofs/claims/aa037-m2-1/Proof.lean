import JvmDerived
import JvmDerived.Pilot.@@N@@Statement
import JvmDerived.Pilot.@@N@@Code
set_option linter.unusedVariables false
set_option linter.unusedSimpArgs false
/- laws to paste: Road.backV (cut by pick.py; bodies as the Statement names them) -/
namespace Jvm.Pilot.@@N@@
namespace StrChars
open Jvm Sem ClassFile Op Lib Jvm.Stand Jvm.Free.XT Jvm.Free.ALB Jvm.Free.JM Jvm.Free
open Jvm.Lib.Cold (StaticIs)
/-- a char array whose places are chars -/
def Ch (a : Addr) (A : Cell) (U : State) : Prop := Arr .char a A U ∧ Typed .char A
theorem Ch.mv {a : Addr} {A : Cell} {U U' : State} (h : Ch a A U) (hal : U.vm.Alike U'.vm) (hh : U'.heap = U.heap) : Ch a A U' := ⟨h.1.mv hal hh, h.2⟩
theorem Ch.keep {a : Addr} {A : Cell} {U U' : State} (h : Ch a A U) (hal : U.vm.Alike U'.vm) (hk : U'.heap[a]? = some A) : Ch a A U' := ⟨h.1.keep hal hk, h.2⟩
/-- what place i of a char[]'s cell holds -/
def cv (A : Cell) (i : Nat) : Int32 := match A.slots[i]? with | some (.int x) => x | _ => 0
theorem Ch.get {a : Addr} {A : Cell} {U : State} (h : Ch a A U) {i : Nat} (hi : i < A.slots.size) : A.slots[i]? = some (.int (cv A i)) := by
  have e := Array.getElem?_eq_getElem hi
  have f := h.2 i _ e
  unfold cv; rw [e]
  generalize A.slots[i] = v at f
  cases v <;> simp [fits] at f ⊢
/-- the byte that i2b leaves of a char -/
def lo8 (x : Int32) : Int32 := x.toInt8.toInt32
theorem fits_lo8 (y : Int32) : fits .byte (.int (lo8 y)) = true := by
  have h1 := y.toInt8.le_toInt
  have h2 := y.toInt8.toInt_lt
  simp only [lo8, fits, Bool.and_eq_true, decide_eq_true_eq, Int32.le_iff_toInt_le, Int8.toInt_toInt32, show (-128 : Int32).toInt = -128 from by decide, show (127 : Int32).toInt = 127 from by decide]
  omega
/-- A' is A but that each place j of lo .. hi - 1 holds f j -/
def Laid (A A' : Cell) (lo hi : Nat) (f : Nat → Value) : Prop := A'.cls = A.cls ∧ A'.vm = A.vm ∧ A'.slots.size = A.slots.size ∧ ∀ i, A'.slots[i]? = if lo ≤ i ∧ i < hi then some (f i) else A.slots[i]?
theorem Laid.zero (A : Cell) (lo : Nat) (f : Nat → Value) : Laid A A lo (lo + 0) f := ⟨rfl, rfl, rfl, fun i => by rw [if_neg (by omega)]⟩
theorem Laid.step {A Ak : Cell} {lo k : Nat} {f : Nat → Value} {v : Value} (h : Laid A Ak lo k f) (hlo : lo ≤ k) (hk : k < Ak.slots.size) (hv : v = f k) : Laid A (Ak.setSlot k v) lo (k + 1) f := by
  refine ⟨h.1, h.2.1, by simpa [Cell.setSlot] using h.2.2.1, fun i => ?_⟩
  by_cases e : k = i
  · subst e; rw [Cell.slots_setSlot_self v hk, if_pos (by omega), hv]
  · rw [Cell.slots_setSlot_ne v e, h.2.2.2 i]
    by_cases q : lo ≤ i ∧ i < k
    · rw [if_pos q, if_pos (by omega)]
    · rw [if_neg q, if_neg (by omega)]
def U16 : String := "java/lang/StringUTF16"
namespace Cmp5
def yN : MethodName := ⟨"java/lang/StringUTF16", "compress", "([CI[BII)I"⟩
abbrev yB : ByteArray := jdk_52_method_21_code
theorem d0 : decode yB 0 = .ok (.iconst 0, 1) := by decide +kernel
theorem d1 : decode yB 1 = .ok (.istore 5, 2) := by decide +kernel
theorem d3 : decode yB 3 = .ok (.iload 5, 2) := by decide +kernel
theorem d5 : decode yB 5 = .ok (.iload 4, 2) := by decide +kernel
theorem d7 : decode yB 7 = .ok (.if_icmp (.ge) 37, 3) := by decide +kernel
theorem d10 : decode yB 10 = .ok (.aload_n 0, 1) := by decide +kernel
theorem d11 : decode yB 11 = .ok (.iload_n 1, 1) := by decide +kernel
theorem d12 : decode yB 12 = .ok (.caload, 1) := by decide +kernel
theorem d13 : decode yB 13 = .ok (.istore 6, 2) := by decide +kernel
theorem d15 : decode yB 15 = .ok (.iload 6, 2) := by decide +kernel
theorem d17 : decode yB 17 = .ok (.sipush 255, 3) := by decide +kernel
theorem d20 : decode yB 20 = .ok (.if_icmp (.le) 6, 3) := by decide +kernel
theorem d26 : decode yB 26 = .ok (.aload_n 2, 1) := by decide +kernel
theorem d27 : decode yB 27 = .ok (.iload_n 3, 1) := by decide +kernel
theorem d28 : decode yB 28 = .ok (.iload 6, 2) := by decide +kernel
theorem d30 : decode yB 30 = .ok (.i2b, 1) := by decide +kernel
theorem d31 : decode yB 31 = .ok (.bastore, 1) := by decide +kernel
theorem d32 : decode yB 32 = .ok (.iinc 1 1, 3) := by decide +kernel
theorem d35 : decode yB 35 = .ok (.iinc 3 1, 3) := by decide +kernel
theorem d38 : decode yB 38 = .ok (.iinc 5 1, 3) := by decide +kernel
theorem d41 : decode yB 41 = .ok (.goto (-38), 3) := by decide +kernel
theorem d44 : decode yB 44 = .ok (.iload 4, 2) := by decide +kernel
theorem d46 : decode yB 46 = .ok (.ireturn, 1) := by decide +kernel
def site : List Cond := []
def tab : Cond := tabOf yN yB 7 (some .int) site
def P (b : Addr) (A : Cell) (d : Addr) (B : Cell) (o q len : Nat) (args : Array Value) (s : State) : Prop := args = #[.ref b, .int (Int32.ofNat o), .ref d, .int (Int32.ofNat q), .int (Int32.ofNat len)] ∧ Ch b A s ∧ Arr .byte d B s ∧ b ≠ d ∧ o + len ≤ A.slots.size ∧ q + len ≤ B.slots.size ∧ ∀ i, i < len → ¬ 255 < cv A (o + i)
def E (b : Addr) (A : Cell) (d : Addr) (B : Cell) (o q len : Nat) (r : Option Value) (s u : State) : Prop := r = some (.int (Int32.ofNat len)) ∧ ∃ B', Put d B' s u ∧ Laid B B' q (q + len) (fun j => Value.int (lo8 (cv A (o + (j - q)))))
/-- no char of the range above 255: len; the places written hold each char's low byte -/
theorem law (l : Launch) (b : Addr) (A : Cell) (d : Addr) (B : Cell) (o q len : Nat) : Law l yN 5 5 0 0 yB 7 (some .int) site (P b A d B o q len) (E b A d B o q len) (copyLocs d q len) 0 0 := by
  refine Law.of_walk (plainFor_of_name (by decide +kernel)) (by decide +kernel) (by decide +kernel) (by decide) (fun _ _ h => by rw [h.1]; rfl) (fun _ U U' hal hh h => ⟨h.1, h.2.1.mv hal hh, h.2.2.1.mv hal hh, h.2.2.2⟩) (fun r U U' V V' h1 hal h2 h => ⟨h.1, h.2.elim fun B' q => ⟨B', q.1.mv h1 h2, q.2⟩⟩) ?_
  intro p e s m args below meth c s₁ X0 hexec hbytes hml hret hlk hnm hown hh0 W hP
  obtain ⟨rfl, hA, hB, hne, l1, l2, hp⟩ := hP
  have c1 : Steps p.tables e below (s₁.setTop (entryFrame m #[.ref b, .int (Int32.ofNat o), .ref d, .int (Int32.ofNat q), .int (Int32.ofNat len)] 7)) (s₁.setTop (mkF m 0 #[.val (.ref b), .val (.int (Int32.ofNat o)), .val (.ref d), .val (.int (Int32.ofNat q)), .val (.int (Int32.ofNat len)), .unset, .unset] [])) := entry rfl
  have hA0 := hA.1.mv X0.warmed.alike hh0
  have hB0 := hB.mv X0.warmed.alike hh0
  have a31 := hA.1.2.2.2
  have c2 : Steps p.tables e below (s₁.setTop (entryFrame m #[.ref b, .int (Int32.ofNat o), .ref d, .int (Int32.ofNat q), .int (Int32.ofNat len)] 7)) (s₁.setTop (mkF m 3 #[.val (.ref b), .val (.int (Int32.ofNat o)), .val (.ref d), .val (.int (Int32.ofNat q)), .val (.int (Int32.ofNat len)), .val (.int 0), .unset] [])) := c1.trans (by
    refine iconstV X0.here hexec rfl 0 (hb hbytes d0) (by decide) ?_
    refine XS.istore X0.here hexec rfl (hb hbytes d1) rfl rfl ?_
    exact Steps.refl _)
  have loop : ∀ (r i : Nat), i + r = len → ∀ (z : Slot), (z = .unset ∨ ∃ w, z = .val w ∧ w.category = 1) → ∀ (Tl : State) (Bk : Cell), Stand p l e { frames := 0, locals := 0, cells := 0, slots := 0 } s m #[.ref b, .int (Int32.ofNat o), .ref d, .int (Int32.ofNat q), .int (Int32.ofNat len)] below meth c Tl ([] ++ copyLocs d q i) 0 0 → Put d Bk s₁ Tl → Laid B Bk q (q + i) (fun j => Value.int (lo8 (cv A (o + (j - q))))) →
      Steps p.tables e below (s₁.setTop (entryFrame m #[.ref b, .int (Int32.ofNat o), .ref d, .int (Int32.ofNat q), .int (Int32.ofNat len)] 7)) (Tl.setTop (mkF m 3 #[.val (.ref b), .val (.int (Int32.ofNat (o + i))), .val (.ref d), .val (.int (Int32.ofNat (q + i))), .val (.int (Int32.ofNat len)), .val (.int (Int32.ofNat i)), z] [])) → ∃ (T' : State) (B' : Cell) (z' : Slot), Stand p l e { frames := 0, locals := 0, cells := 0, slots := 0 } s m #[.ref b, .int (Int32.ofNat o), .ref d, .int (Int32.ofNat q), .int (Int32.ofNat len)] below meth c T' ([] ++ copyLocs d q len) 0 0 ∧ Put d B' s₁ T' ∧ Laid B B' q (q + len) (fun j => Value.int (lo8 (cv A (o + (j - q))))) ∧
      Steps p.tables e below (s₁.setTop (entryFrame m #[.ref b, .int (Int32.ofNat o), .ref d, .int (Int32.ofNat q), .int (Int32.ofNat len)] 7)) (T'.setTop (mkF m 3 #[.val (.ref b), .val (.int (Int32.ofNat (o + len))), .val (.ref d), .val (.int (Int32.ofNat (q + len))), .val (.int (Int32.ofNat len)), .val (.int (Int32.ofNat len)), z'] [])) := by
    intro r
    induction r with
    | zero =>
      intro i hi z hz Tl Bk Xl pl fl cl
      have hil : i = len := by omega
      rw [hil] at Xl fl cl
      exact ⟨Tl, Bk, z, Xl, pl, fl, cl⟩
    | succ r ih =>
      intro i hi z hz Tl Bk Xl pl fl cl
      have all := X0.warmed.alike.symm.trans Xl.warmed.alike
      have hAl := hA0.keep all (pl.other hne hA0.1)
      have hBk := hB0.like all pl.1 fl.1 fl.2.1 fl.2.2.1
      have hlt : q + i < Bk.slots.size := by rw [fl.2.2.1]; omega
      have c3 : Steps p.tables e below (s₁.setTop (entryFrame m #[.ref b, .int (Int32.ofNat o), .ref d, .int (Int32.ofNat q), .int (Int32.ofNat len)] 7)) (Tl.setTop (mkF m 12 #[.val (.ref b), .val (.int (Int32.ofNat (o + i))), .val (.ref d), .val (.int (Int32.ofNat (q + i))), .val (.int (Int32.ofNat len)), .val (.int (Int32.ofNat i)), z] [.int (Int32.ofNat (o + i)), .ref b])) := cl.trans (by
        refine XS.iload Xl.here hexec rfl (hb hbytes d3) rfl ?_
        refine XS.iload Xl.here hexec rfl (hb hbytes d5) rfl ?_
        refine XS.icmpNo Xl.here hexec rfl (hb hbytes d7) rfl (ii_ge_f (lt32 (by omega) (by omega))) ?_
        refine XS.aloadN Xl.here hexec rfl (hb hbytes d10) rfl rfl ?_
        refine XS.iloadN Xl.here hexec rfl (hb hbytes d11) rfl ?_
        exact Steps.refl _)
      have c4 : Steps p.tables e below (s₁.setTop (entryFrame m #[.ref b, .int (Int32.ofNat o), .ref d, .int (Int32.ofNat q), .int (Int32.ofNat len)] 7)) (Tl.setTop (mkF m 13 #[.val (.ref b), .val (.int (Int32.ofNat (o + i))), .val (.ref d), .val (.int (Int32.ofNat (q + i))), .val (.int (Int32.ofNat len)), .val (.int (Int32.ofNat i)), z] [.int (cv A (o + i))])) := c3.trans (by
        refine Xl.aget hexec hAl rfl (hA.get (i := o + i) (by omega)) rfl rfl (hb hbytes d12) ?_
        exact Steps.refl _)
      have c5 : Steps p.tables e below (s₁.setTop (entryFrame m #[.ref b, .int (Int32.ofNat o), .ref d, .int (Int32.ofNat q), .int (Int32.ofNat len)] 7)) (Tl.setTop (mkF m 15 #[.val (.ref b), .val (.int (Int32.ofNat (o + i))), .val (.ref d), .val (.int (Int32.ofNat (q + i))), .val (.int (Int32.ofNat len)), .val (.int (Int32.ofNat i)), .val (.int (cv A (o + i)))] [])) := c4.trans (by
        refine XS.istoreS Xl.here hexec rfl (hb hbytes d13) rfl rfl hz ?_
        exact Steps.refl _)
      have c6 : Steps p.tables e below (s₁.setTop (entryFrame m #[.ref b, .int (Int32.ofNat o), .ref d, .int (Int32.ofNat q), .int (Int32.ofNat len)] 7)) (Tl.setTop (mkF m 31 #[.val (.ref b), .val (.int (Int32.ofNat (o + i))), .val (.ref d), .val (.int (Int32.ofNat (q + i))), .val (.int (Int32.ofNat len)), .val (.int (Int32.ofNat i)), .val (.int (cv A (o + i)))] [.int (lo8 (cv A (o + i))), .int (Int32.ofNat (q + i)), .ref d])) := c5.trans (by
        refine XS.iload Xl.here hexec rfl (hb hbytes d15) rfl ?_
        refine sipushV Xl.here hexec rfl 255 (hb hbytes d17) (by decide) ?_
        refine XS.icmpYes Xl.here hexec rfl (pc0 := 20) rfl (hb hbytes d20) rfl (ii_le_t (hp i (by omega))) (by decide) rfl ?_
        refine XS.aloadN Xl.here hexec rfl (hb hbytes d26) rfl rfl ?_
        refine XS.iloadN Xl.here hexec rfl (hb hbytes d27) rfl ?_
        refine XS.iload Xl.here hexec rfl (hb hbytes d28) rfl ?_
        refine i2b Xl.here hexec rfl (hb hbytes d30) rfl ?_
        exact Steps.refl _)
      obtain ⟨T7, X7, p7, st7⟩ := Xl.aput hexec hBk rfl hlt rfl (fits_lo8 (cv A (o + i))) (g := (mkF m 31 #[.val (.ref b), .val (.int (Int32.ofNat (o + i))), .val (.ref d), .val (.int (Int32.ofNat (q + i))), .val (.int (Int32.ofNat len)), .val (.int (Int32.ofNat i)), .val (.int (cv A (o + i)))] [.int (lo8 (cv A (o + i))), .int (Int32.ofNat (q + i)), .ref d])) rfl (rest := []) rfl (hb hbytes d31)
      have c8 : Steps p.tables e below (s₁.setTop (entryFrame m #[.ref b, .int (Int32.ofNat o), .ref d, .int (Int32.ofNat q), .int (Int32.ofNat len)] 7)) (T7.setTop (mkF m 32 #[.val (.ref b), .val (.int (Int32.ofNat (o + i))), .val (.ref d), .val (.int (Int32.ofNat (q + i))), .val (.int (Int32.ofNat len)), .val (.int (Int32.ofNat i)), .val (.int (cv A (o + i)))] [])) := c6.trans (st7 _ (Steps.refl _))
      have c9 : Steps p.tables e below (s₁.setTop (entryFrame m #[.ref b, .int (Int32.ofNat o), .ref d, .int (Int32.ofNat q), .int (Int32.ofNat len)] 7)) (T7.setTop (mkF m 3 #[.val (.ref b), .val (.int (Int32.ofNat (o + i) + 1)), .val (.ref d), .val (.int (Int32.ofNat (q + i) + 1)), .val (.int (Int32.ofNat len)), .val (.int (Int32.ofNat i + 1)), .val (.int (cv A (o + i)))] [])) := c8.trans (by
        refine iincV X7.here hexec rfl 1 (hb hbytes d32) (by decide) rfl rfl ?_
        refine iincV X7.here hexec rfl 1 (hb hbytes d35) (by decide) rfl rfl ?_
        refine iincV X7.here hexec rfl 1 (hb hbytes d38) (by decide) rfl rfl ?_
        refine XS.goto X7.here hexec rfl (pc0 := 41) rfl (hb hbytes d41) (by decide) rfl ?_
        exact Steps.refl _)
      have c10 : Steps p.tables e below (s₁.setTop (entryFrame m #[.ref b, .int (Int32.ofNat o), .ref d, .int (Int32.ofNat q), .int (Int32.ofNat len)] 7)) (T7.setTop (mkF m 3 #[.val (.ref b), .val (.int (Int32.ofNat (o + (i + 1)))), .val (.ref d), .val (.int (Int32.ofNat (q + (i + 1)))), .val (.int (Int32.ofNat len)), .val (.int (Int32.ofNat (i + 1))), .val (.int (cv A (o + i)))] [])) := by
        have := c9
        rw [succ32, succ32, succ32] at this
        exact this
      exact ih (i + 1) (by omega) _ (Or.inr ⟨_, rfl, rfl⟩) T7 _ (by rw [copyLocs_step, ← List.append_assoc]; exact X7) (pl.trans p7) (fl.step (by omega) hlt (by simp)) c10
  obtain ⟨T9, B9, z9, X9, p9, f9, g9⟩ := loop len 0 (by omega) .unset (Or.inl rfl) s₁ B (by simpa [copyLocs] using X0) ⟨hB0.1, fun _ _ => rfl, rfl⟩ (Laid.zero _ _ _) c2
  have c11 : Steps p.tables e below (s₁.setTop (entryFrame m #[.ref b, .int (Int32.ofNat o), .ref d, .int (Int32.ofNat q), .int (Int32.ofNat len)] 7)) (T9.setTop (mkF m 46 #[.val (.ref b), .val (.int (Int32.ofNat (o + len))), .val (.ref d), .val (.int (Int32.ofNat (q + len))), .val (.int (Int32.ofNat len)), .val (.int (Int32.ofNat len)), z9] [.int (Int32.ofNat len)])) := g9.trans (by
    refine XS.iload X9.here hexec rfl (hb hbytes d3) rfl ?_
    refine XS.iload X9.here hexec rfl (hb hbytes d5) rfl ?_
    refine XS.icmpYes X9.here hexec rfl (pc0 := 7) rfl (hb hbytes d7) rfl (ii_ge_t (nlt32 (by omega) (Nat.le_refl _))) (by decide) rfl ?_
    refine XS.iload X9.here hexec rfl (hb hbytes d44) rfl ?_
    exact Steps.refl _)
  exact ⟨T9, some (.int (Int32.ofNat len)), _, _, _, X9, by simp, rfl, rfl, (fun h => by cases h), ⟨rfl, B9, p9.from hh0, f9⟩, fun fs hl => c11.trans (X9.ireturnOut hexec hret rfl (Or.inl rfl) (hb hbytes d46) hl)⟩
end Cmp5
namespace Cmp3
def yN : MethodName := ⟨"java/lang/StringUTF16", "compress", "([CII)[B"⟩
abbrev yB : ByteArray := jdk_52_method_16_code
theorem d0 : decode yB 0 = .ok (.iload_n 2, 1) := by decide +kernel
theorem d1 : decode yB 1 = .ok (.newarray .byte, 2) := by decide +kernel
theorem d3 : decode yB 3 = .ok (.astore_n 3, 1) := by decide +kernel
theorem d4 : decode yB 4 = .ok (.aload_n 0, 1) := by decide +kernel
theorem d5 : decode yB 5 = .ok (.iload_n 1, 1) := by decide +kernel
theorem d6 : decode yB 6 = .ok (.aload_n 3, 1) := by decide +kernel
theorem d7 : decode yB 7 = .ok (.iconst 0, 1) := by decide +kernel
theorem d8 : decode yB 8 = .ok (.iload_n 2, 1) := by decide +kernel
theorem d9 : decode yB 9 = .ok (.invokestatic 115, 3) := by decide +kernel
theorem d12 : decode yB 12 = .ok (.istore 4, 2) := by decide +kernel
theorem d14 : decode yB 14 = .ok (.iload 4, 2) := by decide +kernel
theorem d16 : decode yB 16 = .ok (.iload_n 2, 1) := by decide +kernel
theorem d17 : decode yB 17 = .ok (.if_icmp (.eq) 40, 3) := by decide +kernel
theorem d57 : decode yB 57 = .ok (.aload_n 3, 1) := by decide +kernel
theorem d58 : decode yB 58 = .ok (.areturn, 1) := by decide +kernel
def site : List Cond := [.arrayClass .byte, Cmp5.tab] ++ staticW U16 115 Cmp5.yN
def tab : Cond := tabOf yN yB 6 (some (.array .byte)) site
def P (b : Addr) (A : Cell) (o len : Nat) (args : Array Value) (s : State) : Prop := args = #[.ref b, .int (Int32.ofNat o), .int (Int32.ofNat len)] ∧ Ch b A s ∧ o + len ≤ A.slots.size ∧ len ≤ 536870912 ∧ ∀ i, i < len → ¬ 255 < cv A (o + i)
def E (b : Addr) (A : Cell) (o len : Nat) (r : Option Value) (s u : State) : Prop := NewArr .byte "[B" len (fun j => .int (lo8 (cv A (o + j)))) r s u ∧ u.heap.size = s.heap.size + 1
/-- no char of the range above 255: a new byte[] of their low bytes -/
theorem law (l : Launch) (b : Addr) (A : Cell) (o len : Nat) : Law l yN 3 3 1 18 yB 6 (some (.array .byte)) site (P b A o len) (E b A o len) [] 1 len := by
  refine Law.of_walk (plainFor_of_name (by decide +kernel)) (by decide +kernel) (by decide +kernel) (by decide) (fun _ _ h => by rw [h.1]; rfl) (fun _ U U' hal hh h => ⟨h.1, h.2.1.mv hal hh, h.2.2⟩) (fun r U U' V V' h1 hal h2 h => ⟨NewArr.mv r U U' V V' h1 hal h2 h.1, by rw [h1, h2]; exact h.2⟩) ?_
  intro p e s m args below meth c s₁ X0 hexec hbytes hml hret hlk hnm hown hh0 W hP
  obtain ⟨rfl, hA, l1, l2, hp⟩ := hP
  have a31 := hA.1.2.2.2
  have c1 : Steps p.tables e below (s₁.setTop (entryFrame m #[.ref b, .int (Int32.ofNat o), .int (Int32.ofNat len)] 6)) (s₁.setTop (mkF m 0 #[.val (.ref b), .val (.int (Int32.ofNat o)), .val (.int (Int32.ofNat len)), .unset, .unset, .unset] [])) := entry rfl
  have c2 : Steps p.tables e below (s₁.setTop (entryFrame m #[.ref b, .int (Int32.ofNat o), .int (Int32.ofNat len)] 6)) (s₁.setTop (mkF m 1 #[.val (.ref b), .val (.int (Int32.ofNat o)), .val (.int (Int32.ofNat len)), .unset, .unset, .unset] [.int (Int32.ofNat len)])) := c1.trans (by
    refine XS.iloadN X0.here hexec rfl (hb hbytes d0) rfl ?_
    exact Steps.refl _)
  obtain ⟨T3, B3, X3, ba3, bs3, bv3, bh3, bf3, st3⟩ := X0.anew hexec (atype := .byte) (wk W (.arrayClass .byte)) rfl (by show len * 1 ≤ _; omega) (by omega) (g := (mkF m 1 #[.val (.ref b), .val (.int (Int32.ofNat o)), .val (.int (Int32.ofNat len)), .unset, .unset, .unset] [.int (Int32.ofNat len)])) rfl (hb hbytes d1) (rest := []) rfl (Nat.le_refl _) (by show 0 + len ≤ len; omega)
  rw [hh0] at ba3 st3
  have kp3 : XT.Kept s T3 := (XT.Kept.of_eq hh0).push bh3
  have hA3 := hA.keep X3.warmed.alike (kp3 _ _ hA.1.1)
  have hne : b ≠ s.heap.size := hA.1.ne
  have c4 : Steps p.tables e below (s₁.setTop (entryFrame m #[.ref b, .int (Int32.ofNat o), .int (Int32.ofNat len)] 6)) (T3.setTop (mkF m 3 #[.val (.ref b), .val (.int (Int32.ofNat o)), .val (.int (Int32.ofNat len)), .unset, .unset, .unset] [.ref s.heap.size])) := c2.trans (st3 _ (Steps.refl _))
  have c5 : Steps p.tables e below (s₁.setTop (entryFrame m #[.ref b, .int (Int32.ofNat o), .int (Int32.ofNat len)] 6)) (T3.setTop (mkF m 9 #[.val (.ref b), .val (.int (Int32.ofNat o)), .val (.int (Int32.ofNat len)), .val (.ref s.heap.size), .unset, .unset] [.int (Int32.ofNat len), .int 0, .ref s.heap.size, .int (Int32.ofNat o), .ref b])) := c4.trans (by
    refine XS.astoreN X3.here hexec rfl (hb hbytes d3) rfl rfl rfl ?_
    refine XS.aloadN X3.here hexec rfl (hb hbytes d4) rfl rfl ?_
    refine XS.iloadN X3.here hexec rfl (hb hbytes d5) rfl ?_
    refine XS.aloadN X3.here hexec rfl (hb hbytes d6) rfl rfl ?_
    refine iconstV X3.here hexec rfl 0 (hb hbytes d7) (by decide) ?_
    refine XS.iloadN X3.here hexec rfl (hb hbytes d8) rfl ?_
    exact Steps.refl _)
  obtain ⟨v6, T6, X6, E6, g6⟩ := X3.callS hexec (Cmp5.law l b A s.heap.size B3 o 0 len) hown (wks W (staticW U16 115 Cmp5.yN)) (wk W Cmp5.tab) (W := 0) (Nat.le_of_ble_eq_true rfl) (Nat.le_of_ble_eq_true rfl) (Nat.le_refl _) (by show 0 + len + 0 ≤ len; omega) (g := (mkF m 9 #[.val (.ref b), .val (.int (Int32.ofNat o)), .val (.int (Int32.ofNat len)), .val (.ref s.heap.size), .unset, .unset] [.int (Int32.ofNat len), .int (Int32.ofNat 0), .ref s.heap.size, .int (Int32.ofNat o), .ref b])) rfl (by rw [hml]; rfl) c5 (argsL := [.ref b, .int (Int32.ofNat o), .ref s.heap.size, .int (Int32.ofNat 0), .int (Int32.ofNat len)]) (rest := []) rfl rfl (by show 2 * 0 + 0 ≤ _; decide) (hb hbytes d9) (⟨rfl, hA3, ba3, hne, l1, by rw [bs3]; simp, hp⟩)
  obtain ⟨rfl, B6, p6, f6⟩ := E6
  have c7 : Steps p.tables e below (s₁.setTop (entryFrame m #[.ref b, .int (Int32.ofNat o), .int (Int32.ofNat len)] 6)) (T6.setTop (mkF m 12 #[.val (.ref b), .val (.int (Int32.ofNat o)), .val (.int (Int32.ofNat len)), .val (.ref s.heap.size), .unset, .unset] [.int (Int32.ofNat len)])) := g6
  have c8 : Steps p.tables e below (s₁.setTop (entryFrame m #[.ref b, .int (Int32.ofNat o), .int (Int32.ofNat len)] 6)) (T6.setTop (mkF m 58 #[.val (.ref b), .val (.int (Int32.ofNat o)), .val (.int (Int32.ofNat len)), .val (.ref s.heap.size), .val (.int (Int32.ofNat len)), .unset] [.ref s.heap.size])) := c7.trans (by
    refine XS.istore X6.here hexec rfl (hb hbytes d12) rfl rfl ?_
    refine XS.iload X6.here hexec rfl (hb hbytes d14) rfl ?_
    refine XS.iloadN X6.here hexec rfl (hb hbytes d16) rfl ?_
    refine XS.icmpYes X6.here hexec rfl (pc0 := 17) rfl (hb hbytes d17) rfl (ii_eq_t rfl) (by decide) rfl ?_
    refine XS.aloadN X6.here hexec rfl (hb hbytes d57) rfl rfl ?_
    exact Steps.refl _)
  have X8 := X6.wide (L' := []) (cells' := 1) (slots' := len) (fun x hx hlt => by
    simp only [List.nil_append, copyLocs, List.mem_map, List.mem_range] at hx
    obtain ⟨i, -, rfl⟩ := hx
    exact absurd hlt (Nat.lt_irrefl _)) (Nat.le_refl _) (by omega)
  exact ⟨T6, some (.ref s.heap.size), _, _, _, X8, rfl, rfl, rfl, (fun h => by cases h), ⟨⟨rfl, B6, ba3.like (X3.warmed.alike.symm.trans X6.warmed.alike) p6.1 f6.1 f6.2.1 f6.2.2.1, f6.2.1.trans bv3, by rw [X6.warmed.alike.findClass, f6.1]; exact bf3, by rw [f6.2.2.1, bs3]; simp, fun j hj => by rw [f6.2.2.2 j, if_pos (by omega)]; rfl, kp3.put p6 (Nat.le_refl _)⟩, by rw [p6.2.2, bh3, hh0]; simp⟩, fun fs hl => c8.trans (X8.areturnOut hexec rfl hret rfl (hb hbytes d58) hl)⟩
end Cmp3
namespace CodL
def yN : MethodName := ⟨"java/lang/StringUTF16", "coderFromArrayLen", "([BI)B"⟩
abbrev yB : ByteArray := jdk_52_method_15_code
theorem d0 : decode yB 0 = .ok (.iload_n 1, 1) := by decide +kernel
theorem d1 : decode yB 1 = .ok (.aload_n 0, 1) := by decide +kernel
theorem d2 : decode yB 2 = .ok (.arraylength, 1) := by decide +kernel
theorem d3 : decode yB 3 = .ok (.isub, 1) := by decide +kernel
theorem d4 : decode yB 4 = .ok (.bipush 31, 2) := by decide +kernel
theorem d6 : decode yB 6 = .ok (.iushr, 1) := by decide +kernel
theorem d7 : decode yB 7 = .ok (.i2b, 1) := by decide +kernel
theorem d8 : decode yB 8 = .ok (.ireturn, 1) := by decide +kernel
def site : List Cond := []
def tab : Cond := tabOf yN yB 2 (some .byte) site
def P (d : Addr) (B : Cell) (args : Array Value) (s : State) : Prop := args = #[.ref d, .int (Int32.ofNat B.slots.size)] ∧ Arr .byte d B s
def E (r : Option Value) (s u : State) : Prop := XT.PureE (some (.int 0)) r s u
/-- an array as long as the number of chars: LATIN1 -/
theorem law (l : Launch) (d : Addr) (B : Cell) : Law l yN 2 2 0 0 yB 2 (some .byte) site (P d B) E [] 0 0 := by
  refine Law.of_walk (plainFor_of_name (by decide +kernel)) (by decide +kernel) (by decide +kernel) (by decide) (fun _ _ h => by rw [h.1]; rfl) (fun _ U U' hal hh h => ⟨h.1, h.2.mv hal hh⟩) (fun r U U' V V' h1 hal h2 h => XT.PureE.mv r U U' V V' h1 hal h2 h) ?_
  intro p e s m args below meth c s₁ X0 hexec hbytes hml hret hlk hnm hown hh0 W hP
  obtain ⟨rfl, hB⟩ := hP
  have hB0 := hB.mv X0.warmed.alike hh0
  have c1 : Steps p.tables e below (s₁.setTop (entryFrame m #[.ref d, .int (Int32.ofNat B.slots.size)] 2)) (s₁.setTop (mkF m 0 #[.val (.ref d), .val (.int (Int32.ofNat B.slots.size))] [])) := entry rfl
  have c2 : Steps p.tables e below (s₁.setTop (entryFrame m #[.ref d, .int (Int32.ofNat B.slots.size)] 2)) (s₁.setTop (mkF m 2 #[.val (.ref d), .val (.int (Int32.ofNat B.slots.size))] [.ref d, .int (Int32.ofNat B.slots.size)])) := c1.trans (by
    refine XS.iloadN X0.here hexec rfl (hb hbytes d0) rfl ?_
    refine XS.aloadN X0.here hexec rfl (hb hbytes d1) rfl rfl ?_
    exact Steps.refl _)
  have c3 : Steps p.tables e below (s₁.setTop (entryFrame m #[.ref d, .int (Int32.ofNat B.slots.size)] 2)) (s₁.setTop (mkF m 8 #[.val (.ref d), .val (.int (Int32.ofNat B.slots.size))] [.int (lo8 (ushr (Int32.ofNat B.slots.size - Int32.ofNat B.slots.size) 31))])) := c2.trans (by
    refine X0.alen hexec hB0 rfl rfl (hb hbytes d2) ?_
    refine XS.isub X0.here hexec rfl (hb hbytes d3) rfl ?_
    refine bipushV X0.here hexec rfl 31 (hb hbytes d4) (by decide) ?_
    refine iushr X0.here hexec rfl (hb hbytes d6) rfl ?_
    refine i2b X0.here hexec rfl (hb hbytes d7) rfl ?_
    exact Steps.refl _)
  have e0 : lo8 (ushr (Int32.ofNat B.slots.size - Int32.ofNat B.slots.size) 31) = 0 := by rw [Int32.sub_self]; decide
  rw [e0] at c3
  exact ⟨s₁, some (.int 0), _, _, _, X0, rfl, rfl, rfl, (fun h => by cases h), ⟨rfl, hh0⟩, fun fs hl => c3.trans (X0.ireturnOut hexec hret rfl (Or.inr (Or.inr (Or.inl rfl))) (hb hbytes d8) hl)⟩
end CodL
/-- the String at a is Latin-1 over a new byte[] (the heap's one new cell): the low bytes of the len chars of A from o on; every cell but a is kept -/
def Got (a : Addr) (D : Cell) (fV fC : Field) (A : Cell) (o len : Nat) (r : Option Value) (s u : State) : Prop := r = none ∧ ∃ D' V : Cell, Blank "java/lang/String" a D' u ∧ Same D D' [fV.slot, fC.slot] ∧ D'.slots[fV.slot]? = some (.ref s.heap.size) ∧ D'.slots[fC.slot]? = some (.int 0) ∧ Arr .byte s.heap.size V u ∧ V.vm = .none ∧ u.vm.findClass "[B" = some V.cls ∧ V.slots.size = len ∧ (∀ j, j < len → V.slots[j]? = some (.int (lo8 (cv A (o + j))))) ∧ (∀ (y : Addr) (c : Cell), y ≠ a → s.heap[y]? = some c → u.heap[y]? = some c) ∧ u.heap.size = s.heap.size + 1
theorem Got.mv {a : Addr} {D A : Cell} {fV fC : Field} {o len : Nat} : ∀ r (U U' V V' : State), U'.heap = U.heap → V.vm.Alike V'.vm → V'.heap = V.heap → Got a D fV fC A o len r U V → Got a D fV fC A o len r U' V' :=
  fun r U U' V V' h1 hal h2 ⟨e0, D', X, a1, a2, a3, a4, a5, a6, a7, a8, a9, a10, a11⟩ => ⟨e0, D', X, a1.mv hal h2, a2, by rw [h1]; exact a3, a4, by rw [h1]; exact a5.mv hal h2, a6, by rw [hal.findClass]; exact a7, a8, a9, by rw [h1, h2]; exact a10, by rw [h1, h2]; exact a11⟩
namespace New4
def yN : MethodName := ⟨"java/lang/String", "<init>", "([CIILjava/lang/Void;)V"⟩
abbrev yB : ByteArray := jdk_42_method_149_code
theorem d0 : decode yB 0 = .ok (.aload_n 0, 1) := by decide +kernel
theorem d1 : decode yB 1 = .ok (.invokespecial 1, 3) := by decide +kernel
theorem d4 : decode yB 4 = .ok (.iload_n 3, 1) := by decide +kernel
theorem d5 : decode yB 5 = .ok (.ifCond (.ne) 22, 3) := by decide +kernel
theorem d27 : decode yB 27 = .ok (.getstatic 38, 3) := by decide +kernel
theorem d30 : decode yB 30 = .ok (.ifCond (.eq) 28, 3) := by decide +kernel
theorem d33 : decode yB 33 = .ok (.aload_n 1, 1) := by decide +kernel
theorem d34 : decode yB 34 = .ok (.iload_n 2, 1) := by decide +kernel
theorem d35 : decode yB 35 = .ok (.iload_n 3, 1) := by decide +kernel
theorem d36 : decode yB 36 = .ok (.invokestatic 177, 3) := by decide +kernel
theorem d39 : decode yB 39 = .ok (.astore 5, 2) := by decide +kernel
theorem d41 : decode yB 41 = .ok (.aload_n 0, 1) := by decide +kernel
theorem d42 : decode yB 42 = .ok (.aload 5, 2) := by decide +kernel
theorem d44 : decode yB 44 = .ok (.iload_n 3, 1) := by decide +kernel
theorem d45 : decode yB 45 = .ok (.invokestatic 47, 3) := by decide +kernel
theorem d48 : decode yB 48 = .ok (.putfield 15, 3) := by decide +kernel
theorem d51 : decode yB 51 = .ok (.aload_n 0, 1) := by decide +kernel
theorem d52 : decode yB 52 = .ok (.aload 5, 2) := by decide +kernel
theorem d54 : decode yB 54 = .ok (.putfield 9, 3) := by decide +kernel
theorem d57 : decode yB 57 = .ok (.return_, 1) := by decide +kernel
def site : List Cond := [.fieldLink "java/lang/String" 38 "java/lang/String" "COMPACT_STRINGS" "Z", Cmp3.tab, CodL.tab, .laysFinal "java/lang/String" "java/lang/String" "value" "[B", .fieldLink "java/lang/String" 9 "java/lang/String" "value" "[B", .laysFinal "java/lang/String" "java/lang/String" "coder" "B", .fieldLink "java/lang/String" 15 "java/lang/String" "coder" "B"] ++ objW "java/lang/String" 1 ++ staticW "java/lang/String" 177 Cmp3.yN ++ staticW "java/lang/String" 47 CodL.yN
def tab : Cond := tabOf yN yB 6 none site
def P (a : Addr) (D : Cell) (fV fC : Field) (b : Addr) (A : Cell) (z : Int32) (o len : Nat) (args : Array Value) (s : State) : Prop := args = #[.ref a, .ref b, .int (Int32.ofNat o), .int (Int32.ofNat len), .null] ∧ Blank "java/lang/String" a D s ∧ Found "java/lang/String" "value" "[B" fV s ∧ Found "java/lang/String" "coder" "B" fC s ∧ Ch b A s ∧ StaticIs s "java/lang/String" "COMPACT_STRINGS" "Z" (.int z) ∧ ¬ z = 0 ∧ 0 < len ∧ o + len ≤ A.slots.size ∧ len ≤ 536870912 ∧ ∀ i, i < len → ¬ 255 < cv A (o + i)
def E (a : Addr) (D : Cell) (fV fC : Field) (A : Cell) (o len : Nat) (r : Option Value) (s u : State) : Prop := Got a D fV fC A o len r s u
/-- len > 0, no char of the range above 255: a Latin-1 String of their low bytes -/
theorem law (l : Launch) (a : Addr) (D : Cell) (fV fC : Field) (b : Addr) (A : Cell) (z : Int32) (o len : Nat) : Law l yN 5 4 2 35 yB 6 none site (P a D fV fC b A z o len) (E a D fV fC A o len) [⟨a, fC.slot⟩, ⟨a, fV.slot⟩] 1 len := by
  refine Law.of_walk (plainFor_of_name (by decide +kernel)) (by decide +kernel) (by decide +kernel) (by decide) (fun _ _ h => by rw [h.1]; rfl) (fun _ U U' hal hh h => ⟨h.1, h.2.1.mv hal hh, h.2.2.1.al hal, h.2.2.2.1.al hal, h.2.2.2.2.1.mv hal hh, h.2.2.2.2.2.1.there hal hh, h.2.2.2.2.2.2⟩) (fun r U U' V V' h1 hal h2 h => Got.mv r U U' V V' h1 hal h2 h) ?_
  intro p e s m args below meth c s₁ X0 hexec hbytes hml hret hlk hnm hown hh0 W hP
  obtain ⟨rfl, hB, f1, f2, hA, s1, hz, l0, l1, l2, hp⟩ := hP
  have a31 := hA.1.2.2.2
  have c1 : Steps p.tables e below (s₁.setTop (entryFrame m #[.ref a, .ref b, .int (Int32.ofNat o), .int (Int32.ofNat len), .null] 6)) (s₁.setTop (mkF m 0 #[.val (.ref a), .val (.ref b), .val (.int (Int32.ofNat o)), .val (.int (Int32.ofNat len)), .val .null, .unset] [])) := entry rfl
  have c2 : Steps p.tables e below (s₁.setTop (entryFrame m #[.ref a, .ref b, .int (Int32.ofNat o), .int (Int32.ofNat len), .null] 6)) (s₁.setTop (mkF m 1 #[.val (.ref a), .val (.ref b), .val (.int (Int32.ofNat o)), .val (.int (Int32.ofNat len)), .val .null, .unset] [.ref a])) := c1.trans (by
    refine XS.aloadN X0.here hexec rfl (hb hbytes d0) rfl rfl ?_
    exact Steps.refl _)
  obtain ⟨T3, X3, q3, st3⟩ := X0.oinit hexec hown (wks W (objW "java/lang/String" 1)) (g := (mkF m 1 #[.val (.ref a), .val (.ref b), .val (.int (Int32.ofNat o)), .val (.int (Int32.ofNat len)), .val .null, .unset] [.ref a])) rfl (by rw [hml]; rfl) (rest := []) rfl (hb hbytes d1) (W := 0) (by show 2 * 0 + 0 ≤ _; decide) (Nat.le_of_ble_eq_true rfl) (Nat.le_of_ble_eq_true rfl)
  have hh3 := q3.trans hh0
  have c4 : Steps p.tables e below (s₁.setTop (entryFrame m #[.ref a, .ref b, .int (Int32.ofNat o), .int (Int32.ofNat len), .null] 6)) (T3.setTop (mkF m 27 #[.val (.ref a), .val (.ref b), .val (.int (Int32.ofNat o)), .val (.int (Int32.ofNat len)), .val .null, .unset] [])) := (c2.trans (st3 _ (Steps.refl _))).trans (by
    refine XS.iloadN X3.here hexec rfl (hb hbytes d4) rfl ?_
    refine XS.ifYes X3.here hexec rfl (pc0 := 5) rfl (hb hbytes d5) rfl (i0_ne_t (nz32 (by omega) l0)) (by decide) rfl ?_
    exact Steps.refl _)
  obtain ⟨T5, X5, q5, st5⟩ := X3.sget hexec hown (wk W (.fieldLink "java/lang/String" 38 "java/lang/String" "COMPACT_STRINGS" "Z")) s1 (fun _ _ h => by rw [hh3]; exact h) (g := (mkF m 27 #[.val (.ref a), .val (.ref b), .val (.int (Int32.ofNat o)), .val (.int (Int32.ofNat len)), .val .null, .unset] [])) rfl (hb hbytes d27)
  have hh5 := q5.trans hh3
  have c6 : Steps p.tables e below (s₁.setTop (entryFrame m #[.ref a, .ref b, .int (Int32.ofNat o), .int (Int32.ofNat len), .null] 6)) (T5.setTop (mkF m 30 #[.val (.ref a), .val (.ref b), .val (.int (Int32.ofNat o)), .val (.int (Int32.ofNat len)), .val .null, .unset] [.int z])) := c4.trans (st5 _ (Steps.refl _))
  have c7 : Steps p.tables e below (s₁.setTop (entryFrame m #[.ref a, .ref b, .int (Int32.ofNat o), .int (Int32.ofNat len), .null] 6)) (T5.setTop (mkF m 36 #[.val (.ref a), .val (.ref b), .val (.int (Int32.ofNat o)), .val (.int (Int32.ofNat len)), .val .null, .unset] [.int (Int32.ofNat len), .int (Int32.ofNat o), .ref b])) := c6.trans (by
    refine XS.ifNo X5.here hexec rfl (hb hbytes d30) rfl (i0_eq_f hz) ?_
    refine XS.aloadN X5.here hexec rfl (hb hbytes d33) rfl rfl ?_
    refine XS.iloadN X5.here hexec rfl (hb hbytes d34) rfl ?_
    refine XS.iloadN X5.here hexec rfl (hb hbytes d35) rfl ?_
    exact Steps.refl _)
  obtain ⟨v8, T8, X8, E8, g8⟩ := X5.callS hexec (Cmp3.law l b A o len) hown (wks W (staticW "java/lang/String" 177 Cmp3.yN)) (wk W Cmp3.tab) (W := 0) (Nat.le_of_ble_eq_true rfl) (Nat.le_of_ble_eq_true rfl) (Nat.le_refl _) (by show 0 + len ≤ len; omega) (g := (mkF m 36 #[.val (.ref a), .val (.ref b), .val (.int (Int32.ofNat o)), .val (.int (Int32.ofNat len)), .val .null, .unset] [.int (Int32.ofNat len), .int (Int32.ofNat o), .ref b])) rfl (by rw [hml]; rfl) c7 (argsL := [.ref b, .int (Int32.ofNat o), .int (Int32.ofNat len)]) (rest := []) rfl rfl (by show 2 * 0 + 0 ≤ _; decide) (hb hbytes d36) (⟨rfl, hA.mv X5.warmed.alike hh5, l1, l2, hp⟩)
  obtain ⟨e8, z8⟩ := E8
  obtain ⟨rfl, N, n1, n2, n3, n4, n5, n6⟩ := NewArr.mv _ T5 s _ _ hh5.symm (Vm.Alike.refl _) rfl e8
  rw [hh5] at z8
  have hB1 := hB.keep X8.warmed.alike (n6 _ _ hB.1)
  have hne : s.heap.size ≠ a := (Nat.ne_of_lt (Array.getElem?_eq_some_iff.mp hB.1).1).symm
  have c9 : Steps p.tables e below (s₁.setTop (entryFrame m #[.ref a, .ref b, .int (Int32.ofNat o), .int (Int32.ofNat len), .null] 6)) (T8.setTop (mkF m 39 #[.val (.ref a), .val (.ref b), .val (.int (Int32.ofNat o)), .val (.int (Int32.ofNat len)), .val .null, .unset] [.ref s.heap.size])) := g8
  have c10 : Steps p.tables e below (s₁.setTop (entryFrame m #[.ref a, .ref b, .int (Int32.ofNat o), .int (Int32.ofNat len), .null] 6)) (T8.setTop (mkF m 45 #[.val (.ref a), .val (.ref b), .val (.int (Int32.ofNat o)), .val (.int (Int32.ofNat len)), .val .null, .val (.ref s.heap.size)] [.int (Int32.ofNat N.slots.size), .ref s.heap.size, .ref a])) := by
    have hc : Steps p.tables e below (s₁.setTop (entryFrame m #[.ref a, .ref b, .int (Int32.ofNat o), .int (Int32.ofNat len), .null] 6)) (T8.setTop (mkF m 45 #[.val (.ref a), .val (.ref b), .val (.int (Int32.ofNat o)), .val (.int (Int32.ofNat len)), .val .null, .val (.ref s.heap.size)] [.int (Int32.ofNat len), .ref s.heap.size, .ref a])) := c9.trans (by
      refine XS.astore X8.here hexec rfl (hb hbytes d39) rfl rfl rfl ?_
      refine XS.aloadN X8.here hexec rfl (hb hbytes d41) rfl rfl ?_
      refine XS.aload X8.here hexec rfl (hb hbytes d42) rfl rfl ?_
      refine XS.iloadN X8.here hexec rfl (hb hbytes d44) rfl ?_
      exact Steps.refl _)
    rw [n4]; exact hc
  obtain ⟨v11, T11, X11, E11, g11⟩ := X8.callS hexec (CodL.law l s.heap.size N) hown (wks W (staticW "java/lang/String" 47 CodL.yN)) (wk W CodL.tab) (W := 1) (Nat.le_of_ble_eq_true rfl) (Nat.le_of_ble_eq_true rfl) (Nat.le_refl _) (by show 0 + len + 0 ≤ len; omega) (g := (mkF m 45 #[.val (.ref a), .val (.ref b), .val (.int (Int32.ofNat o)), .val (.int (Int32.ofNat len)), .val .null, .val (.ref s.heap.size)] [.int (Int32.ofNat N.slots.size), .ref s.heap.size, .ref a])) rfl (by rw [hml]; rfl) c10 (argsL := [.ref s.heap.size, .int (Int32.ofNat N.slots.size)]) (rest := [.ref a]) rfl rfl (by show 2 * 0 + (1 + 0) ≤ _; decide) (hb hbytes d45) (⟨rfl, n1⟩)
  obtain ⟨rfl, q11⟩ := E11
  have hB11 := hB1.mv (X8.warmed.alike.symm.trans X11.warmed.alike) q11
  have c12 : Steps p.tables e below (s₁.setTop (entryFrame m #[.ref a, .ref b, .int (Int32.ofNat o), .int (Int32.ofNat len), .null] 6)) (T11.setTop (mkF m 48 #[.val (.ref a), .val (.ref b), .val (.int (Int32.ofNat o)), .val (.int (Int32.ofNat len)), .val .null, .val (.ref s.heap.size)] [.int 0, .ref a])) := g11
  obtain ⟨T13, X13, p13, bl13, sl13, st13⟩ := X11.finit hexec hown (wk W (.fieldLink "java/lang/String" 15 "java/lang/String" "coder" "B")) (Or.inr ⟨_, (wk W (.laysFinal "java/lang/String" "java/lang/String" "coder" "B"))⟩) (Or.inl ⟨rfl, hnm⟩) f2 (Or.inl rfl) hB11 (t := .byte) (by decide +kernel) rfl (g := (mkF m 48 #[.val (.ref a), .val (.ref b), .val (.int (Int32.ofNat o)), .val (.int (Int32.ofNat len)), .val .null, .val (.ref s.heap.size)] [.int 0, .ref a])) rfl (rest := []) rfl (hb hbytes d48)
  have c14 : Steps p.tables e below (s₁.setTop (entryFrame m #[.ref a, .ref b, .int (Int32.ofNat o), .int (Int32.ofNat len), .null] 6)) (T13.setTop (mkF m 54 #[.val (.ref a), .val (.ref b), .val (.int (Int32.ofNat o)), .val (.int (Int32.ofNat len)), .val .null, .val (.ref s.heap.size)] [.ref s.heap.size, .ref a])) := (c12.trans (st13 _ (Steps.refl _))).trans (by
    refine XS.aloadN X13.here hexec rfl (hb hbytes d51) rfl rfl ?_
    refine XS.aload X13.here hexec rfl (hb hbytes d52) rfl rfl ?_
    exact Steps.refl _)
  obtain ⟨T15, X15, p15, bl15, sl15, st15⟩ := X13.finit hexec hown (wk W (.fieldLink "java/lang/String" 9 "java/lang/String" "value" "[B")) (Or.inr ⟨_, (wk W (.laysFinal "java/lang/String" "java/lang/String" "value" "[B"))⟩) (Or.inl ⟨rfl, hnm⟩) f1 (Or.inl rfl) bl13 (t := (.array .byte)) (by decide +kernel) rfl (g := (mkF m 54 #[.val (.ref a), .val (.ref b), .val (.int (Int32.ofNat o)), .val (.int (Int32.ofNat len)), .val .null, .val (.ref s.heap.size)] [.ref s.heap.size, .ref a])) rfl (rest := []) rfl (hb hbytes d54)
  have c16 : Steps p.tables e below (s₁.setTop (entryFrame m #[.ref a, .ref b, .int (Int32.ofNat o), .int (Int32.ofNat len), .null] 6)) (T15.setTop (mkF m 57 #[.val (.ref a), .val (.ref b), .val (.int (Int32.ofNat o)), .val (.int (Int32.ofNat len)), .val .null, .val (.ref s.heap.size)] [])) := c14.trans (st15 _ (Steps.refl _))
  have ap := apart (Or.inr ⟨_, (wk W (.laysFinal "java/lang/String" "java/lang/String" "value" "[B"))⟩) (Or.inr ⟨_, (wk W (.laysFinal "java/lang/String" "java/lang/String" "coder" "B"))⟩) f1 f2 (t₁ := .array .byte) (t₂ := .byte) (by decide +kernel) (by decide +kernel) (by decide)
  have al := X8.warmed.alike.symm.trans X15.warmed.alike
  have n7 : T11.heap[s.heap.size]? = some N := by rw [q11]; exact n1.1
  exact ⟨T15, none, _, _, _, X15, by simp, rfl, by omega, (fun _ => rfl), ⟨rfl, _, N, bl15, ((Same.refl D _).set _ (by simp)).set _ (by simp), sl15, (Cell.slots_setSlot_ne _ ap).trans sl13, n1.keep al (p15.other hne (p13.other hne n7)), n2, by rw [al.findClass]; exact n3, n4, n5, fun y c h1 h2 => p15.other h1 (p13.other h1 (by rw [q11]; exact n6 y c h2)), by rw [p15.2.2, p13.2.2, q11]; exact z8⟩, fun fs hl => c16.trans (X15.returnOut hexec hret (hb hbytes d57) hl)⟩
end New4
namespace New1
def yN : MethodName := ⟨"java/lang/String", "<init>", "([C)V"⟩
abbrev yB : ByteArray := jdk_42_method_3_code
theorem d0 : decode yB 0 = .ok (.aload_n 0, 1) := by decide +kernel
theorem d1 : decode yB 1 = .ok (.aload_n 1, 1) := by decide +kernel
theorem d2 : decode yB 2 = .ok (.iconst 0, 1) := by decide +kernel
theorem d3 : decode yB 3 = .ok (.aload_n 1, 1) := by decide +kernel
theorem d4 : decode yB 4 = .ok (.arraylength, 1) := by decide +kernel
theorem d5 : decode yB 5 = .ok (.aconst_null, 1) := by decide +kernel
theorem d6 : decode yB 6 = .ok (.invokespecial 27, 3) := by decide +kernel
theorem d9 : decode yB 9 = .ok (.return_, 1) := by decide +kernel
def site : List Cond := [New4.tab] ++ initW "java/lang/String" 27 New4.yN
def tab : Cond := tabOf yN yB 2 none site
def P (a : Addr) (D : Cell) (fV fC : Field) (b : Addr) (A : Cell) (z : Int32) (args : Array Value) (s : State) : Prop := args = #[.ref a, .ref b] ∧ Blank "java/lang/String" a D s ∧ Found "java/lang/String" "value" "[B" fV s ∧ Found "java/lang/String" "coder" "B" fC s ∧ Ch b A s ∧ StaticIs s "java/lang/String" "COMPACT_STRINGS" "Z" (.int z) ∧ ¬ z = 0 ∧ 0 < A.slots.size ∧ A.slots.size ≤ 536870912 ∧ ∀ i, i < A.slots.size → ¬ 255 < cv A i
def E (a : Addr) (D : Cell) (fV fC : Field) (A : Cell) (r : Option Value) (s u : State) : Prop := Got a D fV fC A 0 A.slots.size r s u
/-- new String(chars), not empty, no char above 255: a Latin-1 String of their low bytes -/
theorem law (l : Launch) (a : Addr) (D : Cell) (fV fC : Field) (b : Addr) (A : Cell) (z : Int32) : Law l yN 2 1 3 52 yB 2 none site (P a D fV fC b A z) (E a D fV fC A) [⟨a, fC.slot⟩, ⟨a, fV.slot⟩] 1 A.slots.size := by
  refine Law.of_walk (plainFor_of_name (by decide +kernel)) (by decide +kernel) (by decide +kernel) (by decide) (fun _ _ h => by rw [h.1]; rfl) (fun _ U U' hal hh h => ⟨h.1, h.2.1.mv hal hh, h.2.2.1.al hal, h.2.2.2.1.al hal, h.2.2.2.2.1.mv hal hh, h.2.2.2.2.2.1.there hal hh, h.2.2.2.2.2.2⟩) (fun r U U' V V' h1 hal h2 h => Got.mv r U U' V V' h1 hal h2 h) ?_
  intro p e s m args below meth c s₁ X0 hexec hbytes hml hret hlk hnm hown hh0 W hP
  obtain ⟨rfl, hB, f1, f2, hA, s1, hz, l0, l2, hp⟩ := hP
  have c1 : Steps p.tables e below (s₁.setTop (entryFrame m #[.ref a, .ref b] 2)) (s₁.setTop (mkF m 0 #[.val (.ref a), .val (.ref b)] [])) := entry rfl
  have c2 : Steps p.tables e below (s₁.setTop (entryFrame m #[.ref a, .ref b] 2)) (s₁.setTop (mkF m 6 #[.val (.ref a), .val (.ref b)] [.null, .int (Int32.ofNat A.slots.size), .int 0, .ref b, .ref a])) := c1.trans (by
    refine XS.aloadN X0.here hexec rfl (hb hbytes d0) rfl rfl ?_
    refine XS.aloadN X0.here hexec rfl (hb hbytes d1) rfl rfl ?_
    refine iconstV X0.here hexec rfl 0 (hb hbytes d2) (by decide) ?_
    refine XS.aloadN X0.here hexec rfl (hb hbytes d3) rfl rfl ?_
    refine X0.alen hexec (hA.1.mv X0.warmed.alike hh0) rfl rfl (hb hbytes d4) ?_
    refine XS.aconstNull X0.here hexec rfl (hb hbytes d5) ?_
    exact Steps.refl _)
  obtain ⟨v3, T3, X3, E3, g3⟩ := X0.callN hexec (New4.law l a D fV fC b A z 0 A.slots.size) rfl hown (wks W (initW "java/lang/String" 27 New4.yN)) (W New4.tab (by simp only [site, List.mem_cons, List.mem_append, true_or, or_true])) (W := 0) (Nat.le_of_ble_eq_true rfl) (Nat.le_of_ble_eq_true rfl) (Nat.le_refl _) (by show 0 + A.slots.size ≤ A.slots.size; omega) (g := (mkF m 6 #[.val (.ref a), .val (.ref b)] [.null, .int (Int32.ofNat A.slots.size), .int (Int32.ofNat 0), .ref b, .ref a])) rfl (by rw [hml]; rfl) c2 (argsL := [.ref b, .int (Int32.ofNat 0), .int (Int32.ofNat A.slots.size), .null]) (rest := []) rfl rfl (by show 2 * 0 + 0 ≤ _; decide) (hb hbytes d6) (⟨rfl, hB.mv X0.warmed.alike hh0, f1.al X0.warmed.alike, f2.al X0.warmed.alike, hA.mv X0.warmed.alike hh0, s1.there X0.warmed.alike hh0, hz, l0, by omega, l2, fun i hi => by rw [Nat.zero_add]; exact hp i hi⟩)
  have e0 := Got.mv _ s₁ s _ _ hh0.symm (Vm.Alike.refl _) rfl E3
  obtain rfl := e0.1
  have c4 : Steps p.tables e below (s₁.setTop (entryFrame m #[.ref a, .ref b] 2)) (T3.setTop (mkF m 9 #[.val (.ref a), .val (.ref b)] [])) := g3
  exact ⟨T3, none, _, _, _, X3, by simp, rfl, by omega, (fun _ => rfl), e0, fun fs hl => c4.trans (X3.returnOut hexec hret (hb hbytes d9) hl)⟩
theorem pays {l : Launch} {R : Room} {p : Program} {e : Env} {below : List Frame} {s : State} {sargs : Array Value} {len W : Nat} (a : Addr) (D : Cell) (fV fC : Field) (b : Addr) (A : Cell) (z : Int32) (htab : tab.before sargs s = true) (hfr : 4 ≤ R.frames) (hlo : W + 65 ≤ R.locals) :
    Back l R p e below s sargs yN len W (fun A₁ a₁ => A₁.cells + 1 ≤ R.cells ∧ A₁.slots + A.slots.size ≤ R.slots ∧ P a D fV fC b A z a₁ A₁.U) (fun A₁ _ v₁ B₁ => E a D fV fC A v₁ A₁.U B₁.U ∧ B₁.locs = A₁.locs ++ [⟨a, fC.slot⟩, ⟨a, fV.slot⟩] ∧ B₁.cells = A₁.cells + 1 ∧ B₁.slots = A₁.slots + A.slots.size) :=
  (law l a D fV fC b A z).pays htab hfr (by omega)
end New1
end StrChars
namespace StrChars.Road
open Jvm Sem ClassFile Op Lib Jvm.Stand Jvm.Free Jvm.Free.XT
open Jvm.Lib.Cold (StaticIs)
abbrev ST : String := "java/lang/String"
/-- every table word that New1's law asks, flat -/
abbrev words : List Jvm.Cond := [.code New1.yN New1.yB 2 none, .initialized ST, .methodLink ST 27 New4.yN, .instanceMethod New4.yN,
  .code New4.yN New4.yB 6 none, .fieldLink ST 38 ST "COMPACT_STRINGS" "Z", .laysFinal ST ST "value" "[B", .fieldLink ST 9 ST "value" "[B", .laysFinal ST ST "coder" "B", .fieldLink ST 15 ST "coder" "B",
  .methodLink ST 1 Lib.objectInit, .instanceMethod Lib.objectInit, .code Lib.objectInit ⟨#[0xb1]⟩ 1 none, .methodLink ST 177 Cmp3.yN, .static Cmp3.yN, .methodLink ST 47 CodL.yN, .static CodL.yN,
  .code Cmp3.yN Cmp3.yB 6 (some (.array .byte)), .initialized U16, .arrayClass .byte, .methodLink U16 115 Cmp5.yN, .static Cmp5.yN, .code Cmp5.yN Cmp5.yB 7 (some .int), .code CodL.yN CodL.yB 2 (some .byte)]
theorem tab_of {a : Array Value} {s : State} (h : ∀ w ∈ words, w.before a s = true) : New1.tab.before a s = true := by
  have h5 : Cmp5.tab.before a s = true := unparts (wk h (.code Cmp5.yN Cmp5.yB 7 (some .int))) (wks h (.initialized Cmp5.yN.cls :: Cmp5.site))
  have hc : CodL.tab.before a s = true := unparts (wk h (.code CodL.yN CodL.yB 2 (some .byte))) (wks h (.initialized CodL.yN.cls :: CodL.site))
  have q5 : ∀ w ∈ Cmp5.tab :: words, w.before a s = true := fun w hw => (List.mem_cons.mp hw).elim (fun e => e ▸ h5) (h w)
  have h3 : Cmp3.tab.before a s = true := unparts (wk q5 (.code Cmp3.yN Cmp3.yB 6 (some (.array .byte)))) (wks q5 (.initialized Cmp3.yN.cls :: Cmp3.site))
  have q3 : ∀ w ∈ Cmp3.tab :: CodL.tab :: words, w.before a s = true := fun w hw => (List.mem_cons.mp hw).elim (fun e => e ▸ h3) fun hw => (List.mem_cons.mp hw).elim (fun e => e ▸ hc) (h w)
  have h4 : New4.tab.before a s = true := unparts (wk q3 (.code New4.yN New4.yB 6 none)) (wks q3 (.initialized New4.yN.cls :: New4.site))
  have q4 : ∀ w ∈ New4.tab :: words, w.before a s = true := fun w hw => (List.mem_cons.mp hw).elim (fun e => e ▸ h4) (h w)
  exact unparts (wk q4 (.code New1.yN New1.yB 2 none)) (wks q4 (.initialized New1.yN.cls :: New1.site))
/-- the words ride from the start Z to the walk's own state -/
theorem moved {Z s : State} {a0 args : Array Value} (hZ : Z.Warmed39 s.vm) (hw : ∀ d ∈ words, d.before a0 Z = true) : ∀ d ∈ words, d.before args s = true := fun d hd => by
  have q := hw d hd
  have t : ∀ d ∈ words, d = .arrayClass .byte ∨ (d.onTables && d.keepsFace) = true := by decide +kernel
  rcases t d hd with rfl | t
  · exact RoadKit.mvA hZ q
  · exact RoadKit.mv hZ q t
/-- WHAT COMES BACK, over the tables of the start Z: h the heap at the call, h' behind it -/
def Q (Z : State) (x : Addr) (A : Cell) (h : Heap) (v : Option Value) (h' : Heap) (L : List Loc) : Prop := v = none ∧ (∀ y ∈ L, y.base = x) ∧ RoadKit.Keep h h' [x] ∧ h'.size = h.size + 1 ∧ RoadKit.Exa Z h' x ST ∧ RoadKit.Fld Z h' x ST "value" "[B" (.ref h.size) ∧ RoadKit.Fld Z h' x ST "coder" "B" (.int 0) ∧
  (∃ V : Cell, RoadKit.Arr Z h' h.size V .byte ∧ V.vm = .none ∧ Z.vm.findClass "[B" = some V.cls ∧ V.slots.size = A.slots.size ∧ ∀ j, j < A.slots.size → V.slots[j]? = some (.int (lo8 (cv A j)))) ∧
  ∀ (O n d : String) (w : Value), RoadKit.Fld Z h x O n d w → RoadKit.slotOf Z O n d ≠ RoadKit.slotOf Z ST "value" "[B" → RoadKit.slotOf Z O n d ≠ RoadKit.slotOf Z ST "coder" "B" → RoadKit.Fld Z h' x O n d w
/-- **new String(chars) AT A CALL, IN THE ROAD'S FORM**: for specialBack behind newO: x the fresh String, b the char[] with the cell A -/
theorem back {p : Program} {l : Launch} {e : Env} {R : Room} {s : State} {args : Array Value} {below : List Frame} {len W : Nat} {Z : State} {a0 : Array Value} {h : Heap} (hZ : Z.Warmed39 s.vm) (hw : ∀ d ∈ words, d.before a0 Z = true) {kI : Nat} (wi : (Jvm.Cond.instantiable ST kI).before a0 Z = true)
    {x b : Addr} {A : Cell} {z : Int32} {v0 c0 : Value} (E : RoadKit.Exa Z h x ST) (V : RoadKit.Fld Z h x ST "value" "[B" v0) (C : RoadKit.Fld Z h x ST "coder" "B" c0) (K : RoadKit.Arr Z h b A .char) (hty : Typed .char A) (S : RoadKit.Sta Z h ST "COMPACT_STRINGS" "Z" (.int z)) (hz : ¬ z = 0)
    (l0 : 0 < A.slots.size) (l2 : A.slots.size ≤ 536870912) (hp : ∀ i, i < A.slots.size → ¬ 255 < cv A i) (hfr : 4 ≤ R.frames) (hlo : W + 65 ≤ R.locals) :
    Back l R p e below s args New1.yN len W (fun P a => a = #[.ref x, .ref b] ∧ P.U.heap = h ∧ P.cells + 1 ≤ R.cells ∧ P.slots + A.slots.size ≤ R.slots)
      (fun P _ v B => ∃ L, Q Z x A h v B.U.heap L ∧ B.locs = P.locs ++ L ∧ B.cells = P.cells + 1 ∧ B.slots = P.slots + A.slots.size) := by
  intro m meth c P g ig mk a X hg hsize hdg hW hn hp'
  obtain ⟨rfl, rfl, r1, r2⟩ := hp'
  have al : Z.vm.Alike P.U.vm := hZ.alike.trans X.warmed.alike
  obtain ⟨D, cfV, kV, iV, fV, hD, gV, stV, knV, obV, asV, slV⟩ := id V
  obtain ⟨D', cfC, kC, iC, fC, hD', gC, stC, -, -, asC, slC⟩ := id C
  cases hD.symm.trans hD'
  obtain ⟨D2, kD, e1, e2, e3, e4, e5⟩ := id E
  cases hD.symm.trans e1
  obtain ⟨c2, k2, i1, i2, i3, -⟩ := Cond.instantiable_spec wi
  cases e2.symm.trans i1
  cases e3.symm.trans i2
  obtain ⟨kU, u1, u2⟩ := al.2.2 _ _ e3
  have hB : Blank ST x D P.U := ⟨hD, ⟨knV, fun q hq => by rw [hq] at obV; cases obV⟩, by rw [al.findClass]; exact e2, kU, u1, by rw [u2]; exact i3, by rw [u2]; exact e5 i3⟩
  have F1 : Found ST "value" "[B" fV P.U := ⟨SBG.found_only al ⟨cfV, kV, iV, gV⟩, stV⟩
  have F2 : Found ST "coder" "B" fC P.U := ⟨SBG.found_only al ⟨cfC, kC, iC, gC⟩, stC⟩
  have hA : Ch b A P.U := ⟨⟨K.1, State.isArrayOf_alike al K.2.1, K.2.2, by omega⟩, hty⟩
  have hS : StaticIs P.U ST "COMPACT_STRINGS" "Z" (.int z) := by
    obtain ⟨cfS, iS, kS, fS, st, cS, t1, t2, t3, t4, t5, t6, t7⟩ := S
    exact StaticIs.there (s := { Z with heap := P.U.heap }) ⟨cfS, iS, kS, fS, st, cS, t1, t2, t3, t4, t5, (fun q => by rw [q] at t6; cases t6), t7⟩ al rfl
  obtain ⟨v, B, X', ⟨⟨hv, E', V', q1, q2, q3, q4, q5, q6, q7, q8, q9, q10, q11⟩, hl, hc, hs⟩, st⟩ := New1.pays x D fV fC b A z (tab_of (moved hZ hw)) hfr hlo m meth c P g ig mk _ X hg hsize hdg hW hn ⟨r1, r2, rfl, hB, F1, F2, hA, hS, hz, l0, l2, hp⟩
  have al' : Z.vm.Alike B.U.vm := hZ.alike.trans X'.warmed.alike
  have hsz : E'.slots.size = D.slots.size := by
    obtain ⟨-, -, -, kB, w1, w2, w3⟩ := q1
    obtain ⟨kB', y1, y2⟩ := al'.2.2 _ _ e3
    rw [q2.2.1] at w1
    cases w1.symm.trans y1
    rw [w3, e5 i3, y2]
  refine ⟨v, B, X', ⟨_, ⟨hv, ?_, ⟨by omega, fun y cy hy hn' => q10 y cy (by simpa using hn') hy, fun y cy hy => ?_⟩, q11, ⟨E', _, q1.1, by rw [q2.2.1]; exact e2, by rw [q2.2.1]; exact e3, by rw [q2.1]; exact obV, fun _ => by rw [hsz]; exact e5 i3⟩,
    ⟨E', cfV, kV, iV, fV, q1.1, gV, stV, by rw [q2.1]; exact knV, by rw [q2.1]; exact obV, by rw [q2.2.1]; exact asV, q3⟩, ⟨E', cfC, kC, iC, fC, q1.1, gC, stC, by rw [q2.1]; exact knV, by rw [q2.1]; exact obV, by rw [q2.2.1]; exact asC, q4⟩,
    ⟨V', ⟨q5.1, State.isArrayOf_alike al'.symm q5.2.1, q5.2.2.1⟩, q6, by rw [← al'.findClass]; exact q7, q8, fun j hj => by have := q9 j hj; rwa [Nat.zero_add] at this⟩, fun O n d w F n1 n2 => ?_⟩, hl, hc, hs⟩, st⟩
  · intro y hy
    simp only [List.mem_cons, List.not_mem_nil, or_false] at hy
    rcases hy with rfl | rfl <;> rfl
  · by_cases q : y = x
    · subst q
      cases hD.symm.trans hy
      exact ⟨E', q1.1, q2.2.1, q2.1, hsz⟩
    · exact ⟨cy, q10 y cy q hy, rfl, rfl, rfl⟩
  · obtain ⟨D3, cf, k, i, f, g1, g2, g3, g4, g5, g6, g7⟩ := F
    cases hD.symm.trans g1
    simp only [RoadKit.slotOf, g2, gV, gC, Option.map_some, Option.getD_some] at n1 n2
    exact ⟨E', cf, k, i, f, q1.1, g2, g3, by rw [q2.1]; exact g4, by rw [q2.1]; exact g5, by rw [q2.2.1]; exact g6, by rw [q2.2.2 f.slot (by simp [n1, n2])]; exact g7⟩
end StrChars.Road
namespace StrChars.Road
open Jvm Sem ClassFile Op Lib Jvm.Stand Jvm.Free Jvm.Free.XT
/-- WHAT COMES BACK, the byte[] as a list of values -/
def QA (Z : State) (x : Addr) (zn : Int32) (cs : List Int32) (h : Heap) (v : Option Value) (h' : Heap) (L : List Loc) : Prop := v = none ∧ (∀ y ∈ L, y.base = x) ∧ RoadKit.Keep h h' [x] ∧ h'.size = h.size + 1 ∧ RoadKit.Exa Z h' x ST ∧ RoadKit.Fld Z h' x ST "value" "[B" (.ref h.size) ∧ RoadKit.Fld Z h' x ST "coder" "B" (.int 0) ∧
  (∃ kb, Z.vm.findClass "[B" = some kb ∧ RoadKit.Arv Z h' h.size kb .byte zn (cs.map fun c => .int (lo8 c)) (.int 0)) ∧
  ∀ (O n d : String) (w : Value), RoadKit.Fld Z h x O n d w → RoadKit.slotOf Z O n d ≠ RoadKit.slotOf Z ST "value" "[B" → RoadKit.slotOf Z O n d ≠ RoadKit.slotOf Z ST "coder" "B" → RoadKit.Fld Z h' x O n d w
/-- **new String(chars) AT A CALL, THE ARRAYS AS LISTS**: the char[] at b holds cs, not empty, no char above 255 -/
theorem backArv {p : Program} {l : Launch} {e : Env} {R : Room} {s : State} {args : Array Value} {below : List Frame} {len W : Nat} {Z : State} {a0 : Array Value} {h : Heap} (hZ : Z.Warmed39 s.vm) (hw : ∀ d ∈ words, d.before a0 Z = true) {kI : Nat} (wi : (Jvm.Cond.instantiable ST kI).before a0 Z = true)
    {x b : Addr} {k : ClassId} {zn z : Int32} {cs : List Int32} {dv v0 c0 : Value} (E : RoadKit.Exa Z h x ST) (V : RoadKit.Fld Z h x ST "value" "[B" v0) (C : RoadKit.Fld Z h x ST "coder" "B" c0) (K : RoadKit.Arv Z h b k .char zn (cs.map Value.int) dv) (S : RoadKit.Sta Z h ST "COMPACT_STRINGS" "Z" (.int z)) (hz : ¬ z = 0)
    (hlen : zn.toNatClampNeg = cs.length) (h0 : 0 < cs.length) (hbig : cs.length ≤ 536870912) (hall : ∀ c ∈ cs, ¬ 255 < c) (hfr : 4 ≤ R.frames) (hlo : W + 65 ≤ R.locals) :
    Back l R p e below s args New1.yN len W (fun P a => a = #[.ref x, .ref b] ∧ P.U.heap = h ∧ P.cells + 1 ≤ R.cells ∧ P.slots + cs.length ≤ R.slots)
      (fun P _ v B => ∃ L, QA Z x zn cs h v B.U.heap L ∧ B.locs = P.locs ++ L ∧ B.cells = P.cells + 1 ∧ B.slots = P.slots + cs.length) := by
  obtain ⟨A, K1, K2, K3, K4, K5, K6⟩ := K
  have e : A.slots.size = cs.length := K3.trans hlen
  have hat : ∀ (i : Nat) (hi : i < cs.length), A.slots[i]? = some (.int cs[i]) := fun i hi => by rw [K5 i (by omega)]; simp [List.getD_eq_getElem?_getD, hi]
  have hcv : ∀ (i : Nat) (hi : i < cs.length), cv A i = cs[i] := fun i hi => by unfold cv; rw [hat i hi]
  have hty : Typed .char A := fun i v hv => by
    have hi : i < A.slots.size := (Array.getElem?_eq_some_iff.mp hv).1
    have q := K5 i hi
    rw [hv] at q
    rw [Option.some.inj q]
    exact K6 i hi
  refine Back.mono (back hZ hw wi E V C K1 hty S hz (by omega) (by omega) (fun i hi => by rw [hcv i (by omega)]; exact hall _ (List.getElem_mem _)) hfr hlo) (fun P a hp => ⟨hp.1, hp.2.1, hp.2.2.1, by rw [e]; exact hp.2.2.2⟩) (fun P a v B hp hq => ?_)
  obtain ⟨L, ⟨q1, q2, q3, q4, q5, q6, q7, ⟨V', v1, v2, v3, v4, v5⟩, q9⟩, hl, hc, hs⟩ := hq
  refine ⟨L, ⟨q1, q2, q3, q4, q5, q6, q7, ⟨V'.cls, v3, V', v1, rfl, by rw [v4, e, hlen], K4, fun i hi => ?_, fun i hi => ?_⟩, q9⟩, hl, hc, by rw [hs, e]⟩
  · have hi' : i < cs.length := by omega
    rw [v5 i (by omega), hcv i hi']; simp [List.getD_eq_getElem?_getD, hi']
  · have hi' : i < cs.length := by omega
    simp only [List.getD_eq_getElem?_getD, List.getElem?_map, List.getElem?_eq_getElem hi', Option.map_some, Option.getD_some]
    exact fits_lo8 _
end StrChars.Road
namespace StrChars.Road
open Jvm Sem ClassFile Op Lib Jvm.Stand Jvm.Free Jvm.Free.XT
/-- WHAT COMES BACK, in the writer's own shape -/
def QV (Z : State) (x : Addr) (N : Int32) (bs : List Int32) (h : Heap) (n0 : Nat) (v : Option Value) (h' : Heap) (L : List Loc) : Prop := v = none ∧ RoadKit.Fr n0 L ∧ RoadKit.Keep h h' [x] ∧ RoadKit.Exa Z h' x ST ∧ RoadKit.Fld Z h' x ST "coder" "B" (.int 0) ∧
  ∃ (t : Addr) (kb : ClassId), n0 ≤ t ∧ h.size ≤ t ∧ ¬ t = x ∧ RoadKit.Fld Z h' x ST "value" "[B" (.ref t) ∧ RoadKit.Arv Z h' t kb .byte N (bs.map Value.int) (.int 0)
/-- **new String(chars) AT A CALL, FOR THE WRITER**: a char[] of n known ints, each 0 to 255 -/
theorem backV {p : Program} {l : Launch} {e : Env} {R : Room} {s : State} {args : Array Value} {below : List Frame} {len W : Nat} {Z : State} {a0 : Array Value} {h : Heap} (hZ : Z.Warmed39 s.vm) (hw : ∀ d ∈ words, d.before a0 Z = true) {kI : Nat} (wi : (Jvm.Cond.instantiable ST kI).before a0 Z = true)
    {x b : Addr} {kC : ClassId} {cs bs : List Int32} {d v0 c0 : Value} {z N : Int32} {n n0 : Nat} (hx0 : n0 ≤ x) (hh0 : n0 ≤ h.size) (E : RoadKit.Exa Z h x ST) (V : RoadKit.Fld Z h x ST "value" "[B" v0) (C : RoadKit.Fld Z h x ST "coder" "B" c0) (K : RoadKit.Arv Z h b kC .char N (cs.map Value.int) d) (S : RoadKit.Sta Z h ST "COMPACT_STRINGS" "Z" (.int z)) (hz : ¬ z = 0)
    (hn : cs.length = n) (hN : N = Int32.ofNat n) (l0 : 0 < n) (l2 : n ≤ 4000) (hp : ∀ c ∈ cs, ¬ c < 0 ∧ ¬ (255 : Int32) < c) (hb : bs = cs.map (fun c => c.toInt8.toInt32)) (hfr : 4 ≤ R.frames) (hlo : W + 65 ≤ R.locals) :
    Back l R p e below s args (⟨"java/lang/String", "<init>", "([C)V"⟩ : MethodName) len W (fun P a => a = #[.ref x, .ref b] ∧ P.U.heap = h ∧ P.cells + 1 ≤ R.cells ∧ P.slots + n ≤ R.slots)
      (fun P _ v B => ∃ L, QV Z x N bs h n0 v B.U.heap L ∧ B.locs = P.locs ++ L ∧ B.cells = P.cells + 1 ∧ B.slots = P.slots + n) := by
  subst hn hN hb
  refine Back.mono (backArv hZ hw wi E V C K S hz (n32 (by omega)) l0 (by omega) (fun c hc => (hp c hc).2) hfr hlo) (fun P a hp => hp) (fun P a v B hp hq => ?_)
  obtain ⟨L, ⟨q1, q2, q3, q4, q5, q6, q7, ⟨kb, v1, v2⟩, q9⟩, hl, hc, hs⟩ := hq
  exact ⟨L, ⟨q1, fun y hy => by rw [q2 y hy]; exact hx0, q3, q5, q7, h.size, kb, hh0, Nat.le_refl _, Nat.ne_of_gt E.lt, q6, by rw [List.map_map]; exact v2⟩, hl, hc, hs⟩
end StrChars.Road
end Jvm.Pilot.@@N@@
namespace Jvm.Pilot.@@N@@
namespace Own
open Jvm Jvm.ClassFile Sem Op Lib Jvm.Free Jvm.Stand Jvm.LawKit Jvm.RoadKit
/-! A WALK READ FORWARDS. 'Owe .. G T g': from the state T with the frame g on top the invocation comes back, and G holds of what it leaves. Each step's rule asks what is owed behind the step. -/
def Owe (tb : Tables) (e : Env) (below : List Frame) (G : Outcome → State → Prop) (T : State) (g : JFrame) : Prop := ∃ u o, Steps tb e below (T.setTop g) u ∧ u.status = .running ∧ Ended u below o ∧ G o u
theorem Owe.by {tb : Tables} {e : Env} {below : List Frame} {G : Outcome → State → Prop} {T T' : State} {g g' : JFrame} (k : ∀ t, Steps tb e below (T'.setTop g') t → Steps tb e below (T.setTop g) t) (h : Owe tb e below G T' g') : Owe tb e below G T g := by
  obtain ⟨u, o, h1, h2⟩ := h
  exact ⟨u, o, k _ h1, h2⟩
theorem Owe.cast {tb : Tables} {e : Env} {below : List Frame} {G : Outcome → State → Prop} {T : State} {g g' : JFrame} (q : g = g') (h : Owe tb e below G T g') : Owe tb e below G T g := q ▸ h
section Plain
variable {tb : Tables} [Ours tb] {e : Env} {below : List Frame} {G : Outcome → State → Prop} {T : State} {m : MethodId} {c : Code} {pc : Nat} {Ls : Array Slot} {st : List Value}
theorem Owe.aloadN (h : At T m c below) (hx : tb.exec = Jvm.exec) {k : Fin 4} {v : Value} (hd : decode c.code pc = .ok (.aload_n k, 1)) (hl : Ls[k.val]? = some (.val v)) (hv : v.isRef = true) (go : Owe tb e below G T (mkF m (pc + 1) Ls (v :: st))) : Owe tb e below G T (mkF m pc Ls st) := Owe.by (fun t k => XS.aloadN h hx rfl hd hl hv k) go
theorem Owe.aload (h : At T m c below) (hx : tb.exec = Jvm.exec) {k : Nat} {v : Value} (hd : decode c.code pc = .ok (.aload k, 2)) (hl : Ls[k]? = some (.val v)) (hv : v.isRef = true) (go : Owe tb e below G T (mkF m (pc + 2) Ls (v :: st))) : Owe tb e below G T (mkF m pc Ls st) := Owe.by (fun t k => XS.aload h hx rfl hd hl hv k) go
theorem Owe.iloadN (h : At T m c below) (hx : tb.exec = Jvm.exec) {k : Fin 4} {v : Int32} (hd : decode c.code pc = .ok (.iload_n k, 1)) (hl : Ls[k.val]? = some (.val (.int v))) (go : Owe tb e below G T (mkF m (pc + 1) Ls (.int v :: st))) : Owe tb e below G T (mkF m pc Ls st) := Owe.by (fun t k => XS.iloadN h hx rfl hd hl k) go
theorem Owe.iload (h : At T m c below) (hx : tb.exec = Jvm.exec) {k : Nat} {v : Int32} (hd : decode c.code pc = .ok (.iload k, 2)) (hl : Ls[k]? = some (.val (.int v))) (go : Owe tb e below G T (mkF m (pc + 2) Ls (.int v :: st))) : Owe tb e below G T (mkF m pc Ls st) := Owe.by (fun t k => XS.iload h hx rfl hd hl k) go
theorem Owe.iconst (h : At T m c below) (hx : tb.exec = Jvm.exec) {i : Int} (hd : decode c.code pc = .ok (.iconst i, 1)) {w : Int32} (hw : (Int32.ofInt i) = w) (go : Owe tb e below G T (mkF m (pc + 1) Ls (.int w :: st))) : Owe tb e below G T (mkF m pc Ls st) := by subst hw; exact Owe.by (fun t k => XS.iconst h hx rfl hd k) go
theorem Owe.bipush (h : At T m c below) (hx : tb.exec = Jvm.exec) {i : Int} (hd : decode c.code pc = .ok (.bipush i, 2)) {w : Int32} (hw : (Int8.ofInt i).toInt32 = w) (go : Owe tb e below G T (mkF m (pc + 2) Ls (.int w :: st))) : Owe tb e below G T (mkF m pc Ls st) := by subst hw; exact Owe.by (fun t k => XS.bipush h hx rfl hd k) go
theorem Owe.sipush (h : At T m c below) (hx : tb.exec = Jvm.exec) {i : Int} (hd : decode c.code pc = .ok (.sipush i, 3)) {w : Int32} (hw : (Int16.ofInt i).toInt32 = w) (go : Owe tb e below G T (mkF m (pc + 3) Ls (.int w :: st))) : Owe tb e below G T (mkF m pc Ls st) := by subst hw; exact Owe.by (fun t k => XS.sipush h hx rfl hd k) go
theorem Owe.aconstNull (h : At T m c below) (hx : tb.exec = Jvm.exec) (hd : decode c.code pc = .ok (.aconst_null, 1)) (go : Owe tb e below G T (mkF m (pc + 1) Ls (.null :: st))) : Owe tb e below G T (mkF m pc Ls st) := Owe.by (fun t k => XS.aconstNull h hx rfl hd k) go
theorem Owe.iadd (h : At T m c below) (hx : tb.exec = Jvm.exec) {x y : Int32} {rest : List Value} (hd : decode c.code pc = .ok (.iadd, 1)) (hs : st = .int y :: .int x :: rest) (go : Owe tb e below G T (mkF m (pc + 1) Ls (.int (x + y) :: rest))) : Owe tb e below G T (mkF m pc Ls st) := Owe.by (fun t k => XS.iadd h hx rfl hd hs k) go
theorem Owe.isub (h : At T m c below) (hx : tb.exec = Jvm.exec) {x y : Int32} {rest : List Value} (hd : decode c.code pc = .ok (.isub, 1)) (hs : st = .int y :: .int x :: rest) (go : Owe tb e below G T (mkF m (pc + 1) Ls (.int (x - y) :: rest))) : Owe tb e below G T (mkF m pc Ls st) := Owe.by (fun t k => XS.isub h hx rfl hd hs k) go
theorem Owe.imul (h : At T m c below) (hx : tb.exec = Jvm.exec) {x y : Int32} {rest : List Value} (hd : decode c.code pc = .ok (.imul, 1)) (hs : st = .int y :: .int x :: rest) (go : Owe tb e below G T (mkF m (pc + 1) Ls (.int (x * y) :: rest))) : Owe tb e below G T (mkF m pc Ls st) := Owe.by (fun t k => XS.imul h hx rfl hd hs k) go
theorem Owe.iand (h : At T m c below) (hx : tb.exec = Jvm.exec) {x y : Int32} {rest : List Value} (hd : decode c.code pc = .ok (.iand, 1)) (hs : st = .int y :: .int x :: rest) (go : Owe tb e below G T (mkF m (pc + 1) Ls (.int (x &&& y) :: rest))) : Owe tb e below G T (mkF m pc Ls st) := Owe.by (fun t k => XS.iand h hx rfl hd hs k) go
theorem Owe.ior (h : At T m c below) (hx : tb.exec = Jvm.exec) {x : Int32} {y : Int32} {rest : List Value} (hd : decode c.code pc = .ok (.ior, 1)) (hs : st = .int y :: .int x :: rest) (go : Owe tb e below G T (mkF m (pc + 1) Ls (.int (x ||| y) :: rest))) : Owe tb e below G T (mkF m pc Ls st) := Owe.by (fun t k => XS.ior h hx rfl hd hs k) go
theorem Owe.ixor (h : At T m c below) (hx : tb.exec = Jvm.exec) {x : Int32} {y : Int32} {rest : List Value} (hd : decode c.code pc = .ok (.ixor, 1)) (hs : st = .int y :: .int x :: rest) (go : Owe tb e below G T (mkF m (pc + 1) Ls (.int (x ^^^ y) :: rest))) : Owe tb e below G T (mkF m pc Ls st) := Owe.by (fun t k => XS.ixor h hx rfl hd hs k) go
theorem Owe.ishl (h : At T m c below) (hx : tb.exec = Jvm.exec) {x : Int32} {y : Int32} {rest : List Value} (hd : decode c.code pc = .ok (.ishl, 1)) (hs : st = .int y :: .int x :: rest) (go : Owe tb e below G T (mkF m (pc + 1) Ls (.int (x <<< (y &&& 31)) :: rest))) : Owe tb e below G T (mkF m pc Ls st) := Owe.by (fun t k => XS.ishl h hx rfl hd hs k) go
theorem Owe.ishr (h : At T m c below) (hx : tb.exec = Jvm.exec) {x : Int32} {y : Int32} {rest : List Value} (hd : decode c.code pc = .ok (.ishr, 1)) (hs : st = .int y :: .int x :: rest) (go : Owe tb e below G T (mkF m (pc + 1) Ls (.int (x >>> (y &&& 31)) :: rest))) : Owe tb e below G T (mkF m pc Ls st) := Owe.by (fun t k => XS.ishr h hx rfl hd hs k) go
theorem Owe.iushr (h : At T m c below) (hx : tb.exec = Jvm.exec) {x : Int32} {y : Int32} {rest : List Value} (hd : decode c.code pc = .ok (.iushr, 1)) (hs : st = .int y :: .int x :: rest) (go : Owe tb e below G T (mkF m (pc + 1) Ls (.int ((x.toUInt32 >>> (y &&& 31).toUInt32).toInt32) :: rest))) : Owe tb e below G T (mkF m pc Ls st) := Owe.by (fun t k => XS.iushr h hx rfl hd hs k) go
theorem Owe.irem (h : At T m c below) (hx : tb.exec = Jvm.exec) {x y : Int32} {rest : List Value} (hd : decode c.code pc = .ok (.irem, 1)) (hs : st = .int y :: .int x :: rest) (hy : y ≠ 0) (go : Owe tb e below G T (mkF m (pc + 1) Ls (.int (x - (x / y) * y) :: rest))) : Owe tb e below G T (mkF m pc Ls st) := Owe.by (fun t k => XS.irem h hx rfl hd hs hy k) go
theorem Owe.idiv (h : At T m c below) (hx : tb.exec = Jvm.exec) {x y : Int32} {rest : List Value} (hd : decode c.code pc = .ok (.idiv, 1)) (hs : st = .int y :: .int x :: rest) (hy : y ≠ 0) (go : Owe tb e below G T (mkF m (pc + 1) Ls (.int (x / y) :: rest))) : Owe tb e below G T (mkF m pc Ls st) := Owe.by (fun t k => XS.idiv h hx rfl hd hs hy k) go
theorem Owe.ineg (h : At T m c below) (hx : tb.exec = Jvm.exec) {x : Int32} {rest : List Value} (hd : decode c.code pc = .ok (.ineg, 1)) (hs : st = .int x :: rest) (go : Owe tb e below G T (mkF m (pc + 1) Ls (.int (-x) :: rest))) : Owe tb e below G T (mkF m pc Ls st) := Owe.by (fun t k => XS.ineg h hx rfl hd hs k) go
theorem Owe.iinc (h : At T m c below) (hx : tb.exec = Jvm.exec) {k : Nat} {cst : Int} {x : Int32} {l' : Array Slot} (hd : decode c.code pc = .ok (.iinc k cst, 3)) (hl : Ls[k]? = some (.val (.int x))) (hl' : storeLocals Ls k (.int (x + Int32.ofInt cst)) = some l') (go : Owe tb e below G T (mkF m (pc + 3) l' st)) : Owe tb e below G T (mkF m pc Ls st) := Owe.by (fun t k => XS.iinc h hx rfl hd hl hl' k) go
theorem Owe.dup (h : At T m c below) (hx : tb.exec = Jvm.exec) {x : Value} {rest : List Value} (hd : decode c.code pc = .ok (.dup, 1)) (hs : st = x :: rest) (hc : x.category = 1) (go : Owe tb e below G T (mkF m (pc + 1) Ls (x :: x :: rest))) : Owe tb e below G T (mkF m pc Ls st) := Owe.by (fun t k => XS.dup h hx rfl hd hs hc k) go
theorem Owe.pop (h : At T m c below) (hx : tb.exec = Jvm.exec) {x : Value} {rest : List Value} (hd : decode c.code pc = .ok (.pop, 1)) (hs : st = x :: rest) (hc : x.category = 1) (go : Owe tb e below G T (mkF m (pc + 1) Ls rest)) : Owe tb e below G T (mkF m pc Ls st) := Owe.by (fun t k => XS.pop h hx rfl hd hs hc k) go
theorem Owe.dupX1 (h : At T m c below) (hx : tb.exec = Jvm.exec) {x y : Value} {rest : List Value} (hd : decode c.code pc = .ok (.dup_x1, 1)) (hs : st = x :: y :: rest) (hc : x.category = 1) (hc2 : y.category = 1) (go : Owe tb e below G T (mkF m (pc + 1) Ls (x :: y :: x :: rest))) : Owe tb e below G T (mkF m pc Ls st) := Owe.by (fun t k => XS.dupX1 h hx rfl hd hs hc hc2 k) go
theorem Owe.dup2 (h : At T m c below) (hx : tb.exec = Jvm.exec) {x y : Value} {rest : List Value} (hd : decode c.code pc = .ok (.dup2, 1)) (hs : st = x :: y :: rest) (hc : x.category = 1) (hc' : y.category = 1) (go : Owe tb e below G T (mkF m (pc + 1) Ls (x :: y :: x :: y :: rest))) : Owe tb e below G T (mkF m pc Ls st) := Owe.by (fun t k => Jvm.Free.XT.dup2 h hx rfl hd hs hc hc' k) go
theorem Owe.istoreN (h : At T m c below) (hx : tb.exec = Jvm.exec) {k : Fin 4} {x : Int32} {rest : List Value} {l' : Array Slot} (hd : decode c.code pc = .ok (.istore_n k, 1)) (hs : st = .int x :: rest) (hl : storeLocals Ls k.val (.int x) = some l') (go : Owe tb e below G T (mkF m (pc + 1) l' rest)) : Owe tb e below G T (mkF m pc Ls st) := Owe.by (fun t k => XS.istoreN h hx rfl hd hs hl k) go
theorem Owe.istore (h : At T m c below) (hx : tb.exec = Jvm.exec) {k : Nat} {x : Int32} {rest : List Value} {l' : Array Slot} (hd : decode c.code pc = .ok (.istore k, 2)) (hs : st = .int x :: rest) (hl : storeLocals Ls k (.int x) = some l') (go : Owe tb e below G T (mkF m (pc + 2) l' rest)) : Owe tb e below G T (mkF m pc Ls st) := Owe.by (fun t k => XS.istore h hx rfl hd hs hl k) go
theorem Owe.astoreN (h : At T m c below) (hx : tb.exec = Jvm.exec) {k : Fin 4} {x : Value} {rest : List Value} {l' : Array Slot} (hd : decode c.code pc = .ok (.astore_n k, 1)) (hs : st = x :: rest) (hv : x.isRef = true) (hl : storeLocals Ls k.val x = some l') (go : Owe tb e below G T (mkF m (pc + 1) l' rest)) : Owe tb e below G T (mkF m pc Ls st) := Owe.by (fun t k => XS.astoreN h hx rfl hd hs hv hl k) go
theorem Owe.astore (h : At T m c below) (hx : tb.exec = Jvm.exec) {k : Nat} {x : Value} {rest : List Value} {l' : Array Slot} (hd : decode c.code pc = .ok (.astore k, 2)) (hs : st = x :: rest) (hv : x.isRef = true) (hl : storeLocals Ls k x = some l') (go : Owe tb e below G T (mkF m (pc + 2) l' rest)) : Owe tb e below G T (mkF m pc Ls st) := Owe.by (fun t k => XS.astore h hx rfl hd hs hv hl k) go
theorem Owe.goto (h : At T m c below) (hx : tb.exec = Jvm.exec) {o : Int} {pc' : Nat}  (hd : decode c.code pc = .ok (.goto o, 3)) (ho : 0 ≤ (pc : Int) + o) (hp : ((pc : Int) + o).toNat = pc') (go : Owe tb e below G T (mkF m pc' Ls st)) : Owe tb e below G T (mkF m pc Ls st) := Owe.by (fun t k => XS.goto h hx rfl rfl hd ho hp k) go
theorem Owe.ifYes (h : At T m c below) (hx : tb.exec = Jvm.exec) {cd : ClassFile.Cond} {x : Int32} {rest : List Value} {o : Int} {pc' : Nat}  (hd : decode c.code pc = .ok (.ifCond cd o, 3)) (hs : st = .int x :: rest) (hc : ifCond.holds cd x = true) (ho : 0 ≤ (pc : Int) + o) (hp : ((pc : Int) + o).toNat = pc') (go : Owe tb e below G T (mkF m pc' Ls rest)) : Owe tb e below G T (mkF m pc Ls st) := Owe.by (fun t k => XS.ifYes h hx rfl rfl hd hs hc ho hp k) go
theorem Owe.ifNo (h : At T m c below) (hx : tb.exec = Jvm.exec) {cd : ClassFile.Cond} {o : Int} {x : Int32} {rest : List Value} (hd : decode c.code pc = .ok (.ifCond cd o, 3)) (hs : st = .int x :: rest) (hc : ifCond.holds cd x = false) (go : Owe tb e below G T (mkF m (pc + 3) Ls rest)) : Owe tb e below G T (mkF m pc Ls st) := Owe.by (fun t k => XS.ifNo h hx rfl hd hs hc k) go
theorem Owe.icmpYes (h : At T m c below) (hx : tb.exec = Jvm.exec) {cd : ClassFile.Cond} {x y : Int32} {rest : List Value} {o : Int} {pc' : Nat}  (hd : decode c.code pc = .ok (.if_icmp cd o, 3)) (hs : st = .int y :: .int x :: rest) (hc : if_icmp.holds cd x y = true) (ho : 0 ≤ (pc : Int) + o) (hp : ((pc : Int) + o).toNat = pc') (go : Owe tb e below G T (mkF m pc' Ls rest)) : Owe tb e below G T (mkF m pc Ls st) := Owe.by (fun t k => XS.icmpYes h hx rfl rfl hd hs hc ho hp k) go
theorem Owe.icmpNo (h : At T m c below) (hx : tb.exec = Jvm.exec) {cd : ClassFile.Cond} {o : Int} {x y : Int32} {rest : List Value} (hd : decode c.code pc = .ok (.if_icmp cd o, 3)) (hs : st = .int y :: .int x :: rest) (hc : if_icmp.holds cd x y = false) (go : Owe tb e below G T (mkF m (pc + 3) Ls rest)) : Owe tb e below G T (mkF m pc Ls st) := Owe.by (fun t k => XS.icmpNo h hx rfl hd hs hc k) go
theorem Owe.ifnullYes (h : At T m c below) (hx : tb.exec = Jvm.exec) {rest : List Value} {o : Int} {pc' : Nat}  (hd : decode c.code pc = .ok (.ifnull o, 3)) (hs : st = .null :: rest) (ho : 0 ≤ (pc : Int) + o) (hp : ((pc : Int) + o).toNat = pc') (go : Owe tb e below G T (mkF m pc' Ls rest)) : Owe tb e below G T (mkF m pc Ls st) := Owe.by (fun t k => XS.ifnullYes h hx rfl rfl hd hs ho hp k) go
theorem Owe.ifnullNo (h : At T m c below) (hx : tb.exec = Jvm.exec) {o : Int} {b : Addr} {rest : List Value} (hd : decode c.code pc = .ok (.ifnull o, 3)) (hs : st = .ref b :: rest) (go : Owe tb e below G T (mkF m (pc + 3) Ls rest)) : Owe tb e below G T (mkF m pc Ls st) := Owe.by (fun t k => XS.ifnullNo h hx rfl hd hs k) go
theorem Owe.ifnonnullYes (h : At T m c below) (hx : tb.exec = Jvm.exec) {b : Addr} {rest : List Value} {o : Int} {pc' : Nat}  (hd : decode c.code pc = .ok (.ifnonnull o, 3)) (hs : st = .ref b :: rest) (ho : 0 ≤ (pc : Int) + o) (hp : ((pc : Int) + o).toNat = pc') (go : Owe tb e below G T (mkF m pc' Ls rest)) : Owe tb e below G T (mkF m pc Ls st) := Owe.by (fun t k => XS.ifnonnullYes h hx rfl rfl hd hs ho hp k) go
theorem Owe.ifnonnullNo (h : At T m c below) (hx : tb.exec = Jvm.exec) {o : Int} {rest : List Value} (hd : decode c.code pc = .ok (.ifnonnull o, 3)) (hs : st = .null :: rest) (go : Owe tb e below G T (mkF m (pc + 3) Ls rest)) : Owe tb e below G T (mkF m pc Ls st) := Owe.by (fun t k => XS.ifnonnullNo h hx rfl hd hs k) go
theorem Owe.acmpYes (h : At T m c below) (hx : tb.exec = Jvm.exec) {cd : ClassFile.ACond} {x y : Value} {rest : List Value} {o : Int} {pc' : Nat}  (hd : decode c.code pc = .ok (.if_acmp cd o, 3)) (hs : st = y :: x :: rest) (hx' : x.isRef = true) (hy' : y.isRef = true) (hc : Jvm.Free.XT.acmp cd x y = true) (ho : 0 ≤ (pc : Int) + o) (hp : ((pc : Int) + o).toNat = pc') (go : Owe tb e below G T (mkF m pc' Ls rest)) : Owe tb e below G T (mkF m pc Ls st) := Owe.by (fun t k => Jvm.Free.XT.acmpYes h hx rfl rfl hd hs hx' hy' hc ho hp k) go
theorem Owe.acmpNo (h : At T m c below) (hx : tb.exec = Jvm.exec) {cd : ClassFile.ACond} {o : Int} {x y : Value} {rest : List Value} (hd : decode c.code pc = .ok (.if_acmp cd o, 3)) (hs : st = y :: x :: rest) (hx' : x.isRef = true) (hy' : y.isRef = true) (hc : Jvm.Free.XT.acmp cd x y = false) (go : Owe tb e below G T (mkF m (pc + 3) Ls rest)) : Owe tb e below G T (mkF m pc Ls st) := Owe.by (fun t k => Jvm.Free.XT.acmpNo h hx rfl hd hs hx' hy' hc k) go
theorem Owe.ladd (h : At T m c below) (hx : tb.exec = Jvm.exec) {x : Int64} {y : Int64} {rest : List Value} (hd : decode c.code pc = .ok (.ladd, 1)) (hs : st = .long y :: .long x :: rest) (go : Owe tb e below G T (mkF m (pc + 1) Ls (.long (x + y) :: rest))) : Owe tb e below G T (mkF m pc Ls st) := Owe.by (fun t k => XS.ladd h hx rfl hd hs k) go
theorem Owe.lsub (h : At T m c below) (hx : tb.exec = Jvm.exec) {x : Int64} {y : Int64} {rest : List Value} (hd : decode c.code pc = .ok (.lsub, 1)) (hs : st = .long y :: .long x :: rest) (go : Owe tb e below G T (mkF m (pc + 1) Ls (.long (x - y) :: rest))) : Owe tb e below G T (mkF m pc Ls st) := Owe.by (fun t k => XS.lsub h hx rfl hd hs k) go
theorem Owe.lmul (h : At T m c below) (hx : tb.exec = Jvm.exec) {x : Int64} {y : Int64} {rest : List Value} (hd : decode c.code pc = .ok (.lmul, 1)) (hs : st = .long y :: .long x :: rest) (go : Owe tb e below G T (mkF m (pc + 1) Ls (.long (x * y) :: rest))) : Owe tb e below G T (mkF m pc Ls st) := Owe.by (fun t k => XS.lmul h hx rfl hd hs k) go
theorem Owe.land (h : At T m c below) (hx : tb.exec = Jvm.exec) {x : Int64} {y : Int64} {rest : List Value} (hd : decode c.code pc = .ok (.land, 1)) (hs : st = .long y :: .long x :: rest) (go : Owe tb e below G T (mkF m (pc + 1) Ls (.long (x &&& y) :: rest))) : Owe tb e below G T (mkF m pc Ls st) := Owe.by (fun t k => XS.land h hx rfl hd hs k) go
theorem Owe.lor (h : At T m c below) (hx : tb.exec = Jvm.exec) {x : Int64} {y : Int64} {rest : List Value} (hd : decode c.code pc = .ok (.lor, 1)) (hs : st = .long y :: .long x :: rest) (go : Owe tb e below G T (mkF m (pc + 1) Ls (.long (x ||| y) :: rest))) : Owe tb e below G T (mkF m pc Ls st) := Owe.by (fun t k => XS.lor h hx rfl hd hs k) go
theorem Owe.lxor (h : At T m c below) (hx : tb.exec = Jvm.exec) {x : Int64} {y : Int64} {rest : List Value} (hd : decode c.code pc = .ok (.lxor, 1)) (hs : st = .long y :: .long x :: rest) (go : Owe tb e below G T (mkF m (pc + 1) Ls (.long (x ^^^ y) :: rest))) : Owe tb e below G T (mkF m pc Ls st) := Owe.by (fun t k => XS.lxor h hx rfl hd hs k) go
theorem Owe.lshl (h : At T m c below) (hx : tb.exec = Jvm.exec) {x : Int64} {y : Int32} {rest : List Value} (hd : decode c.code pc = .ok (.lshl, 1)) (hs : st = .int y :: .long x :: rest) (go : Owe tb e below G T (mkF m (pc + 1) Ls (.long (x <<< (y &&& 0x3f).toInt64) :: rest))) : Owe tb e below G T (mkF m pc Ls st) := Owe.by (fun t k => XS.lshl h hx rfl hd hs k) go
theorem Owe.lshr (h : At T m c below) (hx : tb.exec = Jvm.exec) {x : Int64} {y : Int32} {rest : List Value} (hd : decode c.code pc = .ok (.lshr, 1)) (hs : st = .int y :: .long x :: rest) (go : Owe tb e below G T (mkF m (pc + 1) Ls (.long (x >>> (y &&& 0x3f).toInt64) :: rest))) : Owe tb e below G T (mkF m pc Ls st) := Owe.by (fun t k => XS.lshr h hx rfl hd hs k) go
theorem Owe.lushr (h : At T m c below) (hx : tb.exec = Jvm.exec) {x : Int64} {y : Int32} {rest : List Value} (hd : decode c.code pc = .ok (.lushr, 1)) (hs : st = .int y :: .long x :: rest) (go : Owe tb e below G T (mkF m (pc + 1) Ls (.long ((x.toUInt64 >>> (y &&& 0x3f).toInt64.toUInt64).toInt64) :: rest))) : Owe tb e below G T (mkF m pc Ls st) := Owe.by (fun t k => XS.lushr h hx rfl hd hs k) go
theorem Owe.lneg (h : At T m c below) (hx : tb.exec = Jvm.exec) {v : Int64} {rest : List Value} (hd : decode c.code pc = .ok (.lneg, 1)) (hs : st = .long v :: rest) (go : Owe tb e below G T (mkF m (pc + 1) Ls (.long (-v) :: rest))) : Owe tb e below G T (mkF m pc Ls st) := Owe.by (fun t k => XS.lneg h hx rfl hd hs k) go
theorem Owe.i2l (h : At T m c below) (hx : tb.exec = Jvm.exec) {v : Int32} {rest : List Value} (hd : decode c.code pc = .ok (.i2l, 1)) (hs : st = .int v :: rest) (go : Owe tb e below G T (mkF m (pc + 1) Ls (.long (v.toInt64) :: rest))) : Owe tb e below G T (mkF m pc Ls st) := Owe.by (fun t k => XS.i2l h hx rfl hd hs k) go
theorem Owe.l2i (h : At T m c below) (hx : tb.exec = Jvm.exec) {v : Int64} {rest : List Value} (hd : decode c.code pc = .ok (.l2i, 1)) (hs : st = .long v :: rest) (go : Owe tb e below G T (mkF m (pc + 1) Ls (.int (v.toInt32) :: rest))) : Owe tb e below G T (mkF m pc Ls st) := Owe.by (fun t k => XS.l2i h hx rfl hd hs k) go
theorem Owe.i2b (h : At T m c below) (hx : tb.exec = Jvm.exec) {v : Int32} {rest : List Value} (hd : decode c.code pc = .ok (.i2b, 1)) (hs : st = .int v :: rest) (go : Owe tb e below G T (mkF m (pc + 1) Ls (.int (v.toInt8.toInt32) :: rest))) : Owe tb e below G T (mkF m pc Ls st) := Owe.by (fun t k => XS.i2b h hx rfl hd hs k) go
theorem Owe.i2c (h : At T m c below) (hx : tb.exec = Jvm.exec) {v : Int32} {rest : List Value} (hd : decode c.code pc = .ok (.i2c, 1)) (hs : st = .int v :: rest) (go : Owe tb e below G T (mkF m (pc + 1) Ls (.int (v.toUInt32.toUInt16.toUInt32.toInt32) :: rest))) : Owe tb e below G T (mkF m pc Ls st) := Owe.by (fun t k => XS.i2c h hx rfl hd hs k) go
theorem Owe.i2s (h : At T m c below) (hx : tb.exec = Jvm.exec) {v : Int32} {rest : List Value} (hd : decode c.code pc = .ok (.i2s, 1)) (hs : st = .int v :: rest) (go : Owe tb e below G T (mkF m (pc + 1) Ls (.int (v.toInt16.toInt32) :: rest))) : Owe tb e below G T (mkF m pc Ls st) := Owe.by (fun t k => XS.i2s h hx rfl hd hs k) go
theorem Owe.lloadN (h : At T m c below) (hx : tb.exec = Jvm.exec) {k : Fin 4} {v : Int64} (hd : decode c.code pc = .ok (.lload_n k, 1)) (hl : Ls[k.val]? = some (.val (.long v))) (go : Owe tb e below G T (mkF m (pc + 1) Ls (.long v :: st))) : Owe tb e below G T (mkF m pc Ls st) := Owe.by (fun t k => XS.lloadN h hx rfl hd hl k) go
theorem Owe.lload (h : At T m c below) (hx : tb.exec = Jvm.exec) {k : Nat} {v : Int64} (hd : decode c.code pc = .ok (.lload k, 2)) (hl : Ls[k]? = some (.val (.long v))) (go : Owe tb e below G T (mkF m (pc + 2) Ls (.long v :: st))) : Owe tb e below G T (mkF m pc Ls st) := Owe.by (fun t k => XS.lload h hx rfl hd hl k) go
theorem Owe.lstoreN (h : At T m c below) (hx : tb.exec = Jvm.exec) {k : Fin 4} {x : Int64} {rest : List Value} {l' : Array Slot} (hd : decode c.code pc = .ok (.lstore_n k, 1)) (hs : st = .long x :: rest) (hl : storeLocals Ls k.val (.long x) = some l') (go : Owe tb e below G T (mkF m (pc + 1) l' rest)) : Owe tb e below G T (mkF m pc Ls st) := Owe.by (fun t k => XS.lstoreN h hx rfl hd hs hl k) go
theorem Owe.lstore (h : At T m c below) (hx : tb.exec = Jvm.exec) {k : Nat} {x : Int64} {rest : List Value} {l' : Array Slot} (hd : decode c.code pc = .ok (.lstore k, 2)) (hs : st = .long x :: rest) (hl : storeLocals Ls k (.long x) = some l') (go : Owe tb e below G T (mkF m (pc + 2) l' rest)) : Owe tb e below G T (mkF m pc Ls st) := Owe.by (fun t k => XS.lstore h hx rfl hd hs hl k) go
theorem Owe.lconst (h : At T m c below) (hx : tb.exec = Jvm.exec) {k : Fin 2} (hd : decode c.code pc = .ok (.lconst k, 1)) {w : Int64} (hw : (Int64.ofNat k) = w) (go : Owe tb e below G T (mkF m (pc + 1) Ls (.long w :: st))) : Owe tb e below G T (mkF m pc Ls st) := by subst hw; exact Owe.by (fun t k => XS.lconst h hx rfl hd k) go
theorem Owe.lcmp (h : At T m c below) (hx : tb.exec = Jvm.exec) {x y : Int64} {rest : List Value} (hd : decode c.code pc = .ok (.lcmp, 1)) (hs : st = .long y :: .long x :: rest) (go : Owe tb e below G T (mkF m (pc + 1) Ls (.int (lcmpW x y) :: rest))) : Owe tb e below G T (mkF m pc Ls st) := Owe.by (fun t k => XS.lcmp h hx rfl hd hs k) go
theorem Owe.tswIn (h : At T m c below) (hx : tb.exec = Jvm.exec) {dflt low high : Int} {offs : Array Int} {len : Nat} {o : Int} {pc' : Nat}  (hd : decode c.code pc = .ok (.tableswitch dflt low high offs, len)) {i : Int32} {rest : List Value} (hs : st = .int i :: rest) (hin : ¬ (i.toInt < low ∨ i.toInt > high)) (hoff : offs[(i.toInt - low).toNat]? = some o) (ho : 0 ≤ (pc : Int) + o) (hp : ((pc : Int) + o).toNat = pc') (go : Owe tb e below G T (mkF m pc' Ls rest)) : Owe tb e below G T (mkF m pc Ls st) := Owe.by (fun t k => XS.tswIn h hx rfl rfl hd hs hin hoff ho hp k) go
theorem Owe.tswOut (h : At T m c below) (hx : tb.exec = Jvm.exec) {dflt low high : Int} {offs : Array Int} {len : Nat} {pc' : Nat}  (hd : decode c.code pc = .ok (.tableswitch dflt low high offs, len)) {i : Int32} {rest : List Value} (hs : st = .int i :: rest) (hout : i.toInt < low ∨ i.toInt > high) (ho : 0 ≤ (pc : Int) + dflt) (hp : ((pc : Int) + dflt).toNat = pc') (go : Owe tb e below G T (mkF m pc' Ls rest)) : Owe tb e below G T (mkF m pc Ls st) := Owe.by (fun t k => XS.tswOut h hx rfl rfl hd hs hout ho hp k) go
theorem Owe.dload (h : At T m c below) (hx : tb.exec = Jvm.exec) {k : Nat} {v : UInt64} (hd : decode c.code pc = .ok (.dload k, 2)) (hl : Ls[k]? = some (.val (.double v))) (go : Owe tb e below G T (mkF m (pc + 2) Ls (.double v :: st))) : Owe tb e below G T (mkF m pc Ls st) := Owe.by (fun t k => XS.dload h hx rfl hd hl k) go
theorem Owe.dloadN (h : At T m c below) (hx : tb.exec = Jvm.exec) {k : Fin 4} {v : UInt64} (hd : decode c.code pc = .ok (.dload_n k, 1)) (hl : Ls[k.val]? = some (.val (.double v))) (go : Owe tb e below G T (mkF m (pc + 1) Ls (.double v :: st))) : Owe tb e below G T (mkF m pc Ls st) := Owe.by (fun t k => XS.dloadN h hx rfl hd hl k) go
theorem Owe.dstore (h : At T m c below) (hx : tb.exec = Jvm.exec) {k : Nat} {x : UInt64} {rest : List Value} {l' : Array Slot} (hd : decode c.code pc = .ok (.dstore k, 2)) (hs : st = .double x :: rest) (hl : storeLocals Ls k (.double x) = some l') (go : Owe tb e below G T (mkF m (pc + 2) l' rest)) : Owe tb e below G T (mkF m pc Ls st) := Owe.by (fun t k => XS.dstore h hx rfl hd hs hl k) go
theorem Owe.dstoreN (h : At T m c below) (hx : tb.exec = Jvm.exec) {k : Fin 4} {x : UInt64} {rest : List Value} {l' : Array Slot} (hd : decode c.code pc = .ok (.dstore_n k, 1)) (hs : st = .double x :: rest) (hl : storeLocals Ls k.val (.double x) = some l') (go : Owe tb e below G T (mkF m (pc + 1) l' rest)) : Owe tb e below G T (mkF m pc Ls st) := Owe.by (fun t k => XS.dstoreN h hx rfl hd hs hl k) go
theorem Owe.dconst0 (h : At T m c below) (hx : tb.exec = Jvm.exec) {v : UInt64} (hd : decode c.code pc = .ok (.dconst 0, 1)) (hv : FP.dconst0 = v) (go : Owe tb e below G T (mkF m (pc + 1) Ls (.double v :: st))) : Owe tb e below G T (mkF m pc Ls st) := Owe.by (fun t k => XS.dconst0 h hx rfl hd hv k) go
theorem Owe.dconst1 (h : At T m c below) (hx : tb.exec = Jvm.exec) {v : UInt64} (hd : decode c.code pc = .ok (.dconst 1, 1)) (hv : FP.dconst1 = v) (go : Owe tb e below G T (mkF m (pc + 1) Ls (.double v :: st))) : Owe tb e below G T (mkF m pc Ls st) := Owe.by (fun t k => XS.dconst1 h hx rfl hd hv k) go
theorem Owe.i2dS (h : At T m c below) (hx : tb.exec = Jvm.exec) {x : Int32} {v : UInt64} {rest : List Value} (hd : decode c.code pc = .ok (.i2d, 1)) (hs : st = .int x :: rest) (hv : FP.i2d x = v) (go : Owe tb e below G T (mkF m (pc + 1) Ls (.double v :: rest))) : Owe tb e below G T (mkF m pc Ls st) := Owe.by (fun t k => XS.i2dS h hx rfl hd hs hv k) go
theorem Owe.l2dS (h : At T m c below) (hx : tb.exec = Jvm.exec) {x : Int64} {v : UInt64} {rest : List Value} (hd : decode c.code pc = .ok (.l2d, 1)) (hs : st = .long x :: rest) (hv : FP.l2d x = v) (go : Owe tb e below G T (mkF m (pc + 1) Ls (.double v :: rest))) : Owe tb e below G T (mkF m pc Ls st) := Owe.by (fun t k => XS.l2dS h hx rfl hd hs hv k) go
theorem Owe.dcmpS (h : At T m c below) (hx : tb.exec = Jvm.exec) {o : CmpOp} {x y : UInt64} {v : Int32} {rest : List Value} (hd : decode c.code pc = .ok (.dcmp o, 1)) (hs : st = .double y :: .double x :: rest) (hv : cmpValue (FP.dcmp x y) o = v) (go : Owe tb e below G T (mkF m (pc + 1) Ls (.int v :: rest))) : Owe tb e below G T (mkF m pc Ls st) := Owe.by (fun t k => XS.dcmpS h hx rfl hd hs hv k) go
end Plain
section Heavy
variable {p : Program} {l : Launch} {e : Env} {R : Room} {s : State} {m : MethodId} {args : Array Value} {below : List Frame} {meth : Method} {c : Code} {T : State} {locs : List Loc} {cells slots : Nat} {Z : State} {a0 : Array Value} {h : Heap} {G : Outcome → State → Prop} {pc : Nat} {Ls : Array Slot} {st : List Value}
theorem Owe.ldcI (X : Stand p l e R s m args below meth c T locs cells slots) (hx : p.tables.exec = Jvm.exec) {own : String} {index : Nat} {v : Int32} (hown : s.vm.findClass own = some m.cls) (w : (Cond.constant own index v).before args s = true) (hd : decode c.code pc = .ok (.ldc index, 2)) (go : Owe p.tables e below G T (mkF m (pc + 2) Ls (.int v :: st))) : Owe p.tables e below G T (mkF m pc Ls st) :=
  Owe.by (X.ldcInt hx hown w (g := mkF m pc Ls st) rfl hd) go
theorem Owe.new (X : Stand p l e R s m args below meth c T locs cells slots) (hx : p.tables.exec = Jvm.exec) (hZ : Z.Warmed39 s.vm) {own C : String} {index n : Nat} (hown : s.vm.findClass own = some m.cls) (w : (Cond.classLink own index C).before a0 Z = true) (wi : (Cond.instantiable C n).before a0 Z = true) (wz : (Cond.initialized C).before a0 Z = true) (eT : T.heap = h) (hd : decode c.code pc = .ok (.new index, 3)) (hc : cells + 1 ≤ R.cells) (hl : slots + n ≤ R.slots)
    (go : ∀ (T' : State) (h' : Heap) (a : Addr), a = h.size → Stand p l e R s m args below meth c T' locs (cells + 1) (slots + n) → T'.heap = h' → Ext h h' → Exa Z h' a C → (∀ {O nm d : String} {ty : FieldType}, Laid Z a0 C O nm d → parseFieldDescriptor d = some ty → Fld Z h' a O nm d (defaultValue ty)) → Owe p.tables e below G T' (mkF m (pc + 3) Ls (.ref a :: st))) : Owe p.tables e below G T (mkF m pc Ls st) := by
  obtain ⟨T', h', X', e', E', A', D', -, st'⟩ := newO X hx hZ hown w wi wz eT (g := mkF m pc Ls st) rfl hd hc hl
  exact Owe.by st' (go T' h' _ rfl X' e' E' A' D')
theorem Owe.newarr (X : Stand p l e R s m args below meth c T locs cells slots) (hx : p.tables.exec = Jvm.exec) (hZ : Z.Warmed39 s.vm) {aty : ArrayType} (w : (Cond.arrayClass (newarray.typeOf aty)).before a0 Z = true) (eT : T.heap = h) (hd : decode c.code pc = .ok (.newarray aty, 2)) {n : Int32} {rest : List Value} (hs : st = .int n :: rest) (hn : ¬ n < 0) {cap : Nat} (hcap : n.toNatClampNeg ≤ cap) (hb : cap * 8 ≤ 536870912) (hc : cells + 1 ≤ R.cells) (hl : slots + cap ≤ R.slots)
    (go : ∀ (T' : State) (h' : Heap) (a : Addr) (k : ClassId), a = h.size → Stand p l e R s m args below meth c T' locs (cells + 1) (slots + cap) → T'.heap = h' → Ext h h' → Arv Z h' a k (newarray.typeOf aty) n [] (defaultValue (newarray.typeOf aty)) → Owe p.tables e below G T' (mkF m (pc + 2) Ls (.ref a :: rest))) : Owe p.tables e below G T (mkF m pc Ls st) := by
  obtain ⟨T', h', k, X', e', E', A', st'⟩ := newP X hx hZ w eT (g := mkF m pc Ls st) rfl hd hs hn hcap hb hc hl
  exact Owe.by st' (go T' h' _ k rfl X' e' E' (Arv.new A' hn))
theorem Owe.castore (X : Stand p l e R s m args below meth c T locs cells slots) (hx : p.tables.exec = Jvm.exec) (hZ : Z.Warmed39 s.vm) (eT : T.heap = h) {a : Addr} {k : ClassId} {n : Int32} {vs : List Value} {dv : Value} (V : Arv Z h a k .char n vs dv) {j x : Int32} (i : Nat) (hj : j.toNatClampNeg = i) (hi : i < vs.length) (hin : ¬ j < 0 ∧ j < n) (hd : decode c.code pc = .ok (.castore, 1)) {rest : List Value} (hs : st = .int x :: .int j :: .ref a :: rest)
    (go : ∀ (T' : State) (h' : Heap), Stand p l e R s m args below meth c T' (locs ++ [⟨a, j.toNatClampNeg⟩]) cells slots → T'.heap = h' → Wr h h' a j.toNatClampNeg (.int (nar .char x)) → Arv Z h' a k .char n (vs.set i (.int (nar .char x))) dv → Owe p.tables e below G T' (mkF m (pc + 1) Ls rest)) : Owe p.tables e below G T (mkF m pc Ls st) := by
  obtain ⟨cl, A, q, S, M, H, U⟩ := V
  obtain ⟨T', h', X', e', W', st'⟩ := stC X hx hZ eT A (j := j) (inb_of S hin) (g := mkF m pc Ls st) rfl hs hd
  exact Owe.by st' (go T' h' X' e' W' (Arv.set A q S M H U (fits_nar_char _) W' i hj hi))
theorem Owe.bastore (X : Stand p l e R s m args below meth c T locs cells slots) (hx : p.tables.exec = Jvm.exec) (hZ : Z.Warmed39 s.vm) (eT : T.heap = h) {a : Addr} {k : ClassId} {n : Int32} {vs : List Value} {dv : Value} (V : Arv Z h a k .byte n vs dv) {j x : Int32} (i : Nat) (hj : j.toNatClampNeg = i) (hi : i < vs.length) (hin : ¬ j < 0 ∧ j < n) (hd : decode c.code pc = .ok (.bastore, 1)) {rest : List Value} (hs : st = .int x :: .int j :: .ref a :: rest)
    (go : ∀ (T' : State) (h' : Heap), Stand p l e R s m args below meth c T' (locs ++ [⟨a, j.toNatClampNeg⟩]) cells slots → T'.heap = h' → Wr h h' a j.toNatClampNeg (.int (x.toInt8.toInt32)) → Arv Z h' a k .byte n (vs.set i (.int (x.toInt8.toInt32))) dv → Owe p.tables e below G T' (mkF m (pc + 1) Ls rest)) : Owe p.tables e below G T (mkF m pc Ls st) := by
  obtain ⟨cl, A, q, S, M, H, U⟩ := V
  obtain ⟨T', h', X', e', W', st'⟩ := stB X hx hZ eT A (j := j) (inb_of S hin) (g := mkF m pc Ls st) rfl hs hd
  exact Owe.by st' (go T' h' X' e' W' (Arv.set A q S M H U (fits_nar_byte _) W' i hj hi))
theorem Owe.caload (X : Stand p l e R s m args below meth c T locs cells slots) (hx : p.tables.exec = Jvm.exec) (hZ : Z.Warmed39 s.vm) (eT : T.heap = h) {a : Addr} {k : ClassId} {n : Int32} {vs : List Value} {dv : Value} (V : Arv Z h a k .char n vs dv) {j : Int32} {v : Value} (hin : ¬ j < 0 ∧ j < n) (hv : vs.getD j.toNatClampNeg dv = v) (hd : decode c.code pc = .ok (.caload, 1)) {rest : List Value} (hs : st = .int j :: .ref a :: rest)
    (go : Owe p.tables e below G T (mkF m (pc + 1) Ls (v :: rest))) : Owe p.tables e below G T (mkF m pc Ls st) := by
  obtain ⟨cl, A, q, S, M, H, U⟩ := V
  exact Owe.by (fun t k => X.caload hx (by rw [eT]; exact A.1) (State.isArrayOf_alike hZ.alike A.2.1) A.2.2 (inb_of S hin) (H.at (inb_of S hin) hv) (g := mkF m pc Ls st) rfl hs hd t k) go
theorem Owe.arrlen (X : Stand p l e R s m args below meth c T locs cells slots) (hx : p.tables.exec = Jvm.exec) (hZ : Z.Warmed39 s.vm) (eT : T.heap = h) {a : Addr} {k : ClassId} {ty : FieldType} {n : Int32} {vs : List Value} {dv : Value} (V : Arv Z h a k ty n vs dv) (hd : decode c.code pc = .ok (.arraylength, 1)) {rest : List Value} (hs : st = .ref a :: rest)
    (go : Owe p.tables e below G T (mkF m (pc + 1) Ls (.int n :: rest))) : Owe p.tables e below G T (mkF m pc Ls st) := by
  obtain ⟨cl, A, q, S, M, H, U⟩ := V
  refine Owe.by (fun t k => X.arraylength hx (by rw [eT]; exact A.1) (State.isArrayOf_alike hZ.alike A.2.1) (g := mkF m pc Ls st) rfl hs hd t ?_) go
  rw [len_of S M]; exact k
theorem Owe.getf (X : Stand p l e R s m args below meth c T locs cells slots) (hx : p.tables.exec = Jvm.exec) (hZ : Z.Warmed39 s.vm) {own R0 O n d host : String} {index : Nat} (hown : s.vm.findClass own = some m.cls) (w : (Cond.fieldLink own index R0 n d).before a0 Z = true ∨ (Cond.fieldLinkNest own index R0 n d host).before a0 Z = true) (via : Via Z R0 O n d) (eT : T.heap = h) {a : Addr} {v : Value} (F : Fld Z h a O n d v) (hd : decode c.code pc = .ok (.getfield index, 3)) {rest : List Value} (hs : st = .ref a :: rest)
    (go : ∀ T' : State, Stand p l e R s m args below meth c T' locs cells slots → T'.heap = h → Owe p.tables e below G T' (mkF m (pc + 3) Ls (v :: rest))) : Owe p.tables e below G T (mkF m pc Ls st) := by
  obtain ⟨T', X', e', st'⟩ := getF X hx hZ hown w via eT F (g := mkF m pc Ls st) rfl hs hd
  exact Owe.by st' (go T' X' e')
theorem Owe.gets (X : Stand p l e R s m args below meth c T locs cells slots) (hx : p.tables.exec = Jvm.exec) (hZ : Z.Warmed39 s.vm) {own R0 O n d : String} {index : Nat} (hown : s.vm.findClass own = some m.cls) (w : (Cond.fieldLink own index R0 n d).before a0 Z = true) (via : Via Z R0 O n d) (eT : T.heap = h) {v : Value} (F : Sta Z h O n d v) (hd : decode c.code pc = .ok (.getstatic index, 3))
    (go : ∀ T' : State, Stand p l e R s m args below meth c T' locs cells slots → T'.heap = h → Owe p.tables e below G T' (mkF m (pc + 3) Ls (v :: st))) : Owe p.tables e below G T (mkF m pc Ls st) := by
  obtain ⟨T', X', e', st'⟩ := getS X hx hZ (host := "") hown w via eT F (g := mkF m pc Ls st) rfl hd
  exact Owe.by st' (go T' X' e')
theorem Owe.putf (X : Stand p l e R s m args below meth c T locs cells slots) (hx : p.tables.exec = Jvm.exec) (hZ : Z.Warmed39 s.vm) {own R0 O n d host C : String} {index kk : Nat} {ty : FieldType} (hown : s.vm.findClass own = some m.cls) (w : (Cond.fieldLink own index R0 n d).before a0 Z = true ∨ (Cond.fieldLinkNest own index R0 n d host).before a0 Z = true) (via : Via Z R0 O n d) (eT : T.heap = h) {a : Addr} {v old : Value} (F : Fld Z h a O n d old) (E : Exa Z h a C)
    (L : (Cond.lays C O n d).before a0 Z = true ∨ ((Cond.laysFinal C O n d).before a0 Z = true ∧ own = O ∧ meth.name = "<init>")) (wi : (Cond.instantiable C kk).before a0 Z = true) (hty : parseFieldDescriptor d = some ty) (hn : narrow ty v = v) (hf : fits ty v = true) (hd : decode c.code pc = .ok (.putfield index, 3)) {rest : List Value} (hs : st = v :: .ref a :: rest)
    (go : ∀ (T' : State) (h' : Heap), Stand p l e R s m args below meth c T' (locs ++ [⟨a, Jvm.RoadKit.slotOf Z O n d⟩]) cells slots → T'.heap = h' → Wr h h' a (Jvm.RoadKit.slotOf Z O n d) v → Owe p.tables e below G T' (mkF m (pc + 3) Ls rest)) : Owe p.tables e below G T (mkF m pc Ls st) := by
  obtain ⟨T', h', X', e', W', st'⟩ := putF X hx hZ hown w via eT F E L wi hty hn hf (g := mkF m pc Ls st) rfl hs hd
  exact Owe.by st' (go T' h' X' e' W')
theorem Owe.objinit (X : Stand p l e R s m args below meth c T locs cells slots) (hx : p.tables.exec = Jvm.exec) (hZ : Z.Warmed39 s.vm) {own : String} {idx : Nat} (hown : s.vm.findClass own = some m.cls) (w1 : (Cond.methodLink own idx Lib.objectInit).before a0 Z = true) (w2 : (Cond.instanceMethod Lib.objectInit).before a0 Z = true) (w3 : (Cond.code Lib.objectInit ⟨#[0xb1]⟩ 1 none).before a0 Z = true) (eT : T.heap = h) (hsize : Ls.size = c.maxLocals) {a : Addr} {rest : List Value} (hs : st = .ref a :: rest) (hd : decode c.code pc = .ok (.invokespecial idx, 3)) (hf : 1 ≤ R.frames) {W : Nat} (hW : (rest.map fun v => v.category).sum ≤ W) (hl : W + 12 ≤ R.locals)
    (go : ∀ T' : State, Stand p l e R s m args below meth c T' locs cells slots → T'.heap = h → Owe p.tables e below G T' (mkF m (pc + 3) Ls rest)) : Owe p.tables e below G T (mkF m pc Ls st) := by
  obtain ⟨T', X', e', st'⟩ := initO X hx hZ hown w1 w2 w3 eT (g := mkF m pc Ls st) rfl hsize hs hd hf (W := W) (by show 2 * 0 + _ ≤ W; omega) hl
  exact Owe.by st' (go T' X' e')
theorem Owe.castY (X : Stand p l e R s m args below meth c T locs cells slots) (hx : p.tables.exec = Jvm.exec) (hZ : Z.Warmed39 s.vm) {own K : String} {index : Nat} (hown : s.vm.findClass own = some m.cls) (w : (Cond.classLink own index K).before a0 Z = true) (eT : T.heap = h) {a : Addr} (F : Ins Z h a K true) (hd : decode c.code pc = .ok (.checkcast index, 3)) {rest : List Value} (hs : st = .ref a :: rest)
    (go : ∀ T' : State, Stand p l e R s m args below meth c T' locs cells slots → T'.heap = h → Owe p.tables e below G T' (mkF m (pc + 3) Ls st)) : Owe p.tables e below G T (mkF m pc Ls st) := by
  obtain ⟨T', X', e', st'⟩ := Jvm.RoadKit.castY X hx hZ hown w eT F (g := mkF m pc Ls st) rfl hs hd
  exact Owe.by st' (go T' X' e')
theorem Owe.instY (X : Stand p l e R s m args below meth c T locs cells slots) (hx : p.tables.exec = Jvm.exec) (hZ : Z.Warmed39 s.vm) {own K : String} {index : Nat} (hown : s.vm.findClass own = some m.cls) (w : (Cond.classLink own index K).before a0 Z = true) (eT : T.heap = h) {a : Addr} (F : Ins Z h a K true) (hd : decode c.code pc = .ok (.instanceof index, 3)) {rest : List Value} (hs : st = .ref a :: rest)
    (go : ∀ T' : State, Stand p l e R s m args below meth c T' locs cells slots → T'.heap = h → Owe p.tables e below G T' (mkF m (pc + 3) Ls (.int 1 :: rest))) : Owe p.tables e below G T (mkF m pc Ls st) := by
  obtain ⟨T', X', e', st'⟩ := Jvm.RoadKit.instY X hx hZ hown w eT F (g := mkF m pc Ls st) rfl hs hd
  exact Owe.by st' (go T' X' e')
theorem Owe.instNo (X : Stand p l e R s m args below meth c T locs cells slots) (hx : p.tables.exec = Jvm.exec) (hZ : Z.Warmed39 s.vm) {own K C : String} {index : Nat} (hown : s.vm.findClass own = some m.cls) (w : (Cond.classLink own index K).before a0 Z = true) (eT : T.heap = h) {a : Addr} (E : Exa Z h a C) (F : ∃ c t, Z.vm.findClass C = some c ∧ Z.vm.findClass K = some t ∧ Z.vm.assignable c t = false) (hd : decode c.code pc = .ok (.instanceof index, 3)) {rest : List Value} (hs : st = .ref a :: rest)
    (go : ∀ T' : State, Stand p l e R s m args below meth c T' locs cells slots → T'.heap = h → Owe p.tables e below G T' (mkF m (pc + 3) Ls (.int 0 :: rest))) : Owe p.tables e below G T (mkF m pc Ls st) := by
  obtain ⟨T', X', e', st'⟩ := Jvm.RoadKit.instNo X hx hZ hown w eT E F (g := mkF m pc Ls st) rfl hs hd
  exact Owe.by st' (go T' X' e')
theorem Owe.instNull (X : Stand p l e R s m args below meth c T locs cells slots) (hx : p.tables.exec = Jvm.exec) {index : Nat} (hd : decode c.code pc = .ok (.instanceof index, 3)) {rest : List Value} (hs : st = .null :: rest) (go : Owe p.tables e below G T (mkF m (pc + 3) Ls (.int 0 :: rest))) : Owe p.tables e below G T (mkF m pc Ls st) :=
  Owe.by (Jvm.Stand.instanceofNull X hx (g := mkF m pc Ls st) rfl hs hd) go
theorem Owe.aaload (X : Stand p l e R s m args below meth c T locs cells slots) (hx : p.tables.exec = Jvm.exec) (hZ : Z.Warmed39 s.vm) (eT : T.heap = h) {a : Addr} {cl : Cell} {ty : FieldType} (A : Jvm.RoadKit.Arr Z h a cl ty) (hty : ty.isReference = true) {j : Int32} {v : Value} (hin : ¬ (j < 0 ∨ cl.slots.size ≤ j.toNatClampNeg)) (hv : cl.slots[j.toNatClampNeg]? = some v) (hd : decode c.code pc = .ok (.aaload, 1)) {rest : List Value} (hs : st = .int j :: .ref a :: rest)
    (go : Owe p.tables e below G T (mkF m (pc + 1) Ls (v :: rest))) : Owe p.tables e below G T (mkF m pc Ls st) :=
  Owe.by (fun t k => X.aaload hx (by rw [eT]; exact A.1) (State.isArrayOf_alike hZ.alike A.2.1) hty A.2.2 hin hv (g := mkF m pc Ls st) rfl hs hd t k) go
/-! calls by a contract in the Back form of 'backOf' and of the pasted String laws -/
variable {y z : MethodName} {as' : Array Value} {Q : Option Value → Heap → List Loc → Prop} {W kc ks : Nat}
theorem Owe.special (X : Stand p l e R s m args below meth c T locs cells slots) (hx : p.tables.exec = Jvm.exec) {own : String} {index : Nat} (hy1 : y.name = "<init>") (hown : s.vm.findClass own = some m.cls) (hlink : (Cond.methodLink own index y).before args s = true) (hinst : (Cond.instanceMethod y).before args s = true) {bytes : ByteArray} {maxL : Nat} (hcode : (Cond.code y bytes maxL none).before args s = true) (hy : y.cls ≠ "java/lang/invoke/MethodHandle" ∧ y.cls ≠ "java/lang/invoke/VarHandle")
    (hK : Back l R p e below s args y 3 W (fun A a => a = as' ∧ A.U.heap = h ∧ A.cells + kc ≤ R.cells ∧ A.slots + ks ≤ R.slots) (fun A _ v B => ∃ L, Q v B.U.heap L ∧ B.locs = A.locs ++ L ∧ B.cells = A.cells + kc ∧ B.slots = A.slots + ks))
    (hsize : Ls.size = c.maxLocals) {a : Addr} {argsL rest : List Value} (hlen : ∀ sig, parseMethodDescriptor y.desc = some sig → argsL.length = sig.parameters.length) (hs : st = argsL.reverse ++ .ref a :: rest) (hW : (rest.map fun v => v.category).sum ≤ W) (hd : decode c.code pc = .ok (.invokespecial index, 3))
    (has : (.ref a :: argsL).toArray = as') (eT : T.heap = h) (hc : cells + kc ≤ R.cells) (hl : slots + ks ≤ R.slots)
    (go : ∀ (T' : State) (v : Option Value) (L : List Loc), Stand p l e R s m args below meth c T' (locs ++ L) (cells + kc) (slots + ks) → Q v T'.heap L → Owe p.tables e below G T' (mkF m (pc + 3) Ls (v.toList ++ rest))) : Owe p.tables e below G T (mkF m pc Ls st) := by
  obtain ⟨v, _, ⟨T', L', k', n'⟩, -, X', ⟨L, hQ, l', y', z'⟩, st'⟩ := X.specialBack hx hy1 hown hlink hinst hcode hy hK (g := mkF m pc Ls st) rfl hsize (Steps.refl _) hlen hs (by show 2 * 0 + _ ≤ W; omega) hd (fun _ _ => ⟨has, eT, hc, hl⟩)
  dsimp only [Pt.U, Pt.locs, Pt.cells, Pt.slots] at X' l' y' z' st' hQ
  subst l' y' z'
  exact Owe.by (fun t k => st'.trans k) (go T' v L X' hQ)
theorem Owe.virt (X : Stand p l e R s m args below meth c T locs cells slots) (hx : p.tables.exec = Jvm.exec) (hZ : Z.Warmed39 s.vm) {own C : String} {index : Nat} (hown : s.vm.findClass own = some m.cls) (hlink : (Cond.methodLink own index y).before args s = true) (hdecl : (Cond.declares y).before args s = true) (hsel : (Cond.selects C y z).before args s = true) (hinst : (Cond.instanceMethod z).before args s = true) (hnf : NotFace s y) (hy : y.cls ≠ "java/lang/invoke/MethodHandle" ∧ y.cls ≠ "java/lang/invoke/VarHandle")
    (hK : Back l R p e below s args z 3 W (fun A a => a = as' ∧ A.U.heap = h ∧ A.cells + kc ≤ R.cells ∧ A.slots + ks ≤ R.slots) (fun A _ v B => ∃ L, Q v B.U.heap L ∧ B.locs = A.locs ++ L ∧ B.cells = A.cells + kc ∧ B.slots = A.slots + ks))
    (hsize : Ls.size = c.maxLocals) {a : Addr} {argsL rest : List Value} (E : Exa Z h a C) (hlen : ∀ sig, parseMethodDescriptor y.desc = some sig → argsL.length = sig.parameters.length) (hs : st = argsL.reverse ++ .ref a :: rest) (hW : (rest.map fun v => v.category).sum ≤ W) (hd : decode c.code pc = .ok (.invokevirtual index, 3))
    (has : (.ref a :: argsL).toArray = as') (eT : T.heap = h) (hc : cells + kc ≤ R.cells) (hl : slots + ks ≤ R.slots)
    (go : ∀ (T' : State) (v : Option Value) (L : List Loc), Stand p l e R s m args below meth c T' (locs ++ L) (cells + kc) (slots + ks) → Q v T'.heap L → Owe p.tables e below G T' (mkF m (pc + 3) Ls (v.toList ++ rest))) : Owe p.tables e below G T (mkF m pc Ls st) := by
  obtain ⟨cq, kq, qa, qb, qc⟩ := isOf hZ eT E
  obtain ⟨v, _, ⟨T', L', k', n'⟩, -, X', ⟨L, hQ, l', y', z'⟩, st'⟩ := X.virtualBack hx hown hlink hdecl hnf hsel hinst hy hK qa qc (g := mkF m pc Ls st) rfl hsize (Steps.refl _) hlen hs (by show 2 * 0 + _ ≤ W; omega) hd (fun _ _ => ⟨has, eT, hc, hl⟩)
  dsimp only [Pt.U, Pt.locs, Pt.cells, Pt.slots] at X' l' y' z' st' hQ
  subst l' y' z'
  exact Owe.by (fun t k => st'.trans k) (go T' v L X' hQ)
theorem Owe.virtUp (X : Stand p l e R s m args below meth c T locs cells slots) (hx : p.tables.exec = Jvm.exec) (hZ : Z.Warmed39 s.vm) {own C owner : String} {index : Nat} (hown : s.vm.findClass own = some m.cls) (hlink : (Cond.methodLink own index y).before args s = true) (hsame : (Cond.sameMethod y.cls owner y.name y.desc).before args s = true) (hdecl : (Cond.declares ⟨owner, y.name, y.desc⟩).before args s = true) (howner : owner ≠ "java/lang/invoke/MethodHandle" ∧ owner ≠ "java/lang/invoke/VarHandle") (hsel : (Cond.selects C y z).before args s = true) (hinst : (Cond.instanceMethod z).before args s = true)
    (hK : Back l R p e below s args z 3 W (fun A a => a = as' ∧ A.U.heap = h ∧ A.cells + kc ≤ R.cells ∧ A.slots + ks ≤ R.slots) (fun A _ v B => ∃ L, Q v B.U.heap L ∧ B.locs = A.locs ++ L ∧ B.cells = A.cells + kc ∧ B.slots = A.slots + ks))
    (hsize : Ls.size = c.maxLocals) {a : Addr} {argsL rest : List Value} (E : Exa Z h a C) (hlen : ∀ sig, parseMethodDescriptor y.desc = some sig → argsL.length = sig.parameters.length) (hs : st = argsL.reverse ++ .ref a :: rest) (hW : (rest.map fun v => v.category).sum ≤ W) (hd : decode c.code pc = .ok (.invokevirtual index, 3))
    (has : (.ref a :: argsL).toArray = as') (eT : T.heap = h) (hc : cells + kc ≤ R.cells) (hl : slots + ks ≤ R.slots)
    (go : ∀ (T' : State) (v : Option Value) (L : List Loc), Stand p l e R s m args below meth c T' (locs ++ L) (cells + kc) (slots + ks) → Q v T'.heap L → Owe p.tables e below G T' (mkF m (pc + 3) Ls (v.toList ++ rest))) : Owe p.tables e below G T (mkF m pc Ls st) := by
  obtain ⟨cq, kq, qa, qb, qc⟩ := isOf hZ eT E
  obtain ⟨v, _, ⟨T', L', k', n'⟩, -, X', ⟨L, hQ, l', y', z'⟩, st'⟩ := X.virtualBackUp hx hown hlink hsame hdecl howner hsel hinst hK qa qc (g := mkF m pc Ls st) rfl hsize (Steps.refl _) hlen hs (by show 2 * 0 + _ ≤ W; omega) hd (fun _ _ => ⟨has, eT, hc, hl⟩)
  dsimp only [Pt.U, Pt.locs, Pt.cells, Pt.slots] at X' l' y' z' st' hQ
  subst l' y' z'
  exact Owe.by (fun t k => st'.trans k) (go T' v L X' hQ)
theorem Owe.stat (X : Stand p l e R s m args below meth c T locs cells slots) (hx : p.tables.exec = Jvm.exec) {own : String} {index : Nat} {bytes : ByteArray} {maxL : Nat} {ret : Option FieldType} (hown : s.vm.findClass own = some m.cls) (hlink : (Cond.methodLink own index y).before args s = true) (hstat : (Cond.static y).before args s = true) (hinit : (Cond.initialized y.cls).before args s = true) (hcode : (Cond.code y bytes maxL ret).before args s = true) (hy : y.cls ≠ "java/lang/invoke/MethodHandle" ∧ y.cls ≠ "java/lang/invoke/VarHandle")
    (hK : Back l R p e below s args y 3 W (fun A a => a = as' ∧ A.U.heap = h ∧ A.cells + kc ≤ R.cells ∧ A.slots + ks ≤ R.slots) (fun A _ v B => ∃ L, Q v B.U.heap L ∧ B.locs = A.locs ++ L ∧ B.cells = A.cells + kc ∧ B.slots = A.slots + ks))
    (hsize : Ls.size = c.maxLocals) {argsL rest : List Value} (hlen : ∀ sig, parseMethodDescriptor y.desc = some sig → argsL.length = sig.parameters.length) (hs : st = argsL.reverse ++ rest) (hW : (rest.map fun v => v.category).sum ≤ W) (hd : decode c.code pc = .ok (.invokestatic index, 3))
    (has : argsL.toArray = as') (eT : T.heap = h) (hc : cells + kc ≤ R.cells) (hl : slots + ks ≤ R.slots)
    (go : ∀ (T' : State) (v : Option Value) (L : List Loc), Stand p l e R s m args below meth c T' (locs ++ L) (cells + kc) (slots + ks) → Q v T'.heap L → Owe p.tables e below G T' (mkF m (pc + 3) Ls (v.toList ++ rest))) : Owe p.tables e below G T (mkF m pc Ls st) := by
  obtain ⟨v, _, ⟨T', L', k', n'⟩, -, X', ⟨L, hQ, l', y', z'⟩, st'⟩ := Jvm.LawKit.callS X hx hown hlink hstat hinit hcode hy hK (g := mkF m pc Ls st) rfl hsize hlen hs (by show 2 * 0 + _ ≤ W; omega) hd (fun _ _ => ⟨has, eT, hc, hl⟩)
  dsimp only [Pt.U, Pt.locs, Pt.cells, Pt.slots] at X' l' y' z' st' hQ
  subst l' y' z'
  exact Owe.by st' (go T' v L X' hQ)
/-! the end: it returns -/
theorem Owe.retN (X : Stand p l e R s m args below meth c T locs cells slots) (hx : p.tables.exec = Jvm.exec) (hlk : meth.locks = false) {z : Int32} {t : FieldType} {rest : List Value} (hret : meth.sig.returnType = some t) (ht : t = .boolean ∨ t = .byte ∨ t = .char ∨ t = .short) (hd : decode c.code pc = .ok (.ireturn, 1)) (hs : st = .int z :: rest)
    (go : ∀ fs : List Frame, FrameEnd s (.returned (some (.int (nar t z)))) (T.setFrames fs) locs cells slots → G (.returned (some (.int (nar t z)))) (T.setFrames fs)) : Owe p.tables e below G T (mkF m pc Ls st) := by
  subst hs
  obtain ⟨fs, hr, hrun, hended, hW, hsame⟩ := X.leave (v := some (.int (nar t z))) (fun h => by rw [hret] at h; cases h) hlk
  exact ⟨_, _, Jvm.RoadKit.retN X hx hret ht hd hr, hrun, hended, go fs ⟨⟨_, rfl⟩, hW, hsame⟩⟩
theorem Owe.retI (X : Stand p l e R s m args below meth c T locs cells slots) (hx : p.tables.exec = Jvm.exec) (hlk : meth.locks = false) {z : Int32} {rest : List Value} (hret : meth.sig.returnType = some .int) (hd : decode c.code pc = .ok (.ireturn, 1)) (hs : st = .int z :: rest)
    (go : ∀ fs : List Frame, FrameEnd s (.returned (some (.int z))) (T.setFrames fs) locs cells slots → G (.returned (some (.int z))) (T.setFrames fs)) : Owe p.tables e below G T (mkF m pc Ls st) := by
  subst hs
  obtain ⟨fs, hr, hrun, hended, hW, hsame⟩ := X.leave (v := some (.int z)) (fun h => by rw [hret] at h; cases h) hlk
  have hm' : T.vm.method? m = some meth := X.method'
  have hn : narrow .int (.int z) = .int z := rfl
  refine ⟨_, _, ?_, hrun, hended, go fs ⟨⟨_, rfl⟩, hW, hsame⟩⟩
  show Steps p.tables e below (T.setTop { method := m, pc := pc, locals := Ls, stack := _ :: rest, locked := none }) _
  jvm_step X.here [X.here.top, hx, hd, hm', hret, hn]
  first | (intro acts; rw [hr _ acts rfl rfl rfl]) | rw [hr _ _ rfl rfl rfl]
  exact Steps.refl _
theorem Owe.retR (X : Stand p l e R s m args below meth c T locs cells slots) (hx : p.tables.exec = Jvm.exec) (hlk : meth.locks = false) {w : Value} {t : FieldType} {rest : List Value} (hret : meth.sig.returnType = some t) (hn : narrow t w = w) (ht : t.isReference = true) (hw : w.isRef = true) (hd : decode c.code pc = .ok (.areturn, 1)) (hs : st = w :: rest)
    (go : ∀ fs : List Frame, FrameEnd s (.returned (some w)) (T.setFrames fs) locs cells slots → G (.returned (some w)) (T.setFrames fs)) : Owe p.tables e below G T (mkF m pc Ls st) := by
  subst hs
  obtain ⟨fs, hr, hrun, hended, hW, hsame⟩ := X.leave (v := some w) (fun h => by rw [hret] at h; cases h) hlk
  have hm' : T.vm.method? m = some meth := X.method'
  refine ⟨_, _, ?_, hrun, hended, go fs ⟨⟨_, rfl⟩, hW, hsame⟩⟩
  show Steps p.tables e below (T.setTop { method := m, pc := pc, locals := Ls, stack := _ :: rest, locked := none }) _
  jvm_step X.here [X.here.top, hx, hd, hm', hret, hn, hw]
  try (refine ⟨ht, ?_⟩)
  first | (intro acts; rw [hr _ acts rfl rfl rfl]) | rw [hr _ _ rfl rfl rfl]
  exact Steps.refl _
theorem Owe.ret0 (X : Stand p l e R s m args below meth c T locs cells slots) (hx : p.tables.exec = Jvm.exec) (hlk : meth.locks = false) (hret : meth.sig.returnType = none) (hd : decode c.code pc = .ok (.return_, 1)) (hs : st = [])
    (go : ∀ fs : List Frame, FrameEnd s (.returned none) (T.setFrames fs) locs cells slots → G (.returned none) (T.setFrames fs)) : Owe p.tables e below G T (mkF m pc Ls st) := by
  subst hs
  obtain ⟨fs, hr, hrun, hended, hW, hsame⟩ := X.leave (v := none) (fun _ => rfl) hlk
  exact ⟨_, _, X.returnOut hx hret hd hr, hrun, hended, go fs ⟨⟨_, rfl⟩, hW, hsame⟩⟩
end Heavy
theorem frameMono {s t : State} {o : Outcome} {L : List Loc} {k n k' n' : Nat} (h : FrameEnd s o t L k n) (hk : k ≤ k') (hn : n ≤ n') : FrameEnd s o t L k' n' := ⟨h.1, h.2.1, h.2.2.mono hk hn⟩
end Own
end Jvm.Pilot.@@N@@
namespace Jvm.Pilot.@@N@@
namespace Own
open Jvm Jvm.ClassFile Sem Op Lib Jvm.Free Jvm.Stand Jvm.LawKit Jvm.RoadKit
/-! WALKS THAT MAY LOAD A STRING CONSTANT COLD: the Stand is over 's.setVm vm0', 'hS' says what has come since the true start s -/
section Cold
variable {p : Program} {l : Launch} {e : Env} {R : Room} {s : State} {m : MethodId} {args : Array Value} {below : List Frame} {meth : Method} {c : Code} {T : State} {locs : List Loc} {cells slots : Nat} {Z : State} {a0 : Array Value} {h : Heap} {G : Outcome → State → Prop} {pc : Nat} {Ls : Array Slot} {st : List Value} {vm0 : Vm} {k0 : Nat} {EL : List (String × Nat)}
theorem coldMono {s t : State} {o : Outcome} {L : List Loc} {k n k' n' : Nat} (h : ReturnedEndW s o t L k n) (hk : k ≤ k') (hn : n ≤ n') : ReturnedEndW s o t L k' n' := ⟨h.1, h.2.1, h.2.2.1, h.2.2.2.mono hk hn⟩
theorem Owe.ldcO (X : Stand p l e R (s.setVm vm0) m args below meth c T locs cells slots) (hx : p.tables.exec = Jvm.exec) (hZ : Z.Warmed39 (s.setVm vm0).vm) (hS : s.Since vm0 k0) (hEL : EW Z a0 EL) (H : CHv Z EL vm0 h) {own text : String} {index : Nat} (hown : (s.setVm vm0).vm.findClass own = some m.cls) (w : (Cond.stringLink own index text).before a0 Z = true) (wS : ∀ a ∈ Bundle.stringAtoms, a.before a0 Z = true) (eT : T.heap = h) (hk : k0 ≤ h.size) (hd : decode c.code pc = .ok (.ldc index, 2)) {n : Nat} (hn : 4 * text.toList.length ≤ n) (hbig : n ≤ 536870912) (hc : cells + 2 ≤ R.cells) (hl : slots + (n + 4) ≤ R.slots)
    (go : ∀ (a : Addr) (T' : State) (h' : Heap) (k1 : Nat), Stand p l e R (s.setVm T'.vm) m args below meth c T' locs (cells + 2) (slots + (n + 4)) → T'.heap = h' → Ext h h' → s.Since T'.vm k1 → k1 ≤ h'.size → Z.Warmed39 (s.setVm T'.vm).vm → (s.setVm T'.vm).vm.findClass own = some m.cls → CHr Z EL vm0 h T'.vm h' → Lit (s.setVm T'.vm) own index a → Owe p.tables e below G T' (mkF m (pc + 2) Ls (.ref a :: st))) : Owe p.tables e below G T (mkF m pc Ls st) := by
  obtain ⟨a, T', h', k1, X', e', E', hS', hk', hZ', hown', hC', L', st'⟩ := ldcOH X hx hZ hown w wS eT hS hk hEL H (g := mkF m pc Ls st) rfl hd hn hbig hc hl
  exact Owe.by st' (go a T' h' k1 X' e' E' hS' hk' hZ' hown' hC' L')
theorem Owe.ldcV (X : Stand p l e R (s.setVm vm0) m args below meth c T locs cells slots) (hx : p.tables.exec = Jvm.exec) (hZ : Z.Warmed39 (s.setVm vm0).vm) (hS : s.Since vm0 k0) (hEL : EW Z a0 EL) (H : CHv Z EL vm0 h) {own text : String} {index : Nat} (hmem : (own, index) ∈ EL) (hown : (s.setVm vm0).vm.findClass own = some m.cls) (w : (Cond.stringLink own index text).before a0 Z = true) (wS : ∀ a ∈ Bundle.stringAtoms, a.before a0 Z = true) (eT : T.heap = h) (hk : k0 ≤ h.size)
    {vs : List Value} {z : Int32} (ht : (∀ c ∈ text.toList, c.toNat < 256) ∧ text.toList.map (fun c => Value.int (Jvm.Lit.byteI c.toNat.toUInt16)) = vs) (hz : ¬ z < 0) (hlv : z.toNatClampNeg = vs.length) (hd : decode c.code pc = .ok (.ldc index, 2)) {n : Nat} (hn : 4 * text.toList.length ≤ n) (hbig : n ≤ 536870912) (hc : cells + 2 ≤ R.cells) (hl : slots + (n + 4) ≤ R.slots)
    (go : ∀ (a : Addr) (T' : State) (h' : Heap) (k1 : Nat) (b : Addr) (k : ClassId), Stand p l e R (s.setVm T'.vm) m args below meth c T' locs (cells + 2) (slots + (n + 4)) → T'.heap = h' → Ext h h' → s.Since T'.vm k1 → k1 ≤ h'.size → Z.Warmed39 (s.setVm T'.vm).vm → (s.setVm T'.vm).vm.findClass own = some m.cls →
      Exa Z h' a "java/lang/String" → Fld Z h' a "java/lang/String" "coder" "B" (.int 0) → Fld Z h' a "java/lang/String" "value" "[B" (.ref b) → Arv Z h' b k .byte z vs (.int 0) → CHr Z EL vm0 h T'.vm h' → Lit (s.setVm T'.vm) own index a → (∀ x, Safe Z EL T'.vm h' x → x ≠ a ∧ x ≠ b) → Owe p.tables e below G T' (mkF m (pc + 2) Ls (.ref a :: st))) : Owe p.tables e below G T (mkF m pc Ls st) := by
  obtain ⟨a, T', h', k1, b, k, X', e', E', hS', hk', hZ', hown', r1, r2, r3, r4, -, -, r7, r8, r9, st'⟩ := ldcCH X hx hZ hown w wS eT hS hk hEL hmem H ht hz hlv (g := mkF m pc Ls st) rfl hd hn hbig hc hl
  exact Owe.by st' (go a T' h' k1 b k X' e' E' hS' hk' hZ' hown' r1 r2 r3 r4 r7 r8 r9)
theorem Owe.ldcA (X : Stand p l e R (s.setVm vm0) m args below meth c T locs cells slots) (hx : p.tables.exec = Jvm.exec) (hZ : Z.Warmed39 (s.setVm vm0).vm) {own text : String} {index : Nat} (hown : (s.setVm vm0).vm.findClass own = some m.cls) (w : (Cond.stringLink own index text).before a0 Z = true) {a : Addr} (L : Lit (s.setVm vm0) own index a) (hd : decode c.code pc = .ok (.ldc index, 2)) (go : Owe p.tables e below G T (mkF m (pc + 2) Ls (.ref a :: st))) : Owe p.tables e below G T (mkF m pc Ls st) :=
  Owe.by (ldcAgain X hx hZ hown w L (g := mkF m pc Ls st) rfl hd) go
variable {y z : MethodName} {as' : Array Value} {Q : Option Value → Heap → List Loc → Prop} {W kc ks : Nat}
theorem Owe.specialS (X : Stand p l e R (s.setVm vm0) m args below meth c T locs cells slots) (hx : p.tables.exec = Jvm.exec) (hZ : Z.Warmed39 (s.setVm vm0).vm) (hS : s.Since vm0 k0) (hk : k0 ≤ h.size) {own : String} {index : Nat} (hy1 : y.name = "<init>") (hown : (s.setVm vm0).vm.findClass own = some m.cls) (hlink : (Cond.methodLink own index y).before args (s.setVm vm0) = true) (hinst : (Cond.instanceMethod y).before args (s.setVm vm0) = true) {bytes : ByteArray} {maxL : Nat} (hcode : (Cond.code y bytes maxL none).before args (s.setVm vm0) = true) (hy : y.cls ≠ "java/lang/invoke/MethodHandle" ∧ y.cls ≠ "java/lang/invoke/VarHandle")
    (hK : BackS l R p e below (s.setVm vm0) args y 3 W (fun A a => a = as' ∧ A.U.heap = h ∧ A.cells + kc ≤ R.cells ∧ A.slots + ks ≤ R.slots) (fun A _ v B => ∃ L, Q v B.U.heap L ∧ B.locs = A.locs ++ L ∧ B.cells = A.cells + kc ∧ B.slots = A.slots + ks ∧ CHr Z EL vm0 h B.U.vm B.U.heap))
    (hsize : Ls.size = c.maxLocals) {a : Addr} {argsL rest : List Value} (hlen : ∀ sig, parseMethodDescriptor y.desc = some sig → argsL.length = sig.parameters.length) (hs : st = argsL.reverse ++ .ref a :: rest) (hW : (rest.map fun v => v.category).sum ≤ W) (hd : decode c.code pc = .ok (.invokespecial index, 3))
    (has : (.ref a :: argsL).toArray = as') (eT : T.heap = h) (hc : cells + kc ≤ R.cells) (hl : slots + ks ≤ R.slots)
    (go : ∀ (T' : State) (v : Option Value) (L : List Loc), Stand p l e R (s.setVm T'.vm) m args below meth c T' (locs ++ L) (cells + kc) (slots + ks) → s.Since T'.vm T'.heap.size → Z.Warmed39 (s.setVm T'.vm).vm → (s.setVm T'.vm).vm.findClass own = some m.cls → CHr Z EL vm0 h T'.vm T'.heap → Q v T'.heap L → Owe p.tables e below G T' (mkF m (pc + 3) Ls (v.toList ++ rest))) : Owe p.tables e below G T (mkF m pc Ls st) := by
  obtain ⟨v, _, ⟨T', L', k', n'⟩, -, X', hS', hg', ⟨L, hQ, l', y', z', hC'⟩, st'⟩ := X.specialBackS hx hy1 hown hlink hinst hcode hy hK (g := mkF m pc Ls st) rfl hsize (Steps.refl _) hlen hs (by show 2 * 0 + _ ≤ W; omega) hd (fun _ _ => ⟨has, eT, hc, hl⟩)
  dsimp only [Pt.U, Pt.locs, Pt.cells, Pt.slots] at X' l' y' z' st' hQ hS' hg' hC'
  subst l' y' z'
  exact Owe.by (fun t k => st'.trans k) (go T' v L X' (hS.trans hS' (Nat.le_trans hk (eT ▸ hg'))) (State.Warmed39.trans (t := s.setVm vm0) hZ hS'.1) (by rw [show (s.setVm T'.vm).vm = T'.vm from rfl, hS'.1.alike.findClass]; exact hown) hC' hQ)
theorem Owe.virtS (X : Stand p l e R (s.setVm vm0) m args below meth c T locs cells slots) (hx : p.tables.exec = Jvm.exec) (hZ : Z.Warmed39 (s.setVm vm0).vm) (hS : s.Since vm0 k0) (hk : k0 ≤ h.size) {own C : String} {index : Nat} (hown : (s.setVm vm0).vm.findClass own = some m.cls) (hlink : (Cond.methodLink own index y).before args (s.setVm vm0) = true) (hdecl : (Cond.declares y).before args (s.setVm vm0) = true) (hsel : (Cond.selects C y z).before args (s.setVm vm0) = true) (hinst : (Cond.instanceMethod z).before args (s.setVm vm0) = true) (hnf : NotFace (s.setVm vm0) y) (hy : y.cls ≠ "java/lang/invoke/MethodHandle" ∧ y.cls ≠ "java/lang/invoke/VarHandle")
    (hK : BackS l R p e below (s.setVm vm0) args z 3 W (fun A a => a = as' ∧ A.U.heap = h ∧ A.cells + kc ≤ R.cells ∧ A.slots + ks ≤ R.slots) (fun A _ v B => ∃ L, Q v B.U.heap L ∧ B.locs = A.locs ++ L ∧ B.cells = A.cells + kc ∧ B.slots = A.slots + ks ∧ CHr Z EL vm0 h B.U.vm B.U.heap))
    (hsize : Ls.size = c.maxLocals) {a : Addr} {argsL rest : List Value} (E : Exa Z h a C) (hlen : ∀ sig, parseMethodDescriptor y.desc = some sig → argsL.length = sig.parameters.length) (hs : st = argsL.reverse ++ .ref a :: rest) (hW : (rest.map fun v => v.category).sum ≤ W) (hd : decode c.code pc = .ok (.invokevirtual index, 3))
    (has : (.ref a :: argsL).toArray = as') (eT : T.heap = h) (hc : cells + kc ≤ R.cells) (hl : slots + ks ≤ R.slots)
    (go : ∀ (T' : State) (v : Option Value) (L : List Loc), Stand p l e R (s.setVm T'.vm) m args below meth c T' (locs ++ L) (cells + kc) (slots + ks) → s.Since T'.vm T'.heap.size → Z.Warmed39 (s.setVm T'.vm).vm → (s.setVm T'.vm).vm.findClass own = some m.cls → CHr Z EL vm0 h T'.vm T'.heap → Q v T'.heap L → Owe p.tables e below G T' (mkF m (pc + 3) Ls (v.toList ++ rest))) : Owe p.tables e below G T (mkF m pc Ls st) := by
  obtain ⟨cq, kq, qa, qb, qc⟩ := isOf hZ eT E
  obtain ⟨v, _, ⟨T', L', k', n'⟩, -, X', hS', hg', ⟨L, hQ, l', y', z', hC'⟩, st'⟩ := X.virtualBackS hx hown hlink hdecl hnf hsel hinst hy hK qa qc (g := mkF m pc Ls st) rfl hsize (Steps.refl _) hlen hs (by show 2 * 0 + _ ≤ W; omega) hd (fun _ _ => ⟨has, eT, hc, hl⟩)
  dsimp only [Pt.U, Pt.locs, Pt.cells, Pt.slots] at X' l' y' z' st' hQ hS' hg' hC'
  subst l' y' z'
  exact Owe.by (fun t k => st'.trans k) (go T' v L X' (hS.trans hS' (Nat.le_trans hk (eT ▸ hg'))) (State.Warmed39.trans (t := s.setVm vm0) hZ hS'.1) (by rw [show (s.setVm T'.vm).vm = T'.vm from rfl, hS'.1.alike.findClass]; exact hown) hC' hQ)
theorem Owe.statS (X : Stand p l e R (s.setVm vm0) m args below meth c T locs cells slots) (hx : p.tables.exec = Jvm.exec) (hZ : Z.Warmed39 (s.setVm vm0).vm) (hS : s.Since vm0 k0) (hk : k0 ≤ h.size) {own : String} {index : Nat} {bytes : ByteArray} {maxL : Nat} {ret : Option FieldType} (hown : (s.setVm vm0).vm.findClass own = some m.cls) (hlink : (Cond.methodLink own index y).before args (s.setVm vm0) = true) (hstat : (Cond.static y).before args (s.setVm vm0) = true) (hinit : (Cond.initialized y.cls).before args (s.setVm vm0) = true) (hcode : (Cond.code y bytes maxL ret).before args (s.setVm vm0) = true) (hy : y.cls ≠ "java/lang/invoke/MethodHandle" ∧ y.cls ≠ "java/lang/invoke/VarHandle")
    (hK : BackS l R p e below (s.setVm vm0) args y 3 W (fun A a => a = as' ∧ A.U.heap = h ∧ A.cells + kc ≤ R.cells ∧ A.slots + ks ≤ R.slots) (fun A _ v B => ∃ L, Q v B.U.heap L ∧ B.locs = A.locs ++ L ∧ B.cells = A.cells + kc ∧ B.slots = A.slots + ks ∧ CHr Z EL vm0 h B.U.vm B.U.heap))
    (hsize : Ls.size = c.maxLocals) {argsL rest : List Value} (hlen : ∀ sig, parseMethodDescriptor y.desc = some sig → argsL.length = sig.parameters.length) (hs : st = argsL.reverse ++ rest) (hW : (rest.map fun v => v.category).sum ≤ W) (hd : decode c.code pc = .ok (.invokestatic index, 3))
    (has : argsL.toArray = as') (eT : T.heap = h) (hc : cells + kc ≤ R.cells) (hl : slots + ks ≤ R.slots)
    (go : ∀ (T' : State) (v : Option Value) (L : List Loc), Stand p l e R (s.setVm T'.vm) m args below meth c T' (locs ++ L) (cells + kc) (slots + ks) → s.Since T'.vm T'.heap.size → Z.Warmed39 (s.setVm T'.vm).vm → (s.setVm T'.vm).vm.findClass own = some m.cls → CHr Z EL vm0 h T'.vm T'.heap → Q v T'.heap L → Owe p.tables e below G T' (mkF m (pc + 3) Ls (v.toList ++ rest))) : Owe p.tables e below G T (mkF m pc Ls st) := by
  obtain ⟨v, _, ⟨T', L', k', n'⟩, -, X', hS', hg', ⟨L, hQ, l', y', z', hC'⟩, st'⟩ := callSS X hx hown hlink hstat hinit hcode hy hK (g := mkF m pc Ls st) rfl hsize hlen hs (by show 2 * 0 + _ ≤ W; omega) hd (fun _ _ => ⟨has, eT, hc, hl⟩)
  dsimp only [Pt.U, Pt.locs, Pt.cells, Pt.slots] at X' l' y' z' st' hQ hS' hg' hC'
  subst l' y' z'
  exact Owe.by (fun t k => st'.trans k) (go T' v L X' (hS.trans hS' (Nat.le_trans hk (eT ▸ hg'))) (State.Warmed39.trans (t := s.setVm vm0) hZ hS'.1) (by rw [show (s.setVm T'.vm).vm = T'.vm from rfl, hS'.1.alike.findClass]; exact hown) hC' hQ)
theorem Owe.retNW (X : Stand p l e R (s.setVm vm0) m args below meth c T locs cells slots) (hx : p.tables.exec = Jvm.exec) (hS : s.Since vm0 k0) (eT : T.heap = h) (hk : k0 ≤ h.size) (hlk : meth.locks = false) {z : Int32} {t : FieldType} {rest : List Value} (hret : meth.sig.returnType = some t) (ht : t = .boolean ∨ t = .byte ∨ t = .char ∨ t = .short) (hd : decode c.code pc = .ok (.ireturn, 1)) (hs : st = .int z :: rest)
    (go : ∀ fs : List Frame, ReturnedEndW s (.returned (some (.int (nar t z)))) (T.setFrames fs) locs cells slots → G (.returned (some (.int (nar t z)))) (T.setFrames fs)) : Owe p.tables e below G T (mkF m pc Ls st) := by
  subst hs
  obtain ⟨fs, hr, hrun, hended, hE⟩ := X.leaveW hS (eT ▸ hk) (v := some (.int (nar t z))) (fun h => by rw [hret] at h; cases h) hlk
  exact ⟨_, _, Jvm.RoadKit.retN X hx hret ht hd hr, hrun, hended, go fs hE⟩
theorem Owe.retRW (X : Stand p l e R (s.setVm vm0) m args below meth c T locs cells slots) (hx : p.tables.exec = Jvm.exec) (hS : s.Since vm0 k0) (eT : T.heap = h) (hk : k0 ≤ h.size) (hlk : meth.locks = false) {w : Value} {t : FieldType} {rest : List Value} (hret : meth.sig.returnType = some t) (hn : narrow t w = w) (ht : t.isReference = true) (hw : w.isRef = true) (hd : decode c.code pc = .ok (.areturn, 1)) (hs : st = w :: rest)
    (go : ∀ fs : List Frame, ReturnedEndW s (.returned (some w)) (T.setFrames fs) locs cells slots → G (.returned (some w)) (T.setFrames fs)) : Owe p.tables e below G T (mkF m pc Ls st) := by
  subst hs
  obtain ⟨fs, hr, hrun, hended, hE⟩ := X.leaveW hS (eT ▸ hk) (v := some w) (fun h => by rw [hret] at h; cases h) hlk
  have hm' : T.vm.method? m = some meth := X.method'
  refine ⟨_, _, ?_, hrun, hended, go fs hE⟩
  show Steps p.tables e below (T.setTop { method := m, pc := pc, locals := Ls, stack := _ :: rest, locked := none }) _
  jvm_step X.here [X.here.top, hx, hd, hm', hret, hn, hw]
  try (refine ⟨ht, ?_⟩)
  first | (intro acts; rw [hr _ acts rfl rfl rfl]) | rw [hr _ _ rfl rfl rfl]
  exact Steps.refl _
theorem Owe.ret0W (X : Stand p l e R (s.setVm vm0) m args below meth c T locs cells slots) (hx : p.tables.exec = Jvm.exec) (hS : s.Since vm0 k0) (eT : T.heap = h) (hk : k0 ≤ h.size) (hlk : meth.locks = false) (hret : meth.sig.returnType = none) (hd : decode c.code pc = .ok (.return_, 1)) (hs : st = [])
    (go : ∀ fs : List Frame, ReturnedEndW s (.returned none) (T.setFrames fs) locs cells slots → G (.returned none) (T.setFrames fs)) : Owe p.tables e below G T (mkF m pc Ls st) := by
  subst hs
  obtain ⟨fs, hr, hrun, hended, hE⟩ := X.leaveW hS (eT ▸ hk) (v := none) (fun _ => rfl) hlk
  exact ⟨_, _, X.returnOut hx hret hd hr, hrun, hended, go fs hE⟩
end Cold
end Own
end Jvm.Pilot.@@N@@
namespace Jvm.Pilot.@@N@@
open Jvm Jvm.ClassFile Sem Op Lib Jvm.Free Jvm.Stand Jvm.LawKit Jvm.RoadKit Bundle Jvm.Pilot.@@N@@.Jvm.D Jvm.Pilot.@@N@@.Own
theorem and255_chars (x : Int32) : ¬ nar .char ((x &&& (255 : Int32)).toUInt32.toUInt16.toUInt32.toInt32) < 0 ∧ ¬ (255 : Int32) < nar .char ((x &&& (255 : Int32)).toUInt32.toUInt16.toUInt32.toInt32) := by
  have t : ∀ k : Fin 256, ¬ nar .char ((Int32.ofNat k.val).toUInt32.toUInt16.toUInt32.toInt32) < 0 ∧ ¬ (255 : Int32) < nar .char ((Int32.ofNat k.val).toUInt32.toUInt16.toUInt32.toInt32) := by decide +kernel
  have h : (x &&& 255).toBitVec.toNat < 256 := by
    simp only [Int32.toBitVec_and, BitVec.toNat_and]
    exact Nat.lt_succ_of_le Nat.and_le_right
  have e : (x &&& 255) = Int32.ofNat (x &&& 255).toBitVec.toNat := by
    apply Int32.toBitVec_inj.mp
    show _ = BitVec.ofNat 32 _
    rw [BitVec.ofNat_toNat]; simp
  rw [e]
  exact t ⟨_, h⟩
theorem own_narrow_ref {v : Value} {t : FieldType} (h : v.isRef = true) (ht : t.isReference = true) : narrow t v = v := by cases t <;> first | (cases ht; done) | (cases v <;> first | rfl | (cases h; done))
theorem own_fits_ref {v : Value} {t : FieldType} (h : v.isRef = true) (ht : t.isReference = true) : fits t v = true := by cases t <;> first | (cases ht; done) | (cases v <;> first | rfl | (cases h; done))
theorem own_cat_ref {v : Value} (h : v.isRef = true) : v.category = 1 := by cases v <;> first | rfl | (cases h; done)
theorem own_eq_int {args : Array Value} {Z : State} {t : Term} {j : Int32} (h : (Jvm.Cond.eq t (Term.int j)).value args Z none Z [] = some true) : t.eval args Z none [] Z = some (.int j) := by
  obtain ⟨x, y, ha, hb, hk, -⟩ := cmp_v (Or.inl h)
  have hj : (Term.int j).eval args Z none [] Z = some (.int j) := Term.int_eval j
  cases x with
  | int z => rw [ha, gotT (Cond.eq_ints ha hj) h]
  | _ => simp [Cond.value, ha, hj] at h
theorem own_eq_ref {args : Array Value} {Z : State} {t u : Term} {b : Addr} (eu : u.eval args Z none [] Z = some (.ref b)) (h : (Jvm.Cond.eq t u).value args Z none Z [] = some true) : t.eval args Z none [] Z = some (.ref b) := by
  obtain ⟨x, y, ha, hb, hk, -⟩ := cmp_v (Or.inl h)
  cases x with
  | ref z => simp [Cond.value, ha, eu] at h; rw [ha, h]
  | _ => simp [Cond.value, ha, eu] at h
theorem own_fld_int {Z : State} {args : Array Value} {t : Term} {a : Addr} {C n d : String} {j : Int32} (ev : t.eval args Z none [] Z = some (.ref a)) (h : (Jvm.Cond.eq (Term.field t C n d) (Term.int j)).value args Z none Z [] = some true) : Fld Z Z.heap a C n d (.int j) := Fld.start ((fld_at ev).symm.trans (own_eq_int h))
theorem own_fld_ref {Z : State} {args : Array Value} {t u : Term} {a b : Addr} {C n d : String} (ev : t.eval args Z none [] Z = some (.ref a)) (eu : u.eval args Z none [] Z = some (.ref b)) (h : (Jvm.Cond.eq (Term.field t C n d) u).value args Z none Z [] = some true) : Fld Z Z.heap a C n d (.ref b) := Fld.start ((fld_at ev).symm.trans (own_eq_ref eu h))
def own_EL : List (String × Nat) := [("java/lang/String", 7)]
theorem own_ew {Z : State} {a0 : Array Value} (hw : ∀ d ∈ tables_1, d.before a0 Z = true) : EW Z a0 own_EL := EW.cons (hw _ (List.mem_of_getElem? (i := 30) rfl)) (by decide) (EW.nil)
theorem own_sa : ∀ d ∈ Bundle.stringAtoms, d ∈ tables_1 := by decide +kernel
theorem own_wS {Z : State} {a0 : Array Value} (hw : ∀ d ∈ tables_1, d.before a0 Z = true) : ∀ a ∈ Bundle.stringAtoms, a.before a0 Z = true := fun d hd => hw d (own_sa d hd)
theorem own_safe_null {Z : State} {EL : List (String × Nat)} {vm : Vm} {h : Heap} {x : Addr} (hal : Z.vm.Alike vm) (E : Exa Z h x "java/lang/String") (F : Fld Z h x "java/lang/String" "value" "[B" .null) : Safe Z EL vm h x := fun B => by
  obtain ⟨p, -, u, a, -, q, -, S, rfl | rfl⟩ := B
  · obtain ⟨cS, ⟨⟨s1, -, -, ⟨c1, k1, i1, f1, -⟩, -, -, -, v1, -⟩, -⟩, -⟩ := S
    obtain ⟨cell, cf, k, i, f, h1, h2, -, -, -, -, h7⟩ := F
    cases h1.symm.trans (show h[q.sa]? = some q.sC from s1)
    obtain ⟨k3, e3, -⟩ := State.fieldFound?_setVm (s := Z) hal h2
    have e4 := (show (Wst Z vm h).fieldFound? _ _ _ = _ from e3).symm.trans f1
    simp only [Option.some.injEq, Prod.mk.injEq] at e4
    rw [e4.2.2.2, v1] at h7
    cases h7
  · obtain ⟨cell, k, e1, e2, e3, -, -⟩ := E
    cases (show h[q.sd]? = some q.SA from S.hd).symm.trans e1
    obtain ⟨cS, -, -, f, -⟩ := S
    have f' : Z.vm.findClass "[B" = some q.SA.cls := by rw [← hal.findClass]; exact f
    obtain ⟨k1, q1, q2⟩ := Vm.findClass_spec f'
    obtain ⟨k2, q3, q4⟩ := Vm.findClass_spec e2
    cases q1.symm.trans q3
    exact absurd (q2.symm.trans q4) (by decide)
theorem own_words : ∀ d ∈ StrChars.Road.words, d ∈ tables_1 := by decide +kernel
theorem pd_0 : parseMethodDescriptor "([CIILjava/lang/Void;)V" = some ⟨[(.array .char), .int, .int, (.object "java/lang/Void")], none⟩ := by decide +kernel
theorem pd_1 : parseMethodDescriptor "()V" = some ⟨[], none⟩ := by decide +kernel
theorem pd_2 : parseMethodDescriptor "(Lcom/example/clotho/clotho/suite/Outcome$Verdict;Ljava/lang/String;Ljava/lang/String;)V" = some ⟨[(.object "com/example/clotho/clotho/suite/Outcome$Verdict"), (.object "java/lang/String"), (.object "java/lang/String")], none⟩ := by decide +kernel
theorem pd_3 : parseMethodDescriptor "(Ljava/lang/Object;)Z" = some ⟨[(.object "java/lang/Object")], some .boolean⟩ := by decide +kernel
theorem pd_4 : parseMethodDescriptor "([C)V" = some ⟨[(.array .char)], none⟩ := by decide +kernel
theorem pd_5 : parseMethodDescriptor "(Ljava/lang/String;Ljava/lang/String;)Lcom/example/clotho/clotho/suite/Outcome;" = some ⟨[(.object "java/lang/String"), (.object "java/lang/String")], some (.object "com/example/clotho/clotho/suite/Outcome")⟩ := by decide +kernel
theorem pd_6 : parseMethodDescriptor "()Lcom/example/clotho/clotho/suite/Outcome$Verdict;" = some ⟨[], some (.object "com/example/clotho/clotho/suite/Outcome$Verdict")⟩ := by decide +kernel
theorem pd_7 : parseMethodDescriptor "()Ljava/lang/String;" = some ⟨[], some (.object "java/lang/String")⟩ := by decide +kernel
theorem pd_8 : parseMethodDescriptor "(Ljava/lang/String;Ljava/lang/String;)Z" = some ⟨[(.object "java/lang/String"), (.object "java/lang/String")], some .boolean⟩ := by decide +kernel
theorem d0_0 : decode jdk_30_method_1_code 0 = .ok (.aload_n 0, 1) := by decide +kernel
theorem d0_1 : decode jdk_30_method_1_code 1 = .ok (.invokespecial 1, 3) := by decide +kernel
theorem d0_4 : decode jdk_30_method_1_code 4 = .ok (.return_, 1) := by decide +kernel
theorem pn_rec : plainName "java/lang/Record" = true := by first | (simp [plainName, overriddenIn]; done) | decide +kernel
theorem ef_rec (m : MethodId) (x0 : Addr)  : entryFrame m #[(.ref x0)] 1 = mkF m 0 #[.val (.ref x0)] [] := by first | (simp [entryFrame, mkF, argsToLocals, Value.category]; done) | rfl
def Qrec (Z : State) (a1 : Addr) (h0 : Heap) (n0 : Nat) (v : Option Value) (h : Heap) (L : List Loc) : Prop := v = none ∧ Fr n0 L ∧ h = h0
set_option maxRecDepth 65536 in
set_option maxHeartbeats 40000000 in
theorem rmrec (l : Launch) (Z : State) (a0 : Array Value) (hw : ∀ d ∈ tables_1, d.before a0 Z = true) (ws : List Jvm.Cond) (a1 : Addr) (h0 : Heap) (n0 : Nat) (Z0 : n0 ≤ h0.size)  :
    MetFree l (⟨"java/lang/Record", "<init>", "()V"⟩ : MethodName) (head1 (Jvm.Cond.code (⟨"java/lang/Record", "<init>", "()V"⟩ : MethodName) jdk_30_method_1_code 1 none :: ws) ({ frames := 1, cells := 0, slots := 0, locals := 12 } : Room)) (fun a U => a = #[(.ref a1)] ∧ Z.Warmed39 U.vm ∧ U.heap = h0) (fun _ _ _ _ _ => True) (fun _ U o U' => ∃ v L, o = .returned v ∧ Qrec Z a1 h0 n0 v U'.heap L ∧ FrameEnd U o U' L ({ frames := 1, cells := 0, slots := 0, locals := 12 } : Room).cells ({ frames := 1, cells := 0, slots := 0, locals := 12 } : Room).slots) := by
  refine MetFree.of_bodySF (plainFor_of_name pn_rec) hisR ?_
  intro p e s m args below meth c s₁ Bd hml0 hP hK
  obtain ⟨rfl, hZ, hh⟩ := hP
  have hx := Bd.exec
  have hby := Bd.bytes
  have hml : c.maxLocals = 1 := hml0
  have hown : s.vm.findClass "java/lang/Record" = some m.cls := findClass_of_methodNamed Bd.named
  have hnm := (name_of_methodNamed Bd.named Bd.method).1
  have hlk : meth.locks = false := BodyLoose.notSynchronized Bd
  have X0 : Stand p l e ({ frames := 1, cells := 0, slots := 0, locals := 12 } : Room) s m #[(.ref a1)] below meth c s₁ [] 0 0 := Stand.of_body Bd
  have e0 : s₁.heap = h0 := by rw [← hh, Bd.state]; rfl
  have N0 := Fr.nil n0
  obtain ⟨G, hG⟩ : ∃ G : Outcome → State → Prop, G = fun o u => ∃ v L, o = .returned v ∧ Qrec Z a1 h0 n0 v u.heap L ∧ FrameEnd s o u L ({ frames := 1, cells := 0, slots := 0, locals := 12 } : Room).cells ({ frames := 1, cells := 0, slots := 0, locals := 12 } : Room).slots := ⟨_, rfl⟩
  suffices hgo : Owe p.tables e below G s₁ (mkF m 0 #[.val (.ref a1)] []) by
    obtain ⟨u, o, h1, h2, h3, h4⟩ := hgo
    exact ⟨u, o, castTop (ef_rec m a1) h1, h2, h3, by rw [hG] at h4; exact h4⟩
  refine Owe.aloadN X0.here hx (hb hby d0_0) rfl rfl ?_
  refine Owe.objinit X0 hx hZ hown (hw _ (List.mem_of_getElem? (i := 50) rfl)) (hw _ (List.mem_of_getElem? (i := 12) rfl)) (hw _ (List.mem_of_getElem? (i := 13) rfl)) e0 (by rw [hml]; rfl) rfl (hb hby d0_1) (by decide) (W := 0) (Nat.le_of_ble_eq_true rfl) (by decide) fun T1 X1 e1 => ?_
  refine Owe.ret0 X1 hx hlk Bd.returns (hb hby d0_4) rfl fun fs hE => ?_
  rw [hG]
  refine ⟨_, _, rfl, ?_, frameMono hE (by decide) (by decide)⟩
  show Qrec Z a1 h0 n0 _ T1.heap _
  rw [e1]
  exact ⟨rfl, N0, rfl⟩
theorem d1_0 : decode jdk_42_method_149_code 0 = .ok (.aload_n 0, 1) := by decide +kernel
theorem d1_1 : decode jdk_42_method_149_code 1 = .ok (.invokespecial 1, 3) := by decide +kernel
theorem d1_4 : decode jdk_42_method_149_code 4 = .ok (.iload_n 3, 1) := by decide +kernel
theorem d1_5 : decode jdk_42_method_149_code 5 = .ok (.ifCond .ne 22, 3) := by decide +kernel
theorem d1_8 : decode jdk_42_method_149_code 8 = .ok (.aload_n 0, 1) := by decide +kernel
theorem d1_9 : decode jdk_42_method_149_code 9 = .ok (.ldc 7, 2) := by decide +kernel
theorem d1_11 : decode jdk_42_method_149_code 11 = .ok (.getfield 9, 3) := by decide +kernel
theorem d1_14 : decode jdk_42_method_149_code 14 = .ok (.putfield 9, 3) := by decide +kernel
theorem d1_17 : decode jdk_42_method_149_code 17 = .ok (.aload_n 0, 1) := by decide +kernel
theorem d1_18 : decode jdk_42_method_149_code 18 = .ok (.ldc 7, 2) := by decide +kernel
theorem d1_20 : decode jdk_42_method_149_code 20 = .ok (.getfield 15, 3) := by decide +kernel
theorem d1_23 : decode jdk_42_method_149_code 23 = .ok (.putfield 15, 3) := by decide +kernel
theorem d1_26 : decode jdk_42_method_149_code 26 = .ok (.return_, 1) := by decide +kernel
theorem d1_27 : decode jdk_42_method_149_code 27 = .ok (.getstatic 38, 3) := by decide +kernel
theorem d1_30 : decode jdk_42_method_149_code 30 = .ok (.ifCond .eq 28, 3) := by decide +kernel
theorem d1_33 : decode jdk_42_method_149_code 33 = .ok (.aload_n 1, 1) := by decide +kernel
theorem d1_34 : decode jdk_42_method_149_code 34 = .ok (.iload_n 2, 1) := by decide +kernel
theorem d1_35 : decode jdk_42_method_149_code 35 = .ok (.iload_n 3, 1) := by decide +kernel
theorem d1_36 : decode jdk_42_method_149_code 36 = .ok (.invokestatic 177, 3) := by decide +kernel
theorem d1_39 : decode jdk_42_method_149_code 39 = .ok (.astore 5, 2) := by decide +kernel
theorem d1_41 : decode jdk_42_method_149_code 41 = .ok (.aload_n 0, 1) := by decide +kernel
theorem d1_42 : decode jdk_42_method_149_code 42 = .ok (.aload 5, 2) := by decide +kernel
theorem d1_44 : decode jdk_42_method_149_code 44 = .ok (.iload_n 3, 1) := by decide +kernel
theorem d1_45 : decode jdk_42_method_149_code 45 = .ok (.invokestatic 47, 3) := by decide +kernel
theorem d1_48 : decode jdk_42_method_149_code 48 = .ok (.putfield 15, 3) := by decide +kernel
theorem d1_51 : decode jdk_42_method_149_code 51 = .ok (.aload_n 0, 1) := by decide +kernel
theorem d1_52 : decode jdk_42_method_149_code 52 = .ok (.aload 5, 2) := by decide +kernel
theorem d1_54 : decode jdk_42_method_149_code 54 = .ok (.putfield 9, 3) := by decide +kernel
theorem d1_57 : decode jdk_42_method_149_code 57 = .ok (.return_, 1) := by decide +kernel
theorem d1_58 : decode jdk_42_method_149_code 58 = .ok (.aload_n 0, 1) := by decide +kernel
theorem d1_59 : decode jdk_42_method_149_code 59 = .ok (.iconst 1, 1) := by decide +kernel
theorem d1_60 : decode jdk_42_method_149_code 60 = .ok (.putfield 15, 3) := by decide +kernel
theorem d1_63 : decode jdk_42_method_149_code 63 = .ok (.aload_n 0, 1) := by decide +kernel
theorem d1_64 : decode jdk_42_method_149_code 64 = .ok (.aload_n 1, 1) := by decide +kernel
theorem d1_65 : decode jdk_42_method_149_code 65 = .ok (.iload_n 2, 1) := by decide +kernel
theorem d1_66 : decode jdk_42_method_149_code 66 = .ok (.iload_n 3, 1) := by decide +kernel
theorem d1_67 : decode jdk_42_method_149_code 67 = .ok (.invokestatic 180, 3) := by decide +kernel
theorem d1_70 : decode jdk_42_method_149_code 70 = .ok (.putfield 9, 3) := by decide +kernel
theorem d1_73 : decode jdk_42_method_149_code 73 = .ok (.return_, 1) := by decide +kernel
theorem pn_se2 : plainName "java/lang/String" = true := by first | (simp [plainName, overriddenIn]; done) | decide +kernel
theorem ef_se2 (m : MethodId) (x0 : Addr) (x1 : Addr) (x2 : Int32) (x3 : Int32)  : entryFrame m #[(.ref x0), (.ref x1), (.int x2), (.int x3), .null] 6 = mkF m 0 #[.val (.ref x0), .val (.ref x1), .val (.int x2), .val (.int x3), .val .null, .unset] [] := by first | (simp [entryFrame, mkF, argsToLocals, Value.category]; done) | rfl
def Qse2 (Z : State) (a1 : Addr) (a2 : Addr) (h0 : Heap) (n0 : Nat) (v : Option Value) (h : Heap) (L : List Loc) : Prop := ∃ (b1 : Addr), ∃ (kb1 : ClassId), v = none ∧ Fr n0 L ∧ Keep h0 h [a1] ∧ Exa Z h a1 "java/lang/String" ∧ Fld Z h a1 "java/lang/String" "value" "[B" (.ref b1) ∧ Fld Z h a1 "java/lang/String" "coder" "B" (.int (0 : Int32)) ∧ Arv Z h b1 kb1 .byte (0 : Int32) [] (.int (0 : Int32))
set_option maxRecDepth 65536 in
set_option maxHeartbeats 40000000 in
theorem rmse2 (l : Launch) (Z : State) (a0 : Array Value) (hw : ∀ d ∈ tables_1, d.before a0 Z = true) (ws : List Jvm.Cond) (a1 : Addr) (a2 : Addr) (h0 : Heap) (n0 : Nat) (Z0 : n0 ≤ h0.size) (E_a1 : Exa Z h0 a1 "java/lang/String") (Fvalue_a1 : Fld Z h0 a1 "java/lang/String" "value" "[B" .null) (Fcoder_a1 : Fld Z h0 a1 "java/lang/String" "coder" "B" (.int (0 : Int32))) (ge_a1 : n0 ≤ a1) :
    MetFree l (⟨"java/lang/String", "<init>", "([CIILjava/lang/Void;)V"⟩ : MethodName) (head1 (Jvm.Cond.code (⟨"java/lang/String", "<init>", "([CIILjava/lang/Void;)V"⟩ : MethodName) jdk_42_method_149_code 6 none :: ws) ({ frames := 1, cells := 2, slots := 4, locals := 13 } : Room)) (fun a U => a = #[(.ref a1), (.ref a2), (.int (0 : Int32)), (.int (0 : Int32)), .null] ∧ Z.Warmed39 U.vm ∧ U.heap = h0 ∧ CHv Z own_EL U.vm h0) (fun _ _ _ _ _ => True) (fun _ U o U' => ∃ v L, o = .returned v ∧ Qse2 Z a1 a2 h0 n0 v U'.heap L ∧ CHr Z own_EL U.vm U.heap U'.vm U'.heap ∧ ReturnedEndW U o U' L ({ frames := 1, cells := 2, slots := 4, locals := 13 } : Room).cells ({ frames := 1, cells := 2, slots := 4, locals := 13 } : Room).slots) := by
  refine MetFree.of_bodySF (plainFor_of_name pn_se2) hisR ?_
  intro p e s m args below meth c s₁ Bd hml0 hP hK
  obtain ⟨rfl, hZ0, hh, H0⟩ := hP
  have hx := Bd.exec
  have hby := Bd.bytes
  have hml : c.maxLocals = 6 := hml0
  have hown : s.vm.findClass "java/lang/String" = some m.cls := findClass_of_methodNamed Bd.named
  have hnm := (name_of_methodNamed Bd.named Bd.method).1
  have hlk : meth.locks = false := BodyLoose.notSynchronized Bd
  have X0 : Stand p l e ({ frames := 1, cells := 2, slots := 4, locals := 13 } : Room) (s.setVm s.vm) m #[(.ref a1), (.ref a2), (.int (0 : Int32)), (.int (0 : Int32)), .null] below meth c s₁ [] 0 0 := Stand.of_body Bd
  have e0 : s₁.heap = h0 := by rw [← hh, Bd.state]; rfl
  have N0 := Fr.nil n0
  have K0 := Keep.refl h0 [a1]
  have hZ : Z.Warmed39 (s.setVm s.vm).vm := hZ0
  have hown1 : (s.setVm s.vm).vm.findClass "java/lang/String" = some m.cls := hown
  have hS0 : s.Since s.vm 0 := (State.WarmedH.refl s).since 0
  have hk0 : 0 ≤ h0.size := Nat.zero_le _
  have R0 : CHr Z own_EL s.vm h0 s.vm h0 := CHr.refl H0
  have sf_a1 : Safe Z own_EL s.vm h0 a1 := own_safe_null hZ0.alike E_a1 Fvalue_a1
  obtain ⟨G, hG⟩ : ∃ G : Outcome → State → Prop, G = fun o u => ∃ v L, o = .returned v ∧ Qse2 Z a1 a2 h0 n0 v u.heap L ∧ CHr Z own_EL s.vm s.heap u.vm u.heap ∧ ReturnedEndW s o u L ({ frames := 1, cells := 2, slots := 4, locals := 13 } : Room).cells ({ frames := 1, cells := 2, slots := 4, locals := 13 } : Room).slots := ⟨_, rfl⟩
  suffices hgo : Owe p.tables e below G s₁ (mkF m 0 #[.val (.ref a1), .val (.ref a2), .val (.int (0 : Int32)), .val (.int (0 : Int32)), .val .null, .unset] []) by
    obtain ⟨u, o, h1, h2, h3, h4⟩ := hgo
    exact ⟨u, o, castTop (ef_se2 m a1 a2 (0 : Int32) (0 : Int32)) h1, h2, h3, by rw [hG] at h4; exact h4⟩
  refine Owe.aloadN X0.here hx (hb hby d1_0) rfl rfl ?_
  refine Owe.objinit X0 hx hZ hown1 (hw _ (List.mem_of_getElem? (i := 11) rfl)) (hw _ (List.mem_of_getElem? (i := 12) rfl)) (hw _ (List.mem_of_getElem? (i := 13) rfl)) e0 (by rw [hml]; rfl) rfl (hb hby d1_1) (by decide) (W := 0) (Nat.le_of_ble_eq_true rfl) (by decide) fun T2 X2 e2 => ?_
  refine Owe.iloadN X2.here hx (hb hby d1_4) rfl ?_
  refine Owe.ifNo X2.here hx (hb hby d1_5) rfl ((if0 _ _).trans (teq (by decide)).2) ?_
  refine Owe.aloadN X2.here hx (hb hby d1_8) rfl rfl ?_
  refine Owe.ldcV X2 hx hZ hS0 (own_ew hw) H0 (by decide) hown1 (hw _ (List.mem_of_getElem? (i := 30) rfl)) (own_wS hw) e2 hk0 (vs := []) (z := (0 : Int32)) (by decide) (by decide) rfl (hb hby d1_9) (n := 0) (by decide) (by decide) (by decide) (by decide) fun l3 T3 h3 k3 lb3 lk3 X3 e3 E3 hS3 hk3 hZ3 hown3 Ex3 Fc3 Fv3 Vb3 hC3 Lt3 nsf3 => ?_
  have hk4 := Nat.le_trans hk0 E3.1
  have K_5 := K0.ext E3
  have E_a1_6 := E_a1.ext E3
  have Fvalue_a1_7 := Fvalue_a1.ext E3
  have Fcoder_a1_8 := Fcoder_a1.ext E3
  have Z_9 := Nat.le_trans Z0 E3.1
  have sf_a1_3 := CHr.safe hC3 E_a1.lt sf_a1
  have Rr3 := R0.trans hC3
  have H3 := hC3.1
  have ne_a1_l3 := (nsf3 _ sf_a1_3).1
  have ne_a1_lb3 := (nsf3 _ sf_a1_3).2
  refine Owe.getf X3 hx hZ3 (host := "") hown3 (Or.inl (hw _ (List.mem_of_getElem? (i := 28) rfl))) Via.refl e3 Fv3 (hb hby d1_11) rfl fun T10 X10 e10 => ?_
  refine Owe.putf X10 hx hZ3 (host := "") hown3 (Or.inl (hw _ (List.mem_of_getElem? (i := 28) rfl))) Via.refl e10 Fvalue_a1_7 E_a1_6 (Or.inr ⟨(hw _ (List.mem_of_getElem? (i := 29) rfl)), rfl, hnm⟩) (hw _ (List.mem_of_getElem? (i := 1) rfl)) (ty := (.array .byte)) (by decide) rfl rfl (hb hby d1_14) rfl fun T11 h11 X11 e11 W11 => ?_
  have hk12 := Nat.le_trans hk3 (Keep.of_wr W11).1
  have sf_a1_12 := Safe.wr W11 sf_a1_3 H3 sf_a1_3
  have Rr12 := Rr3.trans (CHr.wr W11 sf_a1_3 H3)
  have H12 := CHv.wr W11 sf_a1_3 H3
  have K_13 := K_5.wr W11 (Or.inl (List.mem_of_getElem? (i := 0) rfl))
  have E_a1_14 := E_a1_6.wr W11
  have Fvalue_a1_15 := Fvalue_a1_7.same W11
  have Fcoder_a1_16 := Fcoder_a1_8.other W11 (Or.inr (slot_ne (Or.inr (hw _ (List.mem_of_getElem? (i := 27) rfl))) (Or.inr (hw _ (List.mem_of_getElem? (i := 29) rfl))) (by decide) (t := .byte) (t' := (.array .byte)) (by decide) (by decide)))
  have Ex3_17 := Ex3.wr W11
  have Fc3_18 := Fc3.other W11 (Or.inl (Ne.symm ne_a1_l3))
  have Fv3_19 := Fv3.other W11 (Or.inl (Ne.symm ne_a1_l3))
  have Vb3_20 := Vb3.other W11 (Ne.symm ne_a1_lb3)
  have Z_21 := Nat.le_trans Z_9 (Keep.of_wr W11).1
  have N11 := Fr.snoc X11 N0 ge_a1
  refine Owe.aloadN X11.here hx (hb hby d1_17) rfl rfl ?_
  refine Owe.ldcA X11 hx hZ3 hown3 (hw _ (List.mem_of_getElem? (i := 30) rfl)) Lt3 (hb hby d1_18) ?_
  refine Owe.getf X11 hx hZ3 (host := "") hown3 (Or.inl (hw _ (List.mem_of_getElem? (i := 26) rfl))) Via.refl e11 Fc3_18 (hb hby d1_20) rfl fun T23 X23 e23 => ?_
  refine Owe.putf X23 hx hZ3 (host := "") hown3 (Or.inl (hw _ (List.mem_of_getElem? (i := 26) rfl))) Via.refl e23 Fcoder_a1_16 E_a1_14 (Or.inr ⟨(hw _ (List.mem_of_getElem? (i := 27) rfl)), rfl, hnm⟩) (hw _ (List.mem_of_getElem? (i := 1) rfl)) (ty := .byte) (by decide) rfl rfl (hb hby d1_23) rfl fun T24 h24 X24 e24 W24 => ?_
  have hk25 := Nat.le_trans hk12 (Keep.of_wr W24).1
  have sf_a1_25 := Safe.wr W24 sf_a1_12 H12 sf_a1_12
  have Rr25 := Rr12.trans (CHr.wr W24 sf_a1_12 H12)
  have H25 := CHv.wr W24 sf_a1_12 H12
  have K_26 := K_13.wr W24 (Or.inl (List.mem_of_getElem? (i := 0) rfl))
  have E_a1_27 := E_a1_14.wr W24
  have Fvalue_a1_28 := Fvalue_a1_15.other W24 (Or.inr (slot_ne (Or.inr (hw _ (List.mem_of_getElem? (i := 29) rfl))) (Or.inr (hw _ (List.mem_of_getElem? (i := 27) rfl))) (by decide) (t := (.array .byte)) (t' := .byte) (by decide) (by decide)))
  have Fcoder_a1_29 := Fcoder_a1_16.same W24
  have Ex3_30 := Ex3_17.wr W24
  have Fc3_31 := Fc3_18.other W24 (Or.inl (Ne.symm ne_a1_l3))
  have Fv3_32 := Fv3_19.other W24 (Or.inl (Ne.symm ne_a1_l3))
  have Vb3_33 := Vb3_20.other W24 (Ne.symm ne_a1_lb3)
  have Z_34 := Nat.le_trans Z_21 (Keep.of_wr W24).1
  have N24 := Fr.snoc X24 N11 ge_a1
  refine Owe.ret0W X24 hx hS3 e24 hk25 hlk Bd.returns (hb hby d1_26) rfl fun fs hE => ?_
  rw [hG]
  refine ⟨_, _, rfl, ?_, ?_, coldMono hE (by decide) (by decide)⟩
  rotate_left
  · rw [hh]
    show CHr Z own_EL s.vm h0 T24.vm T24.heap
    rw [e24]
    exact Rr25.trans (CHv.at X24 hZ3 (own_ew hw) H25)
  show Qse2 Z a1 a2 h0 n0 _ T24.heap _
  rw [e24]
  exact ⟨lb3, lk3, rfl, N24, K_26, E_a1_27, Fvalue_a1_28, Fcoder_a1_29, Vb3_33⟩
theorem d2_0 : decode jdk_42_method_3_code 0 = .ok (.aload_n 0, 1) := by decide +kernel
theorem d2_1 : decode jdk_42_method_3_code 1 = .ok (.aload_n 1, 1) := by decide +kernel
theorem d2_2 : decode jdk_42_method_3_code 2 = .ok (.iconst 0, 1) := by decide +kernel
theorem d2_3 : decode jdk_42_method_3_code 3 = .ok (.aload_n 1, 1) := by decide +kernel
theorem d2_4 : decode jdk_42_method_3_code 4 = .ok (.arraylength, 1) := by decide +kernel
theorem d2_5 : decode jdk_42_method_3_code 5 = .ok (.aconst_null, 1) := by decide +kernel
theorem d2_6 : decode jdk_42_method_3_code 6 = .ok (.invokespecial 27, 3) := by decide +kernel
theorem d2_9 : decode jdk_42_method_3_code 9 = .ok (.return_, 1) := by decide +kernel
theorem pn_se1 : plainName "java/lang/String" = true := by first | (simp [plainName, overriddenIn]; done) | decide +kernel
theorem ef_se1 (m : MethodId) (x0 : Addr) (x1 : Addr)  : entryFrame m #[(.ref x0), (.ref x1)] 2 = mkF m 0 #[.val (.ref x0), .val (.ref x1)] [] := by first | (simp [entryFrame, mkF, argsToLocals, Value.category]; done) | rfl
def Qse1 (Z : State) (a1 : Addr) (a2 : Addr) (k2 : ClassId) (h0 : Heap) (n0 : Nat) (v : Option Value) (h : Heap) (L : List Loc) : Prop := ∃ (b1 : Addr), ∃ (kb1 : ClassId), v = none ∧ Fr n0 L ∧ Keep h0 h [a1] ∧ Exa Z h a1 "java/lang/String" ∧ Fld Z h a1 "java/lang/String" "value" "[B" (.ref b1) ∧ Fld Z h a1 "java/lang/String" "coder" "B" (.int (0 : Int32)) ∧ Arv Z h b1 kb1 .byte (0 : Int32) [] (.int (0 : Int32))
set_option maxRecDepth 65536 in
set_option maxHeartbeats 40000000 in
theorem rmse1 (l : Launch) (Z : State) (a0 : Array Value) (hw : ∀ d ∈ tables_1, d.before a0 Z = true) (ws : List Jvm.Cond) (a1 : Addr) (a2 : Addr) (k2 : ClassId) (h0 : Heap) (n0 : Nat) (Z0 : n0 ≤ h0.size) (E_a1 : Exa Z h0 a1 "java/lang/String") (Fvalue_a1 : Fld Z h0 a1 "java/lang/String" "value" "[B" .null) (Fcoder_a1 : Fld Z h0 a1 "java/lang/String" "coder" "B" (.int (0 : Int32))) (ge_a1 : n0 ≤ a1) (V_a2 : Arv Z h0 a2 k2 .char (0 : Int32) [] (.int (0 : Int32))) (ne_a2_a1 : a2 ≠ a1) :
    MetFree l (⟨"java/lang/String", "<init>", "([C)V"⟩ : MethodName) (head1 (Jvm.Cond.code (⟨"java/lang/String", "<init>", "([C)V"⟩ : MethodName) jdk_42_method_3_code 2 none :: ws) ({ frames := 2, cells := 2, slots := 4, locals := 30 } : Room)) (fun a U => a = #[(.ref a1), (.ref a2)] ∧ Z.Warmed39 U.vm ∧ U.heap = h0 ∧ CHv Z own_EL U.vm h0) (fun _ _ _ _ _ => True) (fun _ U o U' => ∃ v L, o = .returned v ∧ Qse1 Z a1 a2 k2 h0 n0 v U'.heap L ∧ CHr Z own_EL U.vm U.heap U'.vm U'.heap ∧ ReturnedEndW U o U' L ({ frames := 2, cells := 2, slots := 4, locals := 30 } : Room).cells ({ frames := 2, cells := 2, slots := 4, locals := 30 } : Room).slots) := by
  refine MetFree.of_bodySF (plainFor_of_name pn_se1) hisR ?_
  intro p e s m args below meth c s₁ Bd hml0 hP hK
  obtain ⟨rfl, hZ0, hh, H0⟩ := hP
  have hx := Bd.exec
  have hby := Bd.bytes
  have hml : c.maxLocals = 2 := hml0
  have hown : s.vm.findClass "java/lang/String" = some m.cls := findClass_of_methodNamed Bd.named
  have hnm := (name_of_methodNamed Bd.named Bd.method).1
  have hlk : meth.locks = false := BodyLoose.notSynchronized Bd
  have X0 : Stand p l e ({ frames := 2, cells := 2, slots := 4, locals := 30 } : Room) (s.setVm s.vm) m #[(.ref a1), (.ref a2)] below meth c s₁ [] 0 0 := Stand.of_body Bd
  have e0 : s₁.heap = h0 := by rw [← hh, Bd.state]; rfl
  have N0 := Fr.nil n0
  have K0 := Keep.refl h0 [a1]
  have hZ : Z.Warmed39 (s.setVm s.vm).vm := hZ0
  have hown1 : (s.setVm s.vm).vm.findClass "java/lang/String" = some m.cls := hown
  have hS0 : s.Since s.vm 0 := (State.WarmedH.refl s).since 0
  have hk0 : 0 ≤ h0.size := Nat.zero_le _
  have R0 : CHr Z own_EL s.vm h0 s.vm h0 := CHr.refl H0
  have sf_a1 : Safe Z own_EL s.vm h0 a1 := own_safe_null hZ0.alike E_a1 Fvalue_a1
  obtain ⟨G, hG⟩ : ∃ G : Outcome → State → Prop, G = fun o u => ∃ v L, o = .returned v ∧ Qse1 Z a1 a2 k2 h0 n0 v u.heap L ∧ CHr Z own_EL s.vm s.heap u.vm u.heap ∧ ReturnedEndW s o u L ({ frames := 2, cells := 2, slots := 4, locals := 30 } : Room).cells ({ frames := 2, cells := 2, slots := 4, locals := 30 } : Room).slots := ⟨_, rfl⟩
  suffices hgo : Owe p.tables e below G s₁ (mkF m 0 #[.val (.ref a1), .val (.ref a2)] []) by
    obtain ⟨u, o, h1, h2, h3, h4⟩ := hgo
    exact ⟨u, o, castTop (ef_se1 m a1 a2) h1, h2, h3, by rw [hG] at h4; exact h4⟩
  refine Owe.aloadN X0.here hx (hb hby d2_0) rfl rfl ?_
  refine Owe.aloadN X0.here hx (hb hby d2_1) rfl rfl ?_
  refine Owe.iconst X0.here hx (hb hby d2_2) (w := (0 : Int32)) rfl ?_
  refine Owe.aloadN X0.here hx (hb hby d2_3) rfl rfl ?_
  refine Owe.arrlen X0 hx hZ e0 V_a2 (hb hby d2_4) rfl ?_
  refine Owe.aconstNull X0.here hx (hb hby d2_5)  ?_
  refine Owe.specialS X0 hx hZ hS0 hk0 (y := (⟨"java/lang/String", "<init>", "([CIILjava/lang/Void;)V"⟩ : MethodName)) rfl hown1 (mvT hZ (hw _ (List.mem_of_getElem? (i := 7) rfl))) (mvT hZ (hw _ (List.mem_of_getElem? (i := 8) rfl))) (mvT hZ (hw _ (List.mem_of_getElem? (i := 10) rfl))) (by decide) (backOfSH (W := 0) (rmse2 l Z a0 hw [] a1 a2 h0 n0 Z0 E_a1 Fvalue_a1 Fcoder_a1 ge_a1) hZ (hw _ (List.mem_of_getElem? (i := 10) rfl)) (hw _ (List.mem_of_getElem? (i := 2) rfl)) (by decide) (by decide) (own_ew hw) H0) (by rw [hml]; rfl) (a := a1) (argsL := [(.ref a2), (.int (0 : Int32)), (.int (0 : Int32)), .null]) (rest := []) (lenOf pd_0 rfl) rfl (Nat.le_of_ble_eq_true rfl) (hb hby d2_6) rfl e0 (by decide) (by decide) fun T35 v35 L35 X35 hS35 hZ35 hown35 hC35 hQ35 => ?_
  obtain ⟨b1_35, kb1_35, rfl, Nq35, K35, E_a1_35, Fvalue_a1_35, Fcoder_a1_35, V_b1_35⟩ := hQ35
  have N35 := Fr.app N0 Nq35
  have hk36 := Nat.le_trans hk0 K35.1
  have K_37 := K0.trans K35 (allS (Or.inl (List.mem_of_getElem? (i := 0) rfl)) all0)
  have E_a1_38 := E_a1.keep K35
  have V_a2_39 := V_a2.keep K35 (ninS ne_a2_a1 nin0)
  have Z_40 := Nat.le_trans Z0 K35.1
  have sf_a1_35 := CHr.safe hC35 E_a1.lt sf_a1
  have Rr35 := R0.trans hC35
  have H35 := hC35.1
  have hk35 : T35.heap.size ≤ T35.heap.size := Nat.le_refl _
  refine Owe.ret0W X35 hx hS35 rfl hk35 hlk Bd.returns (hb hby d2_9) rfl fun fs hE => ?_
  rw [hG]
  refine ⟨_, _, rfl, ?_, ?_, coldMono hE (by decide) (by decide)⟩
  rotate_left
  · rw [hh]
    show CHr Z own_EL s.vm h0 T35.vm T35.heap
    exact Rr35.trans (CHv.at X35 hZ35 (own_ew hw) H35)
  show Qse1 Z a1 a2 k2 h0 n0 _ T35.heap _
  exact ⟨b1_35, kb1_35, rfl, N35, K_37, E_a1_35, Fvalue_a1_35, Fcoder_a1_35, V_b1_35⟩
theorem d3_0 : decode prog_10_method_1_code 0 = .ok (.aload_n 0, 1) := by decide +kernel
theorem d3_1 : decode prog_10_method_1_code 1 = .ok (.invokespecial 1, 3) := by decide +kernel
theorem d3_4 : decode prog_10_method_1_code 4 = .ok (.aload_n 0, 1) := by decide +kernel
theorem d3_5 : decode prog_10_method_1_code 5 = .ok (.aload_n 1, 1) := by decide +kernel
theorem d3_6 : decode prog_10_method_1_code 6 = .ok (.putfield 7, 3) := by decide +kernel
theorem d3_9 : decode prog_10_method_1_code 9 = .ok (.aload_n 0, 1) := by decide +kernel
theorem d3_10 : decode prog_10_method_1_code 10 = .ok (.aload_n 2, 1) := by decide +kernel
theorem d3_11 : decode prog_10_method_1_code 11 = .ok (.putfield 13, 3) := by decide +kernel
theorem d3_14 : decode prog_10_method_1_code 14 = .ok (.aload_n 0, 1) := by decide +kernel
theorem d3_15 : decode prog_10_method_1_code 15 = .ok (.aload_n 3, 1) := by decide +kernel
theorem d3_16 : decode prog_10_method_1_code 16 = .ok (.putfield 17, 3) := by decide +kernel
theorem d3_19 : decode prog_10_method_1_code 19 = .ok (.return_, 1) := by decide +kernel
theorem pn_ini : plainName "com/example/clotho/clotho/suite/Outcome" = true := by first | (simp [plainName, overriddenIn]; done) | decide +kernel
theorem ef_ini (m : MethodId) (x0 : Addr) (x1 : Addr) (x2 : Addr) (x3 : Addr)  : entryFrame m #[(.ref x0), (.ref x1), (.ref x2), (.ref x3)] 4 = mkF m 0 #[.val (.ref x0), .val (.ref x1), .val (.ref x2), .val (.ref x3)] [] := by first | (simp [entryFrame, mkF, argsToLocals, Value.category]; done) | rfl
def Qini (Z : State) (a1 : Addr) (a2 : Addr) (a3 : Addr) (a4 : Addr) (u_verdict : Value) (u_name : Value) (u_detail : Value) (h0 : Heap) (n0 : Nat) (v : Option Value) (h : Heap) (L : List Loc) : Prop := v = none ∧ Fr n0 L ∧ Keep h0 h [a1] ∧ Exa Z h a1 "com/example/clotho/clotho/suite/Outcome" ∧ Fld Z h a1 "com/example/clotho/clotho/suite/Outcome" "verdict" "Lcom/example/clotho/clotho/suite/Outcome$Verdict;" (.ref a2) ∧ Fld Z h a1 "com/example/clotho/clotho/suite/Outcome" "name" "Ljava/lang/String;" (.ref a3) ∧ Fld Z h a1 "com/example/clotho/clotho/suite/Outcome" "detail" "Ljava/lang/String;" (.ref a4)
set_option maxRecDepth 65536 in
set_option maxHeartbeats 40000000 in
theorem rmini (l : Launch) (Z : State) (a0 : Array Value) (hw : ∀ d ∈ tables_1, d.before a0 Z = true) (ws : List Jvm.Cond) (a1 : Addr) (a2 : Addr) (a3 : Addr) (a4 : Addr) (u_verdict : Value) (u_name : Value) (u_detail : Value) (h0 : Heap) (n0 : Nat) (Z0 : n0 ≤ h0.size) (E_a1 : Exa Z h0 a1 "com/example/clotho/clotho/suite/Outcome") (Fverdict_a1 : Fld Z h0 a1 "com/example/clotho/clotho/suite/Outcome" "verdict" "Lcom/example/clotho/clotho/suite/Outcome$Verdict;" u_verdict) (Fname_a1 : Fld Z h0 a1 "com/example/clotho/clotho/suite/Outcome" "name" "Ljava/lang/String;" u_name) (Fdetail_a1 : Fld Z h0 a1 "com/example/clotho/clotho/suite/Outcome" "detail" "Ljava/lang/String;" u_detail) (ge_a1 : n0 ≤ a1) :
    MetFree l (⟨"com/example/clotho/clotho/suite/Outcome", "<init>", "(Lcom/example/clotho/clotho/suite/Outcome$Verdict;Ljava/lang/String;Ljava/lang/String;)V"⟩ : MethodName) (head1 (Jvm.Cond.code (⟨"com/example/clotho/clotho/suite/Outcome", "<init>", "(Lcom/example/clotho/clotho/suite/Outcome$Verdict;Ljava/lang/String;Ljava/lang/String;)V"⟩ : MethodName) prog_10_method_1_code 4 none :: ws) ({ frames := 2, cells := 0, slots := 0, locals := 24 } : Room)) (fun a U => a = #[(.ref a1), (.ref a2), (.ref a3), (.ref a4)] ∧ Z.Warmed39 U.vm ∧ U.heap = h0) (fun _ _ _ _ _ => True) (fun _ U o U' => ∃ v L, o = .returned v ∧ Qini Z a1 a2 a3 a4 u_verdict u_name u_detail h0 n0 v U'.heap L ∧ FrameEnd U o U' L ({ frames := 2, cells := 0, slots := 0, locals := 24 } : Room).cells ({ frames := 2, cells := 0, slots := 0, locals := 24 } : Room).slots) := by
  refine MetFree.of_bodySF (plainFor_of_name pn_ini) hisR ?_
  intro p e s m args below meth c s₁ Bd hml0 hP hK
  obtain ⟨rfl, hZ, hh⟩ := hP
  have hx := Bd.exec
  have hby := Bd.bytes
  have hml : c.maxLocals = 4 := hml0
  have hown : s.vm.findClass "com/example/clotho/clotho/suite/Outcome" = some m.cls := findClass_of_methodNamed Bd.named
  have hnm := (name_of_methodNamed Bd.named Bd.method).1
  have hlk : meth.locks = false := BodyLoose.notSynchronized Bd
  have X0 : Stand p l e ({ frames := 2, cells := 0, slots := 0, locals := 24 } : Room) s m #[(.ref a1), (.ref a2), (.ref a3), (.ref a4)] below meth c s₁ [] 0 0 := Stand.of_body Bd
  have e0 : s₁.heap = h0 := by rw [← hh, Bd.state]; rfl
  have N0 := Fr.nil n0
  have K0 := Keep.refl h0 [a1]
  obtain ⟨G, hG⟩ : ∃ G : Outcome → State → Prop, G = fun o u => ∃ v L, o = .returned v ∧ Qini Z a1 a2 a3 a4 u_verdict u_name u_detail h0 n0 v u.heap L ∧ FrameEnd s o u L ({ frames := 2, cells := 0, slots := 0, locals := 24 } : Room).cells ({ frames := 2, cells := 0, slots := 0, locals := 24 } : Room).slots := ⟨_, rfl⟩
  suffices hgo : Owe p.tables e below G s₁ (mkF m 0 #[.val (.ref a1), .val (.ref a2), .val (.ref a3), .val (.ref a4)] []) by
    obtain ⟨u, o, h1, h2, h3, h4⟩ := hgo
    exact ⟨u, o, castTop (ef_ini m a1 a2 a3 a4) h1, h2, h3, by rw [hG] at h4; exact h4⟩
  refine Owe.aloadN X0.here hx (hb hby d3_0) rfl rfl ?_
  refine Owe.special X0 hx (y := (⟨"java/lang/Record", "<init>", "()V"⟩ : MethodName)) rfl hown (mvT hZ (hw _ (List.mem_of_getElem? (i := 45) rfl))) (mvT hZ (hw _ (List.mem_of_getElem? (i := 46) rfl))) (mvT hZ (hw _ (List.mem_of_getElem? (i := 49) rfl))) (by decide) (backOf (W := 0) (rmrec l Z a0 hw [] a1 h0 n0 Z0 ) hZ (hw _ (List.mem_of_getElem? (i := 49) rfl)) (hw _ (List.mem_of_getElem? (i := 48) rfl)) (by decide) (by decide)) (by rw [hml]; rfl) (a := a1) (argsL := []) (rest := []) (lenOf pd_1 rfl) rfl (Nat.le_of_ble_eq_true rfl) (hb hby d3_1) rfl e0 (by decide) (by decide) fun T41 v41 L41 X41 hQ41 => ?_
  obtain ⟨rfl, Nq41, e41⟩ := hQ41
  have N41 := Fr.app N0 Nq41
  refine Owe.aloadN X41.here hx (hb hby d3_4) rfl rfl ?_
  refine Owe.aloadN X41.here hx (hb hby d3_5) rfl rfl ?_
  refine Owe.putf X41 hx hZ (host := "") hown (Or.inl (hw _ (List.mem_of_getElem? (i := 51) rfl))) Via.refl e41 Fverdict_a1 E_a1 (Or.inr ⟨(hw _ (List.mem_of_getElem? (i := 52) rfl)), rfl, hnm⟩) (hw _ (List.mem_of_getElem? (i := 38) rfl)) (ty := (.object "com/example/clotho/clotho/suite/Outcome$Verdict")) (by decide) rfl rfl (hb hby d3_6) rfl fun T42 h42 X42 e42 W42 => ?_
  have K_43 := K0.wr W42 (Or.inl (List.mem_of_getElem? (i := 0) rfl))
  have E_a1_44 := E_a1.wr W42
  have Fverdict_a1_45 := Fverdict_a1.same W42
  have Fname_a1_46 := Fname_a1.other W42 (Or.inr (slot_ne (Or.inr (hw _ (List.mem_of_getElem? (i := 54) rfl))) (Or.inr (hw _ (List.mem_of_getElem? (i := 52) rfl))) (by decide) (t := (.object "java/lang/String")) (t' := (.object "com/example/clotho/clotho/suite/Outcome$Verdict")) (by decide) (by decide)))
  have Fdetail_a1_47 := Fdetail_a1.other W42 (Or.inr (slot_ne (Or.inr (hw _ (List.mem_of_getElem? (i := 56) rfl))) (Or.inr (hw _ (List.mem_of_getElem? (i := 52) rfl))) (by decide) (t := (.object "java/lang/String")) (t' := (.object "com/example/clotho/clotho/suite/Outcome$Verdict")) (by decide) (by decide)))
  have Z_48 := Nat.le_trans Z0 (Keep.of_wr W42).1
  have N42 := Fr.snoc X42 N41 ge_a1
  refine Owe.aloadN X42.here hx (hb hby d3_9) rfl rfl ?_
  refine Owe.aloadN X42.here hx (hb hby d3_10) rfl rfl ?_
  refine Owe.putf X42 hx hZ (host := "") hown (Or.inl (hw _ (List.mem_of_getElem? (i := 53) rfl))) Via.refl e42 Fname_a1_46 E_a1_44 (Or.inr ⟨(hw _ (List.mem_of_getElem? (i := 54) rfl)), rfl, hnm⟩) (hw _ (List.mem_of_getElem? (i := 38) rfl)) (ty := (.object "java/lang/String")) (by decide) rfl rfl (hb hby d3_11) rfl fun T49 h49 X49 e49 W49 => ?_
  have K_50 := K_43.wr W49 (Or.inl (List.mem_of_getElem? (i := 0) rfl))
  have E_a1_51 := E_a1_44.wr W49
  have Fverdict_a1_52 := Fverdict_a1_45.other W49 (Or.inr (slot_ne (Or.inr (hw _ (List.mem_of_getElem? (i := 52) rfl))) (Or.inr (hw _ (List.mem_of_getElem? (i := 54) rfl))) (by decide) (t := (.object "com/example/clotho/clotho/suite/Outcome$Verdict")) (t' := (.object "java/lang/String")) (by decide) (by decide)))
  have Fname_a1_53 := Fname_a1_46.same W49
  have Fdetail_a1_54 := Fdetail_a1_47.other W49 (Or.inr (slot_ne (Or.inr (hw _ (List.mem_of_getElem? (i := 56) rfl))) (Or.inr (hw _ (List.mem_of_getElem? (i := 54) rfl))) (by decide) (t := (.object "java/lang/String")) (t' := (.object "java/lang/String")) (by decide) (by decide)))
  have Z_55 := Nat.le_trans Z_48 (Keep.of_wr W49).1
  have N49 := Fr.snoc X49 N42 ge_a1
  refine Owe.aloadN X49.here hx (hb hby d3_14) rfl rfl ?_
  refine Owe.aloadN X49.here hx (hb hby d3_15) rfl rfl ?_
  refine Owe.putf X49 hx hZ (host := "") hown (Or.inl (hw _ (List.mem_of_getElem? (i := 55) rfl))) Via.refl e49 Fdetail_a1_54 E_a1_51 (Or.inr ⟨(hw _ (List.mem_of_getElem? (i := 56) rfl)), rfl, hnm⟩) (hw _ (List.mem_of_getElem? (i := 38) rfl)) (ty := (.object "java/lang/String")) (by decide) rfl rfl (hb hby d3_16) rfl fun T56 h56 X56 e56 W56 => ?_
  have K_57 := K_50.wr W56 (Or.inl (List.mem_of_getElem? (i := 0) rfl))
  have E_a1_58 := E_a1_51.wr W56
  have Fverdict_a1_59 := Fverdict_a1_52.other W56 (Or.inr (slot_ne (Or.inr (hw _ (List.mem_of_getElem? (i := 52) rfl))) (Or.inr (hw _ (List.mem_of_getElem? (i := 56) rfl))) (by decide) (t := (.object "com/example/clotho/clotho/suite/Outcome$Verdict")) (t' := (.object "java/lang/String")) (by decide) (by decide)))
  have Fname_a1_60 := Fname_a1_53.other W56 (Or.inr (slot_ne (Or.inr (hw _ (List.mem_of_getElem? (i := 54) rfl))) (Or.inr (hw _ (List.mem_of_getElem? (i := 56) rfl))) (by decide) (t := (.object "java/lang/String")) (t' := (.object "java/lang/String")) (by decide) (by decide)))
  have Fdetail_a1_61 := Fdetail_a1_54.same W56
  have Z_62 := Nat.le_trans Z_55 (Keep.of_wr W56).1
  have N56 := Fr.snoc X56 N49 ge_a1
  refine Owe.ret0 X56 hx hlk Bd.returns (hb hby d3_19) rfl fun fs hE => ?_
  rw [hG]
  refine ⟨_, _, rfl, ?_, frameMono hE (by decide) (by decide)⟩
  show Qini Z a1 a2 a3 a4 u_verdict u_name u_detail h0 n0 _ T56.heap _
  rw [e56]
  exact ⟨rfl, N56, K_57, E_a1_58, Fverdict_a1_59, Fname_a1_60, Fdetail_a1_61⟩
theorem d4_0 : decode prog_10_method_4_code 0 = .ok (.new 8, 3) := by decide +kernel
theorem d4_3 : decode prog_10_method_4_code 3 = .ok (.dup, 1) := by decide +kernel
theorem d4_4 : decode prog_10_method_4_code 4 = .ok (.getstatic 45, 3) := by decide +kernel
theorem d4_7 : decode prog_10_method_4_code 7 = .ok (.aload_n 0, 1) := by decide +kernel
theorem d4_8 : decode prog_10_method_4_code 8 = .ok (.aload_n 1, 1) := by decide +kernel
theorem d4_9 : decode prog_10_method_4_code 9 = .ok (.invokespecial 25, 3) := by decide +kernel
theorem d4_12 : decode prog_10_method_4_code 12 = .ok (.areturn, 1) := by decide +kernel
theorem pn_skp : plainName "com/example/clotho/clotho/suite/Outcome" = true := by first | (simp [plainName, overriddenIn]; done) | decide +kernel
theorem ef_skp (m : MethodId) (x0 : Addr) (x1 : Addr)  : entryFrame m #[(.ref x0), (.ref x1)] 2 = mkF m 0 #[.val (.ref x0), .val (.ref x1)] [] := by first | (simp [entryFrame, mkF, argsToLocals, Value.category]; done) | rfl
def Qskp (Z : State) (a1 : Addr) (a2 : Addr) (sk : Addr) (h0 : Heap) (n0 : Nat) (v : Option Value) (h : Heap) (L : List Loc) : Prop := ∃ (x1 : Addr), v = some (.ref x1) ∧ Fr n0 L ∧ Keep h0 h [] ∧ n0 ≤ x1 ∧ h0.size ≤ x1 ∧ Exa Z h x1 "com/example/clotho/clotho/suite/Outcome" ∧ Fld Z h x1 "com/example/clotho/clotho/suite/Outcome" "verdict" "Lcom/example/clotho/clotho/suite/Outcome$Verdict;" (.ref sk) ∧ Fld Z h x1 "com/example/clotho/clotho/suite/Outcome" "name" "Ljava/lang/String;" (.ref a1) ∧ Fld Z h x1 "com/example/clotho/clotho/suite/Outcome" "detail" "Ljava/lang/String;" (.ref a2)
set_option maxRecDepth 65536 in
set_option maxHeartbeats 40000000 in
theorem rmskp (l : Launch) (Z : State) (a0 : Array Value) (hw : ∀ d ∈ tables_1, d.before a0 Z = true) (ws : List Jvm.Cond) (a1 : Addr) (a2 : Addr) (sk : Addr) (h0 : Heap) (n0 : Nat) (Z0 : n0 ≤ h0.size) (S_SKIP : Sta Z Z.heap "com/example/clotho/clotho/suite/Outcome$Verdict" "SKIP" "Lcom/example/clotho/clotho/suite/Outcome$Verdict;" (.ref sk)) (Ol : Old Z n0 h0) :
    MetFree l (⟨"com/example/clotho/clotho/suite/Outcome", "skip", "(Ljava/lang/String;Ljava/lang/String;)Lcom/example/clotho/clotho/suite/Outcome;"⟩ : MethodName) (head1 (Jvm.Cond.code (⟨"com/example/clotho/clotho/suite/Outcome", "skip", "(Ljava/lang/String;Ljava/lang/String;)Lcom/example/clotho/clotho/suite/Outcome;"⟩ : MethodName) prog_10_method_4_code 2 (some (.object "com/example/clotho/clotho/suite/Outcome")) :: ws) ({ frames := 3, cells := 1, slots := 3, locals := 40 } : Room)) (fun a U => a = #[(.ref a1), (.ref a2)] ∧ Z.Warmed39 U.vm ∧ U.heap = h0) (fun _ _ _ _ _ => True) (fun _ U o U' => ∃ v L, o = .returned v ∧ Qskp Z a1 a2 sk h0 n0 v U'.heap L ∧ FrameEnd U o U' L ({ frames := 3, cells := 1, slots := 3, locals := 40 } : Room).cells ({ frames := 3, cells := 1, slots := 3, locals := 40 } : Room).slots) := by
  refine MetFree.of_bodySF (plainFor_of_name pn_skp) hisR ?_
  intro p e s m args below meth c s₁ Bd hml0 hP hK
  obtain ⟨rfl, hZ, hh⟩ := hP
  have hx := Bd.exec
  have hby := Bd.bytes
  have hml : c.maxLocals = 2 := hml0
  have hown : s.vm.findClass "com/example/clotho/clotho/suite/Outcome" = some m.cls := findClass_of_methodNamed Bd.named
  have hnm := (name_of_methodNamed Bd.named Bd.method).1
  have hlk : meth.locks = false := BodyLoose.notSynchronized Bd
  have X0 : Stand p l e ({ frames := 3, cells := 1, slots := 3, locals := 40 } : Room) s m #[(.ref a1), (.ref a2)] below meth c s₁ [] 0 0 := Stand.of_body Bd
  have e0 : s₁.heap = h0 := by rw [← hh, Bd.state]; rfl
  have N0 := Fr.nil n0
  have K0 := Keep.refl h0 []
  obtain ⟨G, hG⟩ : ∃ G : Outcome → State → Prop, G = fun o u => ∃ v L, o = .returned v ∧ Qskp Z a1 a2 sk h0 n0 v u.heap L ∧ FrameEnd s o u L ({ frames := 3, cells := 1, slots := 3, locals := 40 } : Room).cells ({ frames := 3, cells := 1, slots := 3, locals := 40 } : Room).slots := ⟨_, rfl⟩
  suffices hgo : Owe p.tables e below G s₁ (mkF m 0 #[.val (.ref a1), .val (.ref a2)] []) by
    obtain ⟨u, o, h1, h2, h3, h4⟩ := hgo
    exact ⟨u, o, castTop (ef_skp m a1 a2) h1, h2, h3, by rw [hG] at h4; exact h4⟩
  refine Owe.new X0 hx hZ hown (hw _ (List.mem_of_getElem? (i := 37) rfl)) (hw _ (List.mem_of_getElem? (i := 38) rfl)) (hw _ (List.mem_of_getElem? (i := 35) rfl)) e0 (hb hby d4_0) (by decide) (by decide) fun T63 h63 b63 g63 X63 e63 E63 A63 D63 => ?_
  have sz_b63 := Nat.le_trans K0.1 (Nat.le_of_eq g63.symm)
  have ge_b63 := Nat.le_trans Z0 (Nat.le_of_eq g63.symm)
  have K_64 := K0.ext E63
  have Ol_65 := Ol.ext E63
  have Z_66 := Nat.le_trans Z0 E63.1
  have Fverdict_b63 : Fld Z h63 b63 "com/example/clotho/clotho/suite/Outcome" "verdict" "Lcom/example/clotho/clotho/suite/Outcome$Verdict;" .null := D63 (Or.inr (hw _ (List.mem_of_getElem? (i := 52) rfl))) (ty := (.object "com/example/clotho/clotho/suite/Outcome$Verdict")) (by decide)
  have Fname_b63 : Fld Z h63 b63 "com/example/clotho/clotho/suite/Outcome" "name" "Ljava/lang/String;" .null := D63 (Or.inr (hw _ (List.mem_of_getElem? (i := 54) rfl))) (ty := (.object "java/lang/String")) (by decide)
  have Fdetail_b63 : Fld Z h63 b63 "com/example/clotho/clotho/suite/Outcome" "detail" "Ljava/lang/String;" .null := D63 (Or.inr (hw _ (List.mem_of_getElem? (i := 56) rfl))) (ty := (.object "java/lang/String")) (by decide)
  refine Owe.dup X63.here hx (hb hby d4_3) rfl rfl ?_
  refine Owe.gets X63 hx hZ hown (hw _ (List.mem_of_getElem? (i := 39) rfl)) Via.refl e63 (S_SKIP.ext Ol_65.2) (hb hby d4_4) fun T67 X67 e67 => ?_
  refine Owe.aloadN X67.here hx (hb hby d4_7) rfl rfl ?_
  refine Owe.aloadN X67.here hx (hb hby d4_8) rfl rfl ?_
  refine Owe.special X67 hx (y := (⟨"com/example/clotho/clotho/suite/Outcome", "<init>", "(Lcom/example/clotho/clotho/suite/Outcome$Verdict;Ljava/lang/String;Ljava/lang/String;)V"⟩ : MethodName)) rfl hown (mvT hZ (hw _ (List.mem_of_getElem? (i := 42) rfl))) (mvT hZ (hw _ (List.mem_of_getElem? (i := 43) rfl))) (mvT hZ (hw _ (List.mem_of_getElem? (i := 44) rfl))) (by decide) (backOf (W := 1) (rmini l Z a0 hw [] b63 sk a1 a2 .null .null .null h63 n0 Z_66 A63 Fverdict_b63 Fname_b63 Fdetail_b63 ge_b63) hZ (hw _ (List.mem_of_getElem? (i := 44) rfl)) (hw _ (List.mem_of_getElem? (i := 35) rfl)) (by decide) (by decide)) (by rw [hml]; rfl) (a := b63) (argsL := [(.ref sk), (.ref a1), (.ref a2)]) (rest := [(.ref b63)]) (lenOf pd_2 rfl) rfl (Nat.le_of_ble_eq_true rfl) (hb hby d4_9) rfl e67 (by decide) (by decide) fun T68 v68 L68 X68 hQ68 => ?_
  obtain ⟨rfl, Nq68, K68, E_a1_68, Fverdict_a1_68, Fname_a1_68, Fdetail_a1_68⟩ := hQ68
  have N68 := Fr.app N0 Nq68
  have K_69 := K_64.trans K68 (allS (Or.inr sz_b63) all0)
  have Ol_70 := Ol_65.keep K68 (allS ge_b63 all0)
  have A63_71 := A63.keep K68
  have Z_72 := Nat.le_trans Z_66 K68.1
  refine Owe.retR X68 hx hlk (t := (.object "com/example/clotho/clotho/suite/Outcome")) Bd.returns rfl rfl rfl (hb hby d4_12) rfl fun fs hE => ?_
  rw [hG]
  refine ⟨_, _, rfl, ?_, frameMono hE (by decide) (by decide)⟩
  show Qskp Z a1 a2 sk h0 n0 _ T68.heap _
  exact ⟨b63, rfl, N68, K_69, ge_b63, sz_b63, E_a1_68, Fverdict_a1_68, Fname_a1_68, Fdetail_a1_68⟩
theorem d5_0 : decode prog_10_method_9_code 0 = .ok (.aload_n 0, 1) := by decide +kernel
theorem d5_1 : decode prog_10_method_9_code 1 = .ok (.getfield 7, 3) := by decide +kernel
theorem d5_4 : decode prog_10_method_9_code 4 = .ok (.areturn, 1) := by decide +kernel
theorem pn_gv : plainName "com/example/clotho/clotho/suite/Outcome" = true := by first | (simp [plainName, overriddenIn]; done) | decide +kernel
theorem ef_gv (m : MethodId) (x0 : Addr)  : entryFrame m #[(.ref x0)] 1 = mkF m 0 #[.val (.ref x0)] [] := by first | (simp [entryFrame, mkF, argsToLocals, Value.category]; done) | rfl
def Qgv (Z : State) (a1 : Addr) (w2 : Addr) (h0 : Heap) (n0 : Nat) (v : Option Value) (h : Heap) (L : List Loc) : Prop := v = some (.ref w2) ∧ Fr n0 L ∧ h = h0
set_option maxRecDepth 65536 in
set_option maxHeartbeats 40000000 in
theorem rmgv (l : Launch) (Z : State) (a0 : Array Value) (hw : ∀ d ∈ tables_1, d.before a0 Z = true) (ws : List Jvm.Cond) (a1 : Addr) (w2 : Addr) (h0 : Heap) (n0 : Nat) (Z0 : n0 ≤ h0.size) (Fverdict_a1 : Fld Z h0 a1 "com/example/clotho/clotho/suite/Outcome" "verdict" "Lcom/example/clotho/clotho/suite/Outcome$Verdict;" (.ref w2)) :
    MetFree l (⟨"com/example/clotho/clotho/suite/Outcome", "verdict", "()Lcom/example/clotho/clotho/suite/Outcome$Verdict;"⟩ : MethodName) (head1 (Jvm.Cond.code (⟨"com/example/clotho/clotho/suite/Outcome", "verdict", "()Lcom/example/clotho/clotho/suite/Outcome$Verdict;"⟩ : MethodName) prog_10_method_9_code 1 (some (.object "com/example/clotho/clotho/suite/Outcome$Verdict")) :: ws) ({ frames := 0, cells := 0, slots := 0, locals := 0 } : Room)) (fun a U => a = #[(.ref a1)] ∧ Z.Warmed39 U.vm ∧ U.heap = h0) (fun _ _ _ _ _ => True) (fun _ U o U' => ∃ v L, o = .returned v ∧ Qgv Z a1 w2 h0 n0 v U'.heap L ∧ FrameEnd U o U' L ({ frames := 0, cells := 0, slots := 0, locals := 0 } : Room).cells ({ frames := 0, cells := 0, slots := 0, locals := 0 } : Room).slots) := by
  refine MetFree.of_bodySF (plainFor_of_name pn_gv) hisR ?_
  intro p e s m args below meth c s₁ Bd hml0 hP hK
  obtain ⟨rfl, hZ, hh⟩ := hP
  have hx := Bd.exec
  have hby := Bd.bytes
  have hml : c.maxLocals = 1 := hml0
  have hown : s.vm.findClass "com/example/clotho/clotho/suite/Outcome" = some m.cls := findClass_of_methodNamed Bd.named
  have hnm := (name_of_methodNamed Bd.named Bd.method).1
  have hlk : meth.locks = false := BodyLoose.notSynchronized Bd
  have X0 : Stand p l e ({ frames := 0, cells := 0, slots := 0, locals := 0 } : Room) s m #[(.ref a1)] below meth c s₁ [] 0 0 := Stand.of_body Bd
  have e0 : s₁.heap = h0 := by rw [← hh, Bd.state]; rfl
  have N0 := Fr.nil n0
  obtain ⟨G, hG⟩ : ∃ G : Outcome → State → Prop, G = fun o u => ∃ v L, o = .returned v ∧ Qgv Z a1 w2 h0 n0 v u.heap L ∧ FrameEnd s o u L ({ frames := 0, cells := 0, slots := 0, locals := 0 } : Room).cells ({ frames := 0, cells := 0, slots := 0, locals := 0 } : Room).slots := ⟨_, rfl⟩
  suffices hgo : Owe p.tables e below G s₁ (mkF m 0 #[.val (.ref a1)] []) by
    obtain ⟨u, o, h1, h2, h3, h4⟩ := hgo
    exact ⟨u, o, castTop (ef_gv m a1) h1, h2, h3, by rw [hG] at h4; exact h4⟩
  refine Owe.aloadN X0.here hx (hb hby d5_0) rfl rfl ?_
  refine Owe.getf X0 hx hZ (host := "") hown (Or.inl (hw _ (List.mem_of_getElem? (i := 51) rfl))) Via.refl e0 Fverdict_a1 (hb hby d5_1) rfl fun T73 X73 e73 => ?_
  refine Owe.retR X73 hx hlk (t := (.object "com/example/clotho/clotho/suite/Outcome$Verdict")) Bd.returns rfl rfl rfl (hb hby d5_4) rfl fun fs hE => ?_
  rw [hG]
  refine ⟨_, _, rfl, ?_, frameMono hE (by decide) (by decide)⟩
  show Qgv Z a1 w2 h0 n0 _ T73.heap _
  rw [e73]
  exact ⟨rfl, N0, rfl⟩
theorem d6_0 : decode prog_10_method_10_code 0 = .ok (.aload_n 0, 1) := by decide +kernel
theorem d6_1 : decode prog_10_method_10_code 1 = .ok (.getfield 13, 3) := by decide +kernel
theorem d6_4 : decode prog_10_method_10_code 4 = .ok (.areturn, 1) := by decide +kernel
theorem pn_gn : plainName "com/example/clotho/clotho/suite/Outcome" = true := by first | (simp [plainName, overriddenIn]; done) | decide +kernel
theorem ef_gn (m : MethodId) (x0 : Addr)  : entryFrame m #[(.ref x0)] 1 = mkF m 0 #[.val (.ref x0)] [] := by first | (simp [entryFrame, mkF, argsToLocals, Value.category]; done) | rfl
def Qgn (Z : State) (a1 : Addr) (w2 : Addr) (h0 : Heap) (n0 : Nat) (v : Option Value) (h : Heap) (L : List Loc) : Prop := v = some (.ref w2) ∧ Fr n0 L ∧ h = h0
set_option maxRecDepth 65536 in
set_option maxHeartbeats 40000000 in
theorem rmgn (l : Launch) (Z : State) (a0 : Array Value) (hw : ∀ d ∈ tables_1, d.before a0 Z = true) (ws : List Jvm.Cond) (a1 : Addr) (w2 : Addr) (h0 : Heap) (n0 : Nat) (Z0 : n0 ≤ h0.size) (Fname_a1 : Fld Z h0 a1 "com/example/clotho/clotho/suite/Outcome" "name" "Ljava/lang/String;" (.ref w2)) :
    MetFree l (⟨"com/example/clotho/clotho/suite/Outcome", "name", "()Ljava/lang/String;"⟩ : MethodName) (head1 (Jvm.Cond.code (⟨"com/example/clotho/clotho/suite/Outcome", "name", "()Ljava/lang/String;"⟩ : MethodName) prog_10_method_10_code 1 (some (.object "java/lang/String")) :: ws) ({ frames := 0, cells := 0, slots := 0, locals := 0 } : Room)) (fun a U => a = #[(.ref a1)] ∧ Z.Warmed39 U.vm ∧ U.heap = h0) (fun _ _ _ _ _ => True) (fun _ U o U' => ∃ v L, o = .returned v ∧ Qgn Z a1 w2 h0 n0 v U'.heap L ∧ FrameEnd U o U' L ({ frames := 0, cells := 0, slots := 0, locals := 0 } : Room).cells ({ frames := 0, cells := 0, slots := 0, locals := 0 } : Room).slots) := by
  refine MetFree.of_bodySF (plainFor_of_name pn_gn) hisR ?_
  intro p e s m args below meth c s₁ Bd hml0 hP hK
  obtain ⟨rfl, hZ, hh⟩ := hP
  have hx := Bd.exec
  have hby := Bd.bytes
  have hml : c.maxLocals = 1 := hml0
  have hown : s.vm.findClass "com/example/clotho/clotho/suite/Outcome" = some m.cls := findClass_of_methodNamed Bd.named
  have hnm := (name_of_methodNamed Bd.named Bd.method).1
  have hlk : meth.locks = false := BodyLoose.notSynchronized Bd
  have X0 : Stand p l e ({ frames := 0, cells := 0, slots := 0, locals := 0 } : Room) s m #[(.ref a1)] below meth c s₁ [] 0 0 := Stand.of_body Bd
  have e0 : s₁.heap = h0 := by rw [← hh, Bd.state]; rfl
  have N0 := Fr.nil n0
  obtain ⟨G, hG⟩ : ∃ G : Outcome → State → Prop, G = fun o u => ∃ v L, o = .returned v ∧ Qgn Z a1 w2 h0 n0 v u.heap L ∧ FrameEnd s o u L ({ frames := 0, cells := 0, slots := 0, locals := 0 } : Room).cells ({ frames := 0, cells := 0, slots := 0, locals := 0 } : Room).slots := ⟨_, rfl⟩
  suffices hgo : Owe p.tables e below G s₁ (mkF m 0 #[.val (.ref a1)] []) by
    obtain ⟨u, o, h1, h2, h3, h4⟩ := hgo
    exact ⟨u, o, castTop (ef_gn m a1) h1, h2, h3, by rw [hG] at h4; exact h4⟩
  refine Owe.aloadN X0.here hx (hb hby d6_0) rfl rfl ?_
  refine Owe.getf X0 hx hZ (host := "") hown (Or.inl (hw _ (List.mem_of_getElem? (i := 53) rfl))) Via.refl e0 Fname_a1 (hb hby d6_1) rfl fun T74 X74 e74 => ?_
  refine Owe.retR X74 hx hlk (t := (.object "java/lang/String")) Bd.returns rfl rfl rfl (hb hby d6_4) rfl fun fs hE => ?_
  rw [hG]
  refine ⟨_, _, rfl, ?_, frameMono hE (by decide) (by decide)⟩
  show Qgn Z a1 w2 h0 n0 _ T74.heap _
  rw [e74]
  exact ⟨rfl, N0, rfl⟩
theorem d7_0 : decode prog_10_method_11_code 0 = .ok (.aload_n 0, 1) := by decide +kernel
theorem d7_1 : decode prog_10_method_11_code 1 = .ok (.getfield 17, 3) := by decide +kernel
theorem d7_4 : decode prog_10_method_11_code 4 = .ok (.areturn, 1) := by decide +kernel
theorem pn_gd : plainName "com/example/clotho/clotho/suite/Outcome" = true := by first | (simp [plainName, overriddenIn]; done) | decide +kernel
theorem ef_gd (m : MethodId) (x0 : Addr)  : entryFrame m #[(.ref x0)] 1 = mkF m 0 #[.val (.ref x0)] [] := by first | (simp [entryFrame, mkF, argsToLocals, Value.category]; done) | rfl
def Qgd (Z : State) (a1 : Addr) (w2 : Addr) (h0 : Heap) (n0 : Nat) (v : Option Value) (h : Heap) (L : List Loc) : Prop := v = some (.ref w2) ∧ Fr n0 L ∧ h = h0
set_option maxRecDepth 65536 in
set_option maxHeartbeats 40000000 in
theorem rmgd (l : Launch) (Z : State) (a0 : Array Value) (hw : ∀ d ∈ tables_1, d.before a0 Z = true) (ws : List Jvm.Cond) (a1 : Addr) (w2 : Addr) (h0 : Heap) (n0 : Nat) (Z0 : n0 ≤ h0.size) (Fdetail_a1 : Fld Z h0 a1 "com/example/clotho/clotho/suite/Outcome" "detail" "Ljava/lang/String;" (.ref w2)) :
    MetFree l (⟨"com/example/clotho/clotho/suite/Outcome", "detail", "()Ljava/lang/String;"⟩ : MethodName) (head1 (Jvm.Cond.code (⟨"com/example/clotho/clotho/suite/Outcome", "detail", "()Ljava/lang/String;"⟩ : MethodName) prog_10_method_11_code 1 (some (.object "java/lang/String")) :: ws) ({ frames := 0, cells := 0, slots := 0, locals := 0 } : Room)) (fun a U => a = #[(.ref a1)] ∧ Z.Warmed39 U.vm ∧ U.heap = h0) (fun _ _ _ _ _ => True) (fun _ U o U' => ∃ v L, o = .returned v ∧ Qgd Z a1 w2 h0 n0 v U'.heap L ∧ FrameEnd U o U' L ({ frames := 0, cells := 0, slots := 0, locals := 0 } : Room).cells ({ frames := 0, cells := 0, slots := 0, locals := 0 } : Room).slots) := by
  refine MetFree.of_bodySF (plainFor_of_name pn_gd) hisR ?_
  intro p e s m args below meth c s₁ Bd hml0 hP hK
  obtain ⟨rfl, hZ, hh⟩ := hP
  have hx := Bd.exec
  have hby := Bd.bytes
  have hml : c.maxLocals = 1 := hml0
  have hown : s.vm.findClass "com/example/clotho/clotho/suite/Outcome" = some m.cls := findClass_of_methodNamed Bd.named
  have hnm := (name_of_methodNamed Bd.named Bd.method).1
  have hlk : meth.locks = false := BodyLoose.notSynchronized Bd
  have X0 : Stand p l e ({ frames := 0, cells := 0, slots := 0, locals := 0 } : Room) s m #[(.ref a1)] below meth c s₁ [] 0 0 := Stand.of_body Bd
  have e0 : s₁.heap = h0 := by rw [← hh, Bd.state]; rfl
  have N0 := Fr.nil n0
  obtain ⟨G, hG⟩ : ∃ G : Outcome → State → Prop, G = fun o u => ∃ v L, o = .returned v ∧ Qgd Z a1 w2 h0 n0 v u.heap L ∧ FrameEnd s o u L ({ frames := 0, cells := 0, slots := 0, locals := 0 } : Room).cells ({ frames := 0, cells := 0, slots := 0, locals := 0 } : Room).slots := ⟨_, rfl⟩
  suffices hgo : Owe p.tables e below G s₁ (mkF m 0 #[.val (.ref a1)] []) by
    obtain ⟨u, o, h1, h2, h3, h4⟩ := hgo
    exact ⟨u, o, castTop (ef_gd m a1) h1, h2, h3, by rw [hG] at h4; exact h4⟩
  refine Owe.aloadN X0.here hx (hb hby d7_0) rfl rfl ?_
  refine Owe.getf X0 hx hZ (host := "") hown (Or.inl (hw _ (List.mem_of_getElem? (i := 55) rfl))) Via.refl e0 Fdetail_a1 (hb hby d7_1) rfl fun T75 X75 e75 => ?_
  refine Owe.retR X75 hx hlk (t := (.object "java/lang/String")) Bd.returns rfl rfl rfl (hb hby d7_4) rfl fun fs hE => ?_
  rw [hG]
  refine ⟨_, _, rfl, ?_, frameMono hE (by decide) (by decide)⟩
  show Qgd Z a1 w2 h0 n0 _ T75.heap _
  rw [e75]
  exact ⟨rfl, N0, rfl⟩
theorem d8_0 : decode jdk_42_method_66_code 0 = .ok (.aload_n 0, 1) := by decide +kernel
theorem d8_1 : decode jdk_42_method_66_code 1 = .ok (.aload_n 1, 1) := by decide +kernel
theorem d8_2 : decode jdk_42_method_66_code 2 = .ok (.if_acmp .ne 5, 3) := by decide +kernel
theorem d8_5 : decode jdk_42_method_66_code 5 = .ok (.iconst 1, 1) := by decide +kernel
theorem d8_6 : decode jdk_42_method_66_code 6 = .ok (.ireturn, 1) := by decide +kernel
theorem d8_7 : decode jdk_42_method_66_code 7 = .ok (.aload_n 1, 1) := by decide +kernel
theorem d8_8 : decode jdk_42_method_66_code 8 = .ok (.instanceof 10, 3) := by decide +kernel
theorem d8_11 : decode jdk_42_method_66_code 11 = .ok (.ifCond .eq 43, 3) := by decide +kernel
theorem d8_14 : decode jdk_42_method_66_code 14 = .ok (.aload_n 1, 1) := by decide +kernel
theorem d8_15 : decode jdk_42_method_66_code 15 = .ok (.checkcast 10, 3) := by decide +kernel
theorem d8_18 : decode jdk_42_method_66_code 18 = .ok (.astore_n 2, 1) := by decide +kernel
theorem d8_19 : decode jdk_42_method_66_code 19 = .ok (.getstatic 38, 3) := by decide +kernel
theorem d8_22 : decode jdk_42_method_66_code 22 = .ok (.ifCond .eq 14, 3) := by decide +kernel
theorem d8_25 : decode jdk_42_method_66_code 25 = .ok (.aload_n 0, 1) := by decide +kernel
theorem d8_26 : decode jdk_42_method_66_code 26 = .ok (.getfield 15, 3) := by decide +kernel
theorem d8_29 : decode jdk_42_method_66_code 29 = .ok (.aload_n 2, 1) := by decide +kernel
theorem d8_30 : decode jdk_42_method_66_code 30 = .ok (.getfield 15, 3) := by decide +kernel
theorem d8_33 : decode jdk_42_method_66_code 33 = .ok (.if_icmp .ne 21, 3) := by decide +kernel
theorem d8_36 : decode jdk_42_method_66_code 36 = .ok (.aload_n 0, 1) := by decide +kernel
theorem d8_37 : decode jdk_42_method_66_code 37 = .ok (.getfield 9, 3) := by decide +kernel
theorem d8_40 : decode jdk_42_method_66_code 40 = .ok (.aload_n 2, 1) := by decide +kernel
theorem d8_41 : decode jdk_42_method_66_code 41 = .ok (.getfield 9, 3) := by decide +kernel
theorem d8_44 : decode jdk_42_method_66_code 44 = .ok (.invokestatic 541, 3) := by decide +kernel
theorem d8_47 : decode jdk_42_method_66_code 47 = .ok (.ifCond .eq 7, 3) := by decide +kernel
theorem d8_50 : decode jdk_42_method_66_code 50 = .ok (.iconst 1, 1) := by decide +kernel
theorem d8_51 : decode jdk_42_method_66_code 51 = .ok (.goto 4, 3) := by decide +kernel
theorem d8_54 : decode jdk_42_method_66_code 54 = .ok (.iconst 0, 1) := by decide +kernel
theorem d8_55 : decode jdk_42_method_66_code 55 = .ok (.ireturn, 1) := by decide +kernel
theorem pn_eqs : plainName "java/lang/String" = true := by first | (simp [plainName, overriddenIn]; done) | decide +kernel
theorem ef_eqs (m : MethodId) (x0 : Addr) (x1 : Addr)  : entryFrame m #[(.ref x0), (.ref x1)] 3 = mkF m 0 #[.val (.ref x0), .val (.ref x1), .unset] [] := by first | (simp [entryFrame, mkF, argsToLocals, Value.category]; done) | rfl
def Qeqs (Z : State) (a1 : Addr) (h0 : Heap) (n0 : Nat) (v : Option Value) (h : Heap) (L : List Loc) : Prop := v = some (.int (1 : Int32)) ∧ Fr n0 L ∧ h = h0
set_option maxRecDepth 65536 in
set_option maxHeartbeats 40000000 in
theorem rmeqs (l : Launch) (Z : State) (a0 : Array Value) (hw : ∀ d ∈ tables_1, d.before a0 Z = true) (ws : List Jvm.Cond) (a1 : Addr) (h0 : Heap) (n0 : Nat) (Z0 : n0 ≤ h0.size)  :
    MetFree l (⟨"java/lang/String", "equals", "(Ljava/lang/Object;)Z"⟩ : MethodName) (head1 (Jvm.Cond.code (⟨"java/lang/String", "equals", "(Ljava/lang/Object;)Z"⟩ : MethodName) jdk_42_method_66_code 3 (some .boolean) :: ws) ({ frames := 0, cells := 0, slots := 0, locals := 0 } : Room)) (fun a U => a = #[(.ref a1), (.ref a1)] ∧ Z.Warmed39 U.vm ∧ U.heap = h0) (fun _ _ _ _ _ => True) (fun _ U o U' => ∃ v L, o = .returned v ∧ Qeqs Z a1 h0 n0 v U'.heap L ∧ FrameEnd U o U' L ({ frames := 0, cells := 0, slots := 0, locals := 0 } : Room).cells ({ frames := 0, cells := 0, slots := 0, locals := 0 } : Room).slots) := by
  refine MetFree.of_bodySF (plainFor_of_name pn_eqs) hisR ?_
  intro p e s m args below meth c s₁ Bd hml0 hP hK
  obtain ⟨rfl, hZ, hh⟩ := hP
  have hx := Bd.exec
  have hby := Bd.bytes
  have hml : c.maxLocals = 3 := hml0
  have hown : s.vm.findClass "java/lang/String" = some m.cls := findClass_of_methodNamed Bd.named
  have hnm := (name_of_methodNamed Bd.named Bd.method).1
  have hlk : meth.locks = false := BodyLoose.notSynchronized Bd
  have X0 : Stand p l e ({ frames := 0, cells := 0, slots := 0, locals := 0 } : Room) s m #[(.ref a1), (.ref a1)] below meth c s₁ [] 0 0 := Stand.of_body Bd
  have e0 : s₁.heap = h0 := by rw [← hh, Bd.state]; rfl
  have N0 := Fr.nil n0
  obtain ⟨G, hG⟩ : ∃ G : Outcome → State → Prop, G = fun o u => ∃ v L, o = .returned v ∧ Qeqs Z a1 h0 n0 v u.heap L ∧ FrameEnd s o u L ({ frames := 0, cells := 0, slots := 0, locals := 0 } : Room).cells ({ frames := 0, cells := 0, slots := 0, locals := 0 } : Room).slots := ⟨_, rfl⟩
  suffices hgo : Owe p.tables e below G s₁ (mkF m 0 #[.val (.ref a1), .val (.ref a1), .unset] []) by
    obtain ⟨u, o, h1, h2, h3, h4⟩ := hgo
    exact ⟨u, o, castTop (ef_eqs m a1 a1) h1, h2, h3, by rw [hG] at h4; exact h4⟩
  refine Owe.aloadN X0.here hx (hb hby d8_0) rfl rfl ?_
  refine Owe.aloadN X0.here hx (hb hby d8_1) rfl rfl ?_
  refine Owe.acmpNo X0.here hx (hb hby d8_2) rfl rfl rfl (by simp [Jvm.Free.XT.acmp]) ?_
  refine Owe.iconst X0.here hx (hb hby d8_5) (w := (1 : Int32)) rfl ?_
  refine Owe.retN X0 hx hlk (t := .boolean) Bd.returns (by simp) (hb hby d8_6) rfl fun fs hE => ?_
  rw [hG]
  refine ⟨_, _, rfl, ?_, frameMono hE (by decide) (by decide)⟩
  show Qeqs Z a1 h0 n0 _ s₁.heap _
  rw [e0]
  exact ⟨rfl, N0, rfl⟩
theorem d9_0 : decode method_2_code 0 = .ok (.aload_n 0, 1) := by decide +kernel
theorem d9_1 : decode method_2_code 1 = .ok (.ifnonnull 5, 3) := by decide +kernel
theorem d9_4 : decode method_2_code 4 = .ok (.iconst 0, 1) := by decide +kernel
theorem d9_5 : decode method_2_code 5 = .ok (.ireturn, 1) := by decide +kernel
theorem d9_6 : decode method_2_code 6 = .ok (.aload_n 0, 1) := by decide +kernel
theorem d9_7 : decode method_2_code 7 = .ok (.aload_n 1, 1) := by decide +kernel
theorem d9_8 : decode method_2_code 8 = .ok (.invokevirtual 7, 3) := by decide +kernel
theorem d9_11 : decode method_2_code 11 = .ok (.ireturn, 1) := by decide +kernel
theorem pn_sam : plainName "com/example/clotho/clotho/suite/OutcomeSkipPinLaw" = true := by first | (simp [plainName, overriddenIn]; done) | decide +kernel
theorem ef_sam (m : MethodId) (x0 : Addr) (x1 : Addr)  : entryFrame m #[(.ref x0), (.ref x1)] 2 = mkF m 0 #[.val (.ref x0), .val (.ref x1)] [] := by first | (simp [entryFrame, mkF, argsToLocals, Value.category]; done) | rfl
def Qsam (Z : State) (a1 : Addr) (h0 : Heap) (n0 : Nat) (v : Option Value) (h : Heap) (L : List Loc) : Prop := v = some (.int (1 : Int32)) ∧ Fr n0 L ∧ h = h0
set_option maxRecDepth 65536 in
set_option maxHeartbeats 40000000 in
theorem rmsam (l : Launch) (Z : State) (a0 : Array Value) (hw : ∀ d ∈ tables_1, d.before a0 Z = true) (ws : List Jvm.Cond) (a1 : Addr) (h0 : Heap) (n0 : Nat) (Z0 : n0 ≤ h0.size) (E_a1 : Exa Z h0 a1 "java/lang/String") :
    MetFree l (⟨"com/example/clotho/clotho/suite/OutcomeSkipPinLaw", "same", "(Ljava/lang/String;Ljava/lang/String;)Z"⟩ : MethodName) (head1 (Jvm.Cond.code (⟨"com/example/clotho/clotho/suite/OutcomeSkipPinLaw", "same", "(Ljava/lang/String;Ljava/lang/String;)Z"⟩ : MethodName) method_2_code 2 (some .boolean) :: ws) ({ frames := 1, cells := 0, slots := 0, locals := 14 } : Room)) (fun a U => a = #[(.ref a1), (.ref a1)] ∧ Z.Warmed39 U.vm ∧ U.heap = h0) (fun _ _ _ _ _ => True) (fun _ U o U' => ∃ v L, o = .returned v ∧ Qsam Z a1 h0 n0 v U'.heap L ∧ FrameEnd U o U' L ({ frames := 1, cells := 0, slots := 0, locals := 14 } : Room).cells ({ frames := 1, cells := 0, slots := 0, locals := 14 } : Room).slots) := by
  refine MetFree.of_bodySF (plainFor_of_name pn_sam) hisR ?_
  intro p e s m args below meth c s₁ Bd hml0 hP hK
  obtain ⟨rfl, hZ, hh⟩ := hP
  have hx := Bd.exec
  have hby := Bd.bytes
  have hml : c.maxLocals = 2 := hml0
  have hown : s.vm.findClass "com/example/clotho/clotho/suite/OutcomeSkipPinLaw" = some m.cls := findClass_of_methodNamed Bd.named
  have hnm := (name_of_methodNamed Bd.named Bd.method).1
  have hlk : meth.locks = false := BodyLoose.notSynchronized Bd
  have X0 : Stand p l e ({ frames := 1, cells := 0, slots := 0, locals := 14 } : Room) s m #[(.ref a1), (.ref a1)] below meth c s₁ [] 0 0 := Stand.of_body Bd
  have e0 : s₁.heap = h0 := by rw [← hh, Bd.state]; rfl
  have N0 := Fr.nil n0
  obtain ⟨G, hG⟩ : ∃ G : Outcome → State → Prop, G = fun o u => ∃ v L, o = .returned v ∧ Qsam Z a1 h0 n0 v u.heap L ∧ FrameEnd s o u L ({ frames := 1, cells := 0, slots := 0, locals := 14 } : Room).cells ({ frames := 1, cells := 0, slots := 0, locals := 14 } : Room).slots := ⟨_, rfl⟩
  suffices hgo : Owe p.tables e below G s₁ (mkF m 0 #[.val (.ref a1), .val (.ref a1)] []) by
    obtain ⟨u, o, h1, h2, h3, h4⟩ := hgo
    exact ⟨u, o, castTop (ef_sam m a1 a1) h1, h2, h3, by rw [hG] at h4; exact h4⟩
  refine Owe.aloadN X0.here hx (hb hby d9_0) rfl rfl ?_
  refine Owe.ifnonnullYes X0.here hx (hb hby d9_1) rfl (pc' := 6) (by decide) (by decide) ?_
  refine Owe.aloadN X0.here hx (hb hby d9_6) rfl rfl ?_
  refine Owe.aloadN X0.here hx (hb hby d9_7) rfl rfl ?_
  refine Owe.virt X0 hx hZ (y := (⟨"java/lang/String", "equals", "(Ljava/lang/Object;)Z"⟩ : MethodName)) (z := (⟨"java/lang/String", "equals", "(Ljava/lang/Object;)Z"⟩ : MethodName)) hown (mvT hZ (hw _ (List.mem_of_getElem? (i := 72) rfl))) (mvT hZ (hw _ (List.mem_of_getElem? (i := 73) rfl))) (mvT hZ (hw _ (List.mem_of_getElem? (i := 75) rfl))) (mvT hZ (hw _ (List.mem_of_getElem? (i := 74) rfl))) (notFace_of_selects (args := #[]) (mvT hZ (hw _ (List.mem_of_getElem? (i := 75) rfl)))) (by decide) (backOf (W := 0) (rmeqs l Z a0 hw [] a1 h0 n0 Z0 ) hZ (hw _ (List.mem_of_getElem? (i := 76) rfl)) (hw _ (List.mem_of_getElem? (i := 2) rfl)) (by decide) (by decide)) (by rw [hml]; rfl) (a := a1) (argsL := [(.ref a1)]) (rest := []) E_a1 (lenOf pd_3 rfl) rfl (Nat.le_of_ble_eq_true rfl) (hb hby d9_8) rfl e0 (by decide) (by decide) fun T76 v76 L76 X76 hQ76 => ?_
  obtain ⟨rfl, Nq76, e76⟩ := hQ76
  have N76 := Fr.app N0 Nq76
  refine Owe.retN X76 hx hlk (t := .boolean) Bd.returns (by simp) (hb hby d9_11) rfl fun fs hE => ?_
  rw [hG]
  refine ⟨_, _, rfl, ?_, frameMono hE (by decide) (by decide)⟩
  show Qsam Z a1 h0 n0 _ T76.heap _
  rw [e76]
  exact ⟨rfl, N76, rfl⟩
theorem pn_0 : plainName "com/example/clotho/clotho/suite/OutcomeSkipPinLaw" = true := by first | (simp [plainName, overriddenIn]; done) | decide +kernel
theorem ef_0 (m : MethodId) (x0 : Int32) (x1 : Int32) (x2 : Int32)  : entryFrame m #[(.int x0), (.int x1), (.int x2)] maxLocals = mkF m 0 #[.val (.int x0), .val (.int x1), .val (.int x2), .unset, .unset, .unset] [] := by first | (simp [entryFrame, mkF, argsToLocals, Value.category, maxLocals]; done) | rfl
def Q0 (Z : State) (p1 : Int32) (p2 : Int32) (p3 : Int32) (G1 : Int32) (sk : Addr) (h0 : Heap) (n0 : Nat) (v : Option Value) (h : Heap) (L : List Loc) : Prop := v = some (.int 1) ∧ Fr n0 L
set_option maxRecDepth 65536 in
set_option maxHeartbeats 40000000 in
theorem rm0 (l : Launch) (Z : State) (a0 : Array Value) (hw : ∀ d ∈ tables_1, d.before a0 Z = true) (ws : List Jvm.Cond) (p1 : Int32) (p2 : Int32) (p3 : Int32) (G1 : Int32) (sk : Addr) (h0 : Heap) (n0 : Nat) (Z0 : n0 ≤ h0.size) (S_COMPACT_STRINGS : Sta Z Z.heap "java/lang/String" "COMPACT_STRINGS" "Z" (.int G1)) (cs0 : ¬ (G1 = (0 : Int32))) (Ol : Old Z n0 h0) (S_SKIP : Sta Z Z.heap "com/example/clotho/clotho/suite/Outcome$Verdict" "SKIP" "Lcom/example/clotho/clotho/suite/Outcome$Verdict;" (.ref sk)) (E_sk : Exa Z h0 sk "com/example/clotho/clotho/suite/Outcome$Verdict") :
    MetFree l x (head1 (Jvm.Cond.code x code maxLocals ret :: ws) room_1) (fun a U => a = #[(.int p1), (.int p2), (.int p3)] ∧ Z.Warmed39 U.vm ∧ U.heap = h0 ∧ CHv Z own_EL U.vm h0) (fun _ _ _ _ _ => True) (fun _ U o U' => ∃ v L, o = .returned v ∧ Q0 Z p1 p2 p3 G1 sk h0 n0 v U'.heap L ∧ CHr Z own_EL U.vm U.heap U'.vm U'.heap ∧ ReturnedEndW U o U' L room_1.cells room_1.slots) := by
  refine MetFree.of_bodySF (plainFor_of_name pn_0) hisR ?_
  intro p e s m args below meth c s₁ Bd hml0 hP hK
  obtain ⟨rfl, hZ0, hh, H0⟩ := hP
  have hx := Bd.exec
  have hby := Bd.bytes
  have hml : c.maxLocals = 6 := hml0
  have hown : s.vm.findClass "com/example/clotho/clotho/suite/OutcomeSkipPinLaw" = some m.cls := findClass_of_methodNamed Bd.named
  have hnm := (name_of_methodNamed Bd.named Bd.method).1
  have hlk : meth.locks = false := BodyLoose.notSynchronized Bd
  have X0 : Stand p l e room_1 (s.setVm s.vm) m #[(.int p1), (.int p2), (.int p3)] below meth c s₁ [] 0 0 := Stand.of_body Bd
  have e0 : s₁.heap = h0 := by rw [← hh, Bd.state]; rfl
  have N0 := Fr.nil n0
  have hZ : Z.Warmed39 (s.setVm s.vm).vm := hZ0
  have hown1 : (s.setVm s.vm).vm.findClass "com/example/clotho/clotho/suite/OutcomeSkipPinLaw" = some m.cls := hown
  have hS0 : s.Since s.vm 0 := (State.WarmedH.refl s).since 0
  have hk0 : 0 ≤ h0.size := Nat.zero_le _
  have R0 : CHr Z own_EL s.vm h0 s.vm h0 := CHr.refl H0
  obtain ⟨G, hG⟩ : ∃ G : Outcome → State → Prop, G = fun o u => ∃ v L, o = .returned v ∧ Q0 Z p1 p2 p3 G1 sk h0 n0 v u.heap L ∧ CHr Z own_EL s.vm s.heap u.vm u.heap ∧ ReturnedEndW s o u L room_1.cells room_1.slots := ⟨_, rfl⟩
  suffices hgo : Owe p.tables e below G s₁ (mkF m 0 #[.val (.int p1), .val (.int p2), .val (.int p3), .unset, .unset, .unset] []) by
    obtain ⟨u, o, h1, h2, h3, h4⟩ := hgo
    exact ⟨u, o, castTop (ef_0 m p1 p2 p3) h1, h2, h3, by rw [hG] at h4; exact h4⟩
  have hws : ∀ d ∈ StrChars.Road.words, d.before a0 Z = true := fun d hd => hw d (own_words d hd)
  refine Owe.iloadN X0.here hx (hb hby at_0) rfl ?_
  refine Owe.iconst X0.here hx (hb hby at_1) (w := (1 : Int32)) rfl ?_
  refine Owe.iand X0.here hx (hb hby at_2) rfl ?_
  by_cases hc3_77 : (p3 &&& (1 : Int32)) = (0 : Int32)
  · skip
    refine Owe.ifYes X0.here hx (hb hby at_3) rfl ((if0 _ _).trans (teq hc3_77).1) (pc' := 20) (by decide) (by decide) ?_
    refine Owe.new X0 hx hZ hown1 (hw _ (List.mem_of_getElem? (i := 0) rfl)) (hw _ (List.mem_of_getElem? (i := 1) rfl)) (hw _ (List.mem_of_getElem? (i := 2) rfl)) e0 (hb hby at_20) (by decide) (by decide) fun T78 h78 b78 g78 X78 e78 E78 A78 D78 => ?_
    have ne_sk_b78 : sk ≠ b78 := Nat.ne_of_lt (Nat.lt_of_lt_of_le E_sk.lt (Nat.le_of_eq g78.symm))
    have sf_b78 := (Safe.new (Nat.le_of_eq g78.symm) : Safe Z own_EL s.vm h0 b78)
    have ge_b78 := Nat.le_trans Z0 (Nat.le_of_eq g78.symm)
    have hk79 := Nat.le_trans hk0 E78.1
    have sf_b78_79 := Safe.ext E78 H0 sf_b78
    have Rr79 := R0.trans (CHr.ext E78 H0)
    have H79 := CHv.ext E78 H0
    have Ol_80 := Ol.ext E78
    have E_sk_81 := E_sk.ext E78
    have Z_82 := Nat.le_trans Z0 E78.1
    have Fcoder_b78 : Fld Z h78 b78 "java/lang/String" "coder" "B" (.int (0 : Int32)) := D78 (Or.inr (hw _ (List.mem_of_getElem? (i := 27) rfl))) (ty := .byte) (by decide)
    have Fvalue_b78 : Fld Z h78 b78 "java/lang/String" "value" "[B" .null := D78 (Or.inr (hw _ (List.mem_of_getElem? (i := 29) rfl))) (ty := (.array .byte)) (by decide)
    refine Owe.dup X78.here hx (hb hby at_23) rfl rfl ?_
    refine Owe.iconst X78.here hx (hb hby at_24) (w := (2 : Int32)) rfl ?_
    refine Owe.newarr X78 hx hZ (aty := .char) (hw _ (List.mem_of_getElem? (i := 3) rfl)) e78 (hb hby at_25) rfl (by decide) (cap := 2) (by decide) (by decide) (by decide) (by decide) fun T83 h83 b83 k83 g83 X83 e83 E83 V83 => ?_
    have ne_sk_b83 : sk ≠ b83 := Nat.ne_of_lt (Nat.lt_of_lt_of_le E_sk_81.lt (Nat.le_of_eq g83.symm))
    have ne_b78_b83 : b78 ≠ b83 := Nat.ne_of_lt (Nat.lt_of_lt_of_le A78.lt (Nat.le_of_eq g83.symm))
    have sf_b83 := (Safe.new (Nat.le_of_eq g83.symm) : Safe Z own_EL s.vm h78 b83)
    have ge_b83 := Nat.le_trans Z_82 (Nat.le_of_eq g83.symm)
    have hk84 := Nat.le_trans hk79 E83.1
    have sf_b78_84 := Safe.ext E83 H79 sf_b78_79
    have sf_b83_84 := Safe.ext E83 H79 sf_b83
    have Rr84 := Rr79.trans (CHr.ext E83 H79)
    have H84 := CHv.ext E83 H79
    have Ol_85 := Ol_80.ext E83
    have E_sk_86 := E_sk_81.ext E83
    have A78_87 := A78.ext E83
    have Fcoder_b78_88 := Fcoder_b78.ext E83
    have Fvalue_b78_89 := Fvalue_b78.ext E83
    have Z_90 := Nat.le_trans Z_82 E83.1
    have V_b83_83 : Arv Z h83 b83 k83 .char (2 : Int32) [(.int (0 : Int32)), (.int (0 : Int32))] (.int (0 : Int32)) := V83.pad (pad_rep [] (.int (0 : Int32)) 2)
    refine Owe.dup X83.here hx (hb hby at_27) rfl rfl ?_
    refine Owe.iconst X83.here hx (hb hby at_28) (w := (0 : Int32)) rfl ?_
    refine Owe.iloadN X83.here hx (hb hby at_29) rfl ?_
    refine Owe.sipush X83.here hx (hb hby at_30) (w := (255 : Int32)) rfl ?_
    refine Owe.iand X83.here hx (hb hby at_33) rfl ?_
    refine Owe.i2c X83.here hx (hb hby at_34) rfl ?_
    refine Owe.castore X83 hx hZ e83 V_b83_83 (x := ((p1 &&& (255 : Int32)).toUInt32.toUInt16.toUInt32.toInt32)) 0 rfl (Nat.le_of_ble_eq_true rfl) (by decide) (hb hby at_35) rfl fun T91 h91 X91 e91 W91 (V91 : Arv Z h91 b83 k83 .char (2 : Int32) [(.int (nar .char ((p1 &&& (255 : Int32)).toUInt32.toUInt16.toUInt32.toInt32))), (.int (0 : Int32))] (.int (0 : Int32))) => ?_
    have hk92 := Nat.le_trans hk84 (Keep.of_wr W91).1
    have sf_b78_92 := Safe.wr W91 sf_b83_84 H84 sf_b78_84
    have sf_b83_92 := Safe.wr W91 sf_b83_84 H84 sf_b83_84
    have Rr92 := Rr84.trans (CHr.wr W91 sf_b83_84 H84)
    have H92 := CHv.wr W91 sf_b83_84 H84
    have Ol_93 := Ol_85.wr W91 ge_b83
    have E_sk_94 := E_sk_86.wr W91
    have A78_95 := A78_87.wr W91
    have Fcoder_b78_96 := Fcoder_b78_88.other W91 (Or.inl ne_b78_b83)
    have Fvalue_b78_97 := Fvalue_b78_89.other W91 (Or.inl ne_b78_b83)
    have Z_98 := Nat.le_trans Z_90 (Keep.of_wr W91).1
    have N91 := Fr.snoc X91 N0 ge_b83
    refine Owe.dup X91.here hx (hb hby at_36) rfl rfl ?_
    refine Owe.iconst X91.here hx (hb hby at_37) (w := (1 : Int32)) rfl ?_
    refine Owe.iloadN X91.here hx (hb hby at_38) rfl ?_
    refine Owe.bipush X91.here hx (hb hby at_39) (w := (8 : Int32)) rfl ?_
    refine Owe.iushr X91.here hx (hb hby at_41) rfl ?_
    refine Owe.sipush X91.here hx (hb hby at_42) (w := (255 : Int32)) rfl ?_
    refine Owe.iand X91.here hx (hb hby at_45) rfl ?_
    refine Owe.i2c X91.here hx (hb hby at_46) rfl ?_
    refine Owe.castore X91 hx hZ e91 V91 (x := ((((p1.toUInt32 >>> ((8 : Int32) &&& 31).toUInt32).toInt32) &&& (255 : Int32)).toUInt32.toUInt16.toUInt32.toInt32)) 1 rfl (Nat.le_of_ble_eq_true rfl) (by decide) (hb hby at_47) rfl fun T99 h99 X99 e99 W99 (V99 : Arv Z h99 b83 k83 .char (2 : Int32) [(.int (nar .char ((p1 &&& (255 : Int32)).toUInt32.toUInt16.toUInt32.toInt32))), (.int (nar .char ((((p1.toUInt32 >>> ((8 : Int32) &&& 31).toUInt32).toInt32) &&& (255 : Int32)).toUInt32.toUInt16.toUInt32.toInt32)))] (.int (0 : Int32))) => ?_
    have hk100 := Nat.le_trans hk92 (Keep.of_wr W99).1
    have sf_b78_100 := Safe.wr W99 sf_b83_92 H92 sf_b78_92
    have sf_b83_100 := Safe.wr W99 sf_b83_92 H92 sf_b83_92
    have Rr100 := Rr92.trans (CHr.wr W99 sf_b83_92 H92)
    have H100 := CHv.wr W99 sf_b83_92 H92
    have Ol_101 := Ol_93.wr W99 ge_b83
    have E_sk_102 := E_sk_94.wr W99
    have A78_103 := A78_95.wr W99
    have Fcoder_b78_104 := Fcoder_b78_96.other W99 (Or.inl ne_b78_b83)
    have Fvalue_b78_105 := Fvalue_b78_97.other W99 (Or.inl ne_b78_b83)
    have Z_106 := Nat.le_trans Z_98 (Keep.of_wr W99).1
    have N99 := Fr.snoc X99 N91 ge_b83
    have hp107 : ∀ c ∈ ([(nar .char ((p1 &&& (255 : Int32)).toUInt32.toUInt16.toUInt32.toInt32)), (nar .char ((((p1.toUInt32 >>> ((8 : Int32) &&& 31).toUInt32).toInt32) &&& (255 : Int32)).toUInt32.toUInt16.toUInt32.toInt32))] : List Int32), ¬ c < 0 ∧ ¬ (255 : Int32) < c := by
      intro c hc
      simp only [List.mem_cons, List.not_mem_nil, or_false] at hc
      rcases hc with rfl | rfl
      · exact and255_chars _
      · exact and255_chars _
    refine Owe.special X99 hx (y := (⟨"java/lang/String", "<init>", "([C)V"⟩ : MethodName)) rfl hown1 (mvT hZ (hw _ (List.mem_of_getElem? (i := 4) rfl))) (mvT hZ (hw _ (List.mem_of_getElem? (i := 5) rfl))) (mvT hZ (hw _ (List.mem_of_getElem? (i := 6) rfl))) (by decide) (StrChars.Road.backV (W := 1) hZ hws (kI := 4) (hw _ (List.mem_of_getElem? (i := 1) rfl)) (cs := ([(nar .char ((p1 &&& (255 : Int32)).toUInt32.toUInt16.toUInt32.toInt32)), (nar .char ((((p1.toUInt32 >>> ((8 : Int32) &&& 31).toUInt32).toInt32) &&& (255 : Int32)).toUInt32.toUInt16.toUInt32.toInt32))] : List Int32)) (bs := ([(nar .char ((p1 &&& (255 : Int32)).toUInt32.toUInt16.toUInt32.toInt32)), (nar .char ((((p1.toUInt32 >>> ((8 : Int32) &&& 31).toUInt32).toInt32) &&& (255 : Int32)).toUInt32.toUInt16.toUInt32.toInt32))] : List Int32).map (fun c => c.toInt8.toInt32)) (n := 2) ge_b78 Z_106 A78_103 Fvalue_b78_105 Fcoder_b78_104 V99 (S_COMPACT_STRINGS.ext Ol_101.2) cs0 rfl rfl (by decide) (by decide) hp107 rfl (by decide) (by decide)) (by rw [hml]; rfl) (a := b78) (argsL := [(.ref b83)]) (rest := [(.ref b78)]) (lenOf pd_4 rfl) rfl (Nat.le_of_ble_eq_true rfl) (hb hby at_48) rfl e99 (by decide) (by decide) fun T108 v108 L108 X108 hQ108 => ?_
    obtain ⟨rfl, Nq108, K108, Ex108, Fc108, t108, kb108, gt108, ft108, nt108, Fv108, Vt108⟩ := hQ108
    have N108 := Fr.app N99 Nq108
    have ne_sk_t108 : sk ≠ t108 := Nat.ne_of_lt (Nat.lt_of_lt_of_le E_sk_102.lt ft108)
    have ne_b78_t108 : b78 ≠ t108 := Nat.ne_of_lt (Nat.lt_of_lt_of_le A78_103.lt ft108)
    have ne_b83_t108 : b83 ≠ t108 := Nat.ne_of_lt (Nat.lt_of_lt_of_le V99.lt ft108)
    have hk109 := Nat.le_trans hk100 K108.1
    have sf_b78_109 := Safe.keep K108 (sfS sf_b78_100 sf0) H100 sf_b78_100
    have sf_b83_109 := Safe.keep K108 (sfS sf_b78_100 sf0) H100 sf_b83_100
    have Rr109 := Rr100.trans (CHr.keep K108 (sfS sf_b78_100 sf0) H100)
    have H109 := CHv.keep K108 (sfS sf_b78_100 sf0) H100
    have Ol_110 := Ol_101.keep K108 (allS ge_b78 all0)
    have E_sk_111 := E_sk_102.keep K108
    have A78_112 := A78_103.keep K108
    have V99_113 := V99.keep K108 (ninS (Ne.symm ne_b78_b83) nin0)
    have Z_114 := Nat.le_trans Z_106 K108.1
    refine Owe.astoreN X108.here hx (hb hby at_51) rfl rfl (l' := #[.val (.int p1), .val (.int p2), .val (.int p3), .val (.ref b78), .unset, .unset]) rfl ?_
    refine Owe.iloadN X108.here hx (hb hby at_52) rfl ?_
    refine Owe.iconst X108.here hx (hb hby at_53) (w := (2 : Int32)) rfl ?_
    refine Owe.iand X108.here hx (hb hby at_54) rfl ?_
    by_cases hc55_115 : (p3 &&& (2 : Int32)) = (0 : Int32)
    · skip
      refine Owe.ifYes X108.here hx (hb hby at_55) rfl ((if0 _ _).trans (teq hc55_115).1) (pc' := 73) (by decide) (by decide) ?_
      refine Owe.iloadN X108.here hx (hb hby at_73) rfl ?_
      refine Owe.iconst X108.here hx (hb hby at_74) (w := (4 : Int32)) rfl ?_
      refine Owe.iand X108.here hx (hb hby at_75) rfl ?_
      by_cases hc76_116 : (p3 &&& (4 : Int32)) = (0 : Int32)
      · skip
        refine Owe.ifYes X108.here hx (hb hby at_76) rfl ((if0 _ _).trans (teq hc76_116).1) (pc' := 115) (by decide) (by decide) ?_
        refine Owe.new X108 hx hZ hown1 (hw _ (List.mem_of_getElem? (i := 0) rfl)) (hw _ (List.mem_of_getElem? (i := 1) rfl)) (hw _ (List.mem_of_getElem? (i := 2) rfl)) rfl (hb hby at_115) (by decide) (by decide) fun T117 h117 b117 g117 X117 e117 E117 A117 D117 => ?_
        have ne_sk_b117 : sk ≠ b117 := Nat.ne_of_lt (Nat.lt_of_lt_of_le E_sk_111.lt (Nat.le_of_eq g117.symm))
        have ne_b78_b117 : b78 ≠ b117 := Nat.ne_of_lt (Nat.lt_of_lt_of_le Ex108.lt (Nat.le_of_eq g117.symm))
        have ne_b83_b117 : b83 ≠ b117 := Nat.ne_of_lt (Nat.lt_of_lt_of_le V99_113.lt (Nat.le_of_eq g117.symm))
        have ne_t108_b117 : t108 ≠ b117 := Nat.ne_of_lt (Nat.lt_of_lt_of_le Vt108.lt (Nat.le_of_eq g117.symm))
        have sf_b117 := (Safe.new (Nat.le_of_eq g117.symm) : Safe Z own_EL s.vm T108.heap b117)
        have ge_b117 := Nat.le_trans Z_114 (Nat.le_of_eq g117.symm)
        have hk118 := Nat.le_trans hk109 E117.1
        have sf_b78_118 := Safe.ext E117 H109 sf_b78_109
        have sf_b83_118 := Safe.ext E117 H109 sf_b83_109
        have sf_b117_118 := Safe.ext E117 H109 sf_b117
        have Rr118 := Rr109.trans (CHr.ext E117 H109)
        have H118 := CHv.ext E117 H109
        have Ol_119 := Ol_110.ext E117
        have E_sk_120 := E_sk_111.ext E117
        have Ex108_121 := Ex108.ext E117
        have V99_122 := V99_113.ext E117
        have Fc108_123 := Fc108.ext E117
        have Fv108_124 := Fv108.ext E117
        have Vt108_125 := Vt108.ext E117
        have Z_126 := Nat.le_trans Z_114 E117.1
        have Fcoder_b117 : Fld Z h117 b117 "java/lang/String" "coder" "B" (.int (0 : Int32)) := D117 (Or.inr (hw _ (List.mem_of_getElem? (i := 27) rfl))) (ty := .byte) (by decide)
        have Fvalue_b117 : Fld Z h117 b117 "java/lang/String" "value" "[B" .null := D117 (Or.inr (hw _ (List.mem_of_getElem? (i := 29) rfl))) (ty := (.array .byte)) (by decide)
        refine Owe.dup X117.here hx (hb hby at_118) rfl rfl ?_
        refine Owe.iconst X117.here hx (hb hby at_119) (w := (3 : Int32)) rfl ?_
        refine Owe.newarr X117 hx hZ (aty := .char) (hw _ (List.mem_of_getElem? (i := 3) rfl)) e117 (hb hby at_120) rfl (by decide) (cap := 3) (by decide) (by decide) (by decide) (by decide) fun T127 h127 b127 k127 g127 X127 e127 E127 V127 => ?_
        have ne_sk_b127 : sk ≠ b127 := Nat.ne_of_lt (Nat.lt_of_lt_of_le E_sk_120.lt (Nat.le_of_eq g127.symm))
        have ne_b78_b127 : b78 ≠ b127 := Nat.ne_of_lt (Nat.lt_of_lt_of_le Ex108_121.lt (Nat.le_of_eq g127.symm))
        have ne_b83_b127 : b83 ≠ b127 := Nat.ne_of_lt (Nat.lt_of_lt_of_le V99_122.lt (Nat.le_of_eq g127.symm))
        have ne_t108_b127 : t108 ≠ b127 := Nat.ne_of_lt (Nat.lt_of_lt_of_le Vt108_125.lt (Nat.le_of_eq g127.symm))
        have ne_b117_b127 : b117 ≠ b127 := Nat.ne_of_lt (Nat.lt_of_lt_of_le A117.lt (Nat.le_of_eq g127.symm))
        have sf_b127 := (Safe.new (Nat.le_of_eq g127.symm) : Safe Z own_EL s.vm h117 b127)
        have ge_b127 := Nat.le_trans Z_126 (Nat.le_of_eq g127.symm)
        have hk128 := Nat.le_trans hk118 E127.1
        have sf_b78_128 := Safe.ext E127 H118 sf_b78_118
        have sf_b83_128 := Safe.ext E127 H118 sf_b83_118
        have sf_b117_128 := Safe.ext E127 H118 sf_b117_118
        have sf_b127_128 := Safe.ext E127 H118 sf_b127
        have Rr128 := Rr118.trans (CHr.ext E127 H118)
        have H128 := CHv.ext E127 H118
        have Ol_129 := Ol_119.ext E127
        have E_sk_130 := E_sk_120.ext E127
        have Ex108_131 := Ex108_121.ext E127
        have V99_132 := V99_122.ext E127
        have Fc108_133 := Fc108_123.ext E127
        have Fv108_134 := Fv108_124.ext E127
        have Vt108_135 := Vt108_125.ext E127
        have A117_136 := A117.ext E127
        have Fcoder_b117_137 := Fcoder_b117.ext E127
        have Fvalue_b117_138 := Fvalue_b117.ext E127
        have Z_139 := Nat.le_trans Z_126 E127.1
        have V_b127_127 : Arv Z h127 b127 k127 .char (3 : Int32) [(.int (0 : Int32)), (.int (0 : Int32)), (.int (0 : Int32))] (.int (0 : Int32)) := V127.pad (pad_rep [] (.int (0 : Int32)) 3)
        refine Owe.dup X127.here hx (hb hby at_122) rfl rfl ?_
        refine Owe.iconst X127.here hx (hb hby at_123) (w := (0 : Int32)) rfl ?_
        refine Owe.iloadN X127.here hx (hb hby at_124) rfl ?_
        refine Owe.sipush X127.here hx (hb hby at_125) (w := (255 : Int32)) rfl ?_
        refine Owe.iand X127.here hx (hb hby at_128) rfl ?_
        refine Owe.i2c X127.here hx (hb hby at_129) rfl ?_
        refine Owe.castore X127 hx hZ e127 V_b127_127 (x := ((p2 &&& (255 : Int32)).toUInt32.toUInt16.toUInt32.toInt32)) 0 rfl (Nat.le_of_ble_eq_true rfl) (by decide) (hb hby at_130) rfl fun T140 h140 X140 e140 W140 (V140 : Arv Z h140 b127 k127 .char (3 : Int32) [(.int (nar .char ((p2 &&& (255 : Int32)).toUInt32.toUInt16.toUInt32.toInt32))), (.int (0 : Int32)), (.int (0 : Int32))] (.int (0 : Int32))) => ?_
        have hk141 := Nat.le_trans hk128 (Keep.of_wr W140).1
        have sf_b78_141 := Safe.wr W140 sf_b127_128 H128 sf_b78_128
        have sf_b83_141 := Safe.wr W140 sf_b127_128 H128 sf_b83_128
        have sf_b117_141 := Safe.wr W140 sf_b127_128 H128 sf_b117_128
        have sf_b127_141 := Safe.wr W140 sf_b127_128 H128 sf_b127_128
        have Rr141 := Rr128.trans (CHr.wr W140 sf_b127_128 H128)
        have H141 := CHv.wr W140 sf_b127_128 H128
        have Ol_142 := Ol_129.wr W140 ge_b127
        have E_sk_143 := E_sk_130.wr W140
        have Ex108_144 := Ex108_131.wr W140
        have V99_145 := V99_132.other W140 ne_b83_b127
        have Fc108_146 := Fc108_133.other W140 (Or.inl ne_b78_b127)
        have Fv108_147 := Fv108_134.other W140 (Or.inl ne_b78_b127)
        have Vt108_148 := Vt108_135.other W140 ne_t108_b127
        have A117_149 := A117_136.wr W140
        have Fcoder_b117_150 := Fcoder_b117_137.other W140 (Or.inl ne_b117_b127)
        have Fvalue_b117_151 := Fvalue_b117_138.other W140 (Or.inl ne_b117_b127)
        have Z_152 := Nat.le_trans Z_139 (Keep.of_wr W140).1
        have N140 := Fr.snoc X140 N108 ge_b127
        refine Owe.dup X140.here hx (hb hby at_131) rfl rfl ?_
        refine Owe.iconst X140.here hx (hb hby at_132) (w := (1 : Int32)) rfl ?_
        refine Owe.iloadN X140.here hx (hb hby at_133) rfl ?_
        refine Owe.bipush X140.here hx (hb hby at_134) (w := (8 : Int32)) rfl ?_
        refine Owe.iushr X140.here hx (hb hby at_136) rfl ?_
        refine Owe.sipush X140.here hx (hb hby at_137) (w := (255 : Int32)) rfl ?_
        refine Owe.iand X140.here hx (hb hby at_140) rfl ?_
        refine Owe.i2c X140.here hx (hb hby at_141) rfl ?_
        refine Owe.castore X140 hx hZ e140 V140 (x := ((((p2.toUInt32 >>> ((8 : Int32) &&& 31).toUInt32).toInt32) &&& (255 : Int32)).toUInt32.toUInt16.toUInt32.toInt32)) 1 rfl (Nat.le_of_ble_eq_true rfl) (by decide) (hb hby at_142) rfl fun T153 h153 X153 e153 W153 (V153 : Arv Z h153 b127 k127 .char (3 : Int32) [(.int (nar .char ((p2 &&& (255 : Int32)).toUInt32.toUInt16.toUInt32.toInt32))), (.int (nar .char ((((p2.toUInt32 >>> ((8 : Int32) &&& 31).toUInt32).toInt32) &&& (255 : Int32)).toUInt32.toUInt16.toUInt32.toInt32))), (.int (0 : Int32))] (.int (0 : Int32))) => ?_
        have hk154 := Nat.le_trans hk141 (Keep.of_wr W153).1
        have sf_b78_154 := Safe.wr W153 sf_b127_141 H141 sf_b78_141
        have sf_b83_154 := Safe.wr W153 sf_b127_141 H141 sf_b83_141
        have sf_b117_154 := Safe.wr W153 sf_b127_141 H141 sf_b117_141
        have sf_b127_154 := Safe.wr W153 sf_b127_141 H141 sf_b127_141
        have Rr154 := Rr141.trans (CHr.wr W153 sf_b127_141 H141)
        have H154 := CHv.wr W153 sf_b127_141 H141
        have Ol_155 := Ol_142.wr W153 ge_b127
        have E_sk_156 := E_sk_143.wr W153
        have Ex108_157 := Ex108_144.wr W153
        have V99_158 := V99_145.other W153 ne_b83_b127
        have Fc108_159 := Fc108_146.other W153 (Or.inl ne_b78_b127)
        have Fv108_160 := Fv108_147.other W153 (Or.inl ne_b78_b127)
        have Vt108_161 := Vt108_148.other W153 ne_t108_b127
        have A117_162 := A117_149.wr W153
        have Fcoder_b117_163 := Fcoder_b117_150.other W153 (Or.inl ne_b117_b127)
        have Fvalue_b117_164 := Fvalue_b117_151.other W153 (Or.inl ne_b117_b127)
        have Z_165 := Nat.le_trans Z_152 (Keep.of_wr W153).1
        have N153 := Fr.snoc X153 N140 ge_b127
        refine Owe.dup X153.here hx (hb hby at_143) rfl rfl ?_
        refine Owe.iconst X153.here hx (hb hby at_144) (w := (2 : Int32)) rfl ?_
        refine Owe.iloadN X153.here hx (hb hby at_145) rfl ?_
        refine Owe.bipush X153.here hx (hb hby at_146) (w := (16 : Int32)) rfl ?_
        refine Owe.iushr X153.here hx (hb hby at_148) rfl ?_
        refine Owe.sipush X153.here hx (hb hby at_149) (w := (255 : Int32)) rfl ?_
        refine Owe.iand X153.here hx (hb hby at_152) rfl ?_
        refine Owe.i2c X153.here hx (hb hby at_153) rfl ?_
        refine Owe.castore X153 hx hZ e153 V153 (x := ((((p2.toUInt32 >>> ((16 : Int32) &&& 31).toUInt32).toInt32) &&& (255 : Int32)).toUInt32.toUInt16.toUInt32.toInt32)) 2 rfl (Nat.le_of_ble_eq_true rfl) (by decide) (hb hby at_154) rfl fun T166 h166 X166 e166 W166 (V166 : Arv Z h166 b127 k127 .char (3 : Int32) [(.int (nar .char ((p2 &&& (255 : Int32)).toUInt32.toUInt16.toUInt32.toInt32))), (.int (nar .char ((((p2.toUInt32 >>> ((8 : Int32) &&& 31).toUInt32).toInt32) &&& (255 : Int32)).toUInt32.toUInt16.toUInt32.toInt32))), (.int (nar .char ((((p2.toUInt32 >>> ((16 : Int32) &&& 31).toUInt32).toInt32) &&& (255 : Int32)).toUInt32.toUInt16.toUInt32.toInt32)))] (.int (0 : Int32))) => ?_
        have hk167 := Nat.le_trans hk154 (Keep.of_wr W166).1
        have sf_b78_167 := Safe.wr W166 sf_b127_154 H154 sf_b78_154
        have sf_b83_167 := Safe.wr W166 sf_b127_154 H154 sf_b83_154
        have sf_b117_167 := Safe.wr W166 sf_b127_154 H154 sf_b117_154
        have sf_b127_167 := Safe.wr W166 sf_b127_154 H154 sf_b127_154
        have Rr167 := Rr154.trans (CHr.wr W166 sf_b127_154 H154)
        have H167 := CHv.wr W166 sf_b127_154 H154
        have Ol_168 := Ol_155.wr W166 ge_b127
        have E_sk_169 := E_sk_156.wr W166
        have Ex108_170 := Ex108_157.wr W166
        have V99_171 := V99_158.other W166 ne_b83_b127
        have Fc108_172 := Fc108_159.other W166 (Or.inl ne_b78_b127)
        have Fv108_173 := Fv108_160.other W166 (Or.inl ne_b78_b127)
        have Vt108_174 := Vt108_161.other W166 ne_t108_b127
        have A117_175 := A117_162.wr W166
        have Fcoder_b117_176 := Fcoder_b117_163.other W166 (Or.inl ne_b117_b127)
        have Fvalue_b117_177 := Fvalue_b117_164.other W166 (Or.inl ne_b117_b127)
        have Z_178 := Nat.le_trans Z_165 (Keep.of_wr W166).1
        have N166 := Fr.snoc X166 N153 ge_b127
        have hp179 : ∀ c ∈ ([(nar .char ((p2 &&& (255 : Int32)).toUInt32.toUInt16.toUInt32.toInt32)), (nar .char ((((p2.toUInt32 >>> ((8 : Int32) &&& 31).toUInt32).toInt32) &&& (255 : Int32)).toUInt32.toUInt16.toUInt32.toInt32)), (nar .char ((((p2.toUInt32 >>> ((16 : Int32) &&& 31).toUInt32).toInt32) &&& (255 : Int32)).toUInt32.toUInt16.toUInt32.toInt32))] : List Int32), ¬ c < 0 ∧ ¬ (255 : Int32) < c := by
          intro c hc
          simp only [List.mem_cons, List.not_mem_nil, or_false] at hc
          rcases hc with rfl | rfl | rfl
          · exact and255_chars _
          · exact and255_chars _
          · exact and255_chars _
        refine Owe.special X166 hx (y := (⟨"java/lang/String", "<init>", "([C)V"⟩ : MethodName)) rfl hown1 (mvT hZ (hw _ (List.mem_of_getElem? (i := 4) rfl))) (mvT hZ (hw _ (List.mem_of_getElem? (i := 5) rfl))) (mvT hZ (hw _ (List.mem_of_getElem? (i := 6) rfl))) (by decide) (StrChars.Road.backV (W := 1) hZ hws (kI := 4) (hw _ (List.mem_of_getElem? (i := 1) rfl)) (cs := ([(nar .char ((p2 &&& (255 : Int32)).toUInt32.toUInt16.toUInt32.toInt32)), (nar .char ((((p2.toUInt32 >>> ((8 : Int32) &&& 31).toUInt32).toInt32) &&& (255 : Int32)).toUInt32.toUInt16.toUInt32.toInt32)), (nar .char ((((p2.toUInt32 >>> ((16 : Int32) &&& 31).toUInt32).toInt32) &&& (255 : Int32)).toUInt32.toUInt16.toUInt32.toInt32))] : List Int32)) (bs := ([(nar .char ((p2 &&& (255 : Int32)).toUInt32.toUInt16.toUInt32.toInt32)), (nar .char ((((p2.toUInt32 >>> ((8 : Int32) &&& 31).toUInt32).toInt32) &&& (255 : Int32)).toUInt32.toUInt16.toUInt32.toInt32)), (nar .char ((((p2.toUInt32 >>> ((16 : Int32) &&& 31).toUInt32).toInt32) &&& (255 : Int32)).toUInt32.toUInt16.toUInt32.toInt32))] : List Int32).map (fun c => c.toInt8.toInt32)) (n := 3) ge_b117 Z_178 A117_175 Fvalue_b117_177 Fcoder_b117_176 V166 (S_COMPACT_STRINGS.ext Ol_168.2) cs0 rfl rfl (by decide) (by decide) hp179 rfl (by decide) (by decide)) (by rw [hml]; rfl) (a := b117) (argsL := [(.ref b127)]) (rest := [(.ref b117)]) (lenOf pd_4 rfl) rfl (Nat.le_of_ble_eq_true rfl) (hb hby at_155) rfl e166 (by decide) (by decide) fun T180 v180 L180 X180 hQ180 => ?_
        obtain ⟨rfl, Nq180, K180, Ex180, Fc180, t180, kb180, gt180, ft180, nt180, Fv180, Vt180⟩ := hQ180
        have N180 := Fr.app N166 Nq180
        have ne_sk_t180 : sk ≠ t180 := Nat.ne_of_lt (Nat.lt_of_lt_of_le E_sk_169.lt ft180)
        have ne_b78_t180 : b78 ≠ t180 := Nat.ne_of_lt (Nat.lt_of_lt_of_le Ex108_170.lt ft180)
        have ne_b83_t180 : b83 ≠ t180 := Nat.ne_of_lt (Nat.lt_of_lt_of_le V99_171.lt ft180)
        have ne_t108_t180 : t108 ≠ t180 := Nat.ne_of_lt (Nat.lt_of_lt_of_le Vt108_174.lt ft180)
        have ne_b117_t180 : b117 ≠ t180 := Nat.ne_of_lt (Nat.lt_of_lt_of_le A117_175.lt ft180)
        have ne_b127_t180 : b127 ≠ t180 := Nat.ne_of_lt (Nat.lt_of_lt_of_le V166.lt ft180)
        have hk181 := Nat.le_trans hk167 K180.1
        have sf_b78_181 := Safe.keep K180 (sfS sf_b117_167 sf0) H167 sf_b78_167
        have sf_b83_181 := Safe.keep K180 (sfS sf_b117_167 sf0) H167 sf_b83_167
        have sf_b117_181 := Safe.keep K180 (sfS sf_b117_167 sf0) H167 sf_b117_167
        have sf_b127_181 := Safe.keep K180 (sfS sf_b117_167 sf0) H167 sf_b127_167
        have Rr181 := Rr167.trans (CHr.keep K180 (sfS sf_b117_167 sf0) H167)
        have H181 := CHv.keep K180 (sfS sf_b117_167 sf0) H167
        have Ol_182 := Ol_168.keep K180 (allS ge_b117 all0)
        have E_sk_183 := E_sk_169.keep K180
        have Ex108_184 := Ex108_170.keep K180
        have V99_185 := V99_171.keep K180 (ninS ne_b83_b117 nin0)
        have Fc108_186 := Fc108_172.keep K180 (ninS ne_b78_b117 nin0)
        have Fv108_187 := Fv108_173.keep K180 (ninS ne_b78_b117 nin0)
        have Vt108_188 := Vt108_174.keep K180 (ninS ne_t108_b117 nin0)
        have A117_189 := A117_175.keep K180
        have V166_190 := V166.keep K180 (ninS (Ne.symm ne_b117_b127) nin0)
        have Z_191 := Nat.le_trans Z_178 K180.1
        refine Owe.astore X180.here hx (hb hby at_158) rfl rfl (l' := #[.val (.int p1), .val (.int p2), .val (.int p3), .val (.ref b78), .val (.ref b117), .unset]) rfl ?_
        refine Owe.aloadN X180.here hx (hb hby at_160) rfl rfl ?_
        refine Owe.aload X180.here hx (hb hby at_161) rfl rfl ?_
        refine Owe.stat X180 hx (y := (⟨"com/example/clotho/clotho/suite/Outcome", "skip", "(Ljava/lang/String;Ljava/lang/String;)Lcom/example/clotho/clotho/suite/Outcome;"⟩ : MethodName)) hown1 (mvT hZ (hw _ (List.mem_of_getElem? (i := 33) rfl))) (mvT hZ (hw _ (List.mem_of_getElem? (i := 34) rfl))) (mvT hZ (hw _ (List.mem_of_getElem? (i := 35) rfl))) (mvT hZ (hw _ (List.mem_of_getElem? (i := 36) rfl))) (by decide) (backOf (W := 0) (rmskp l Z a0 hw [] b78 b117 sk T180.heap n0 Z_191 S_SKIP Ol_182) hZ (hw _ (List.mem_of_getElem? (i := 36) rfl)) (hw _ (List.mem_of_getElem? (i := 35) rfl)) (by decide) (by decide)) (by rw [hml]; rfl) (argsL := [(.ref b78), (.ref b117)]) (rest := []) (lenOf pd_5 rfl) rfl (Nat.le_of_ble_eq_true rfl) (hb hby at_163) rfl rfl (by decide) (by decide) fun T192 v192 L192 X192 hQ192 => ?_
        obtain ⟨x1_192, rfl, Nq192, K192, ge_x1_192, fresh_x1_192, E_x1_192, Fverdict_x1_192, Fname_x1_192, Fdetail_x1_192⟩ := hQ192
        have N192 := Fr.app N180 Nq192
        have hk193 := Nat.le_trans hk181 K192.1
        have sf_b78_193 := Safe.keep K192 sf0 H181 sf_b78_181
        have sf_b83_193 := Safe.keep K192 sf0 H181 sf_b83_181
        have sf_b117_193 := Safe.keep K192 sf0 H181 sf_b117_181
        have sf_b127_193 := Safe.keep K192 sf0 H181 sf_b127_181
        have Rr193 := Rr181.trans (CHr.keep K192 sf0 H181)
        have H193 := CHv.keep K192 sf0 H181
        have Ol_194 := Ol_182.keep K192 all0
        have E_sk_195 := E_sk_183.keep K192
        have Ex108_196 := Ex108_184.keep K192
        have V99_197 := V99_185.keep K192 nin0
        have Fc108_198 := Fc108_186.keep K192 nin0
        have Fv108_199 := Fv108_187.keep K192 nin0
        have Vt108_200 := Vt108_188.keep K192 nin0
        have Ex180_201 := Ex180.keep K192
        have V166_202 := V166_190.keep K192 nin0
        have Fc180_203 := Fc180.keep K192 nin0
        have Fv180_204 := Fv180.keep K192 nin0
        have Vt180_205 := Vt180.keep K192 nin0
        have Z_206 := Nat.le_trans Z_191 K192.1
        have ne_sk_x1_192 : sk ≠ x1_192 := Nat.ne_of_lt (Nat.lt_of_lt_of_le E_sk_183.lt fresh_x1_192)
        have ne_b78_x1_192 : b78 ≠ x1_192 := Nat.ne_of_lt (Nat.lt_of_lt_of_le Ex108_184.lt fresh_x1_192)
        have ne_b83_x1_192 : b83 ≠ x1_192 := Nat.ne_of_lt (Nat.lt_of_lt_of_le V99_185.lt fresh_x1_192)
        have ne_t108_x1_192 : t108 ≠ x1_192 := Nat.ne_of_lt (Nat.lt_of_lt_of_le Vt108_188.lt fresh_x1_192)
        have ne_b117_x1_192 : b117 ≠ x1_192 := Nat.ne_of_lt (Nat.lt_of_lt_of_le Ex180.lt fresh_x1_192)
        have ne_b127_x1_192 : b127 ≠ x1_192 := Nat.ne_of_lt (Nat.lt_of_lt_of_le V166_190.lt fresh_x1_192)
        have ne_t180_x1_192 : t180 ≠ x1_192 := Nat.ne_of_lt (Nat.lt_of_lt_of_le Vt180.lt fresh_x1_192)
        refine Owe.astore X192.here hx (hb hby at_166) rfl rfl (l' := #[.val (.int p1), .val (.int p2), .val (.int p3), .val (.ref b78), .val (.ref b117), .val (.ref x1_192)]) rfl ?_
        refine Owe.aload X192.here hx (hb hby at_168) rfl rfl ?_
        refine Owe.ifnonnullYes X192.here hx (hb hby at_170) rfl (pc' := 175) (by decide) (by decide) ?_
        refine Owe.aload X192.here hx (hb hby at_175) rfl rfl ?_
        refine Owe.virt X192 hx hZ (y := (⟨"com/example/clotho/clotho/suite/Outcome", "verdict", "()Lcom/example/clotho/clotho/suite/Outcome$Verdict;"⟩ : MethodName)) (z := (⟨"com/example/clotho/clotho/suite/Outcome", "verdict", "()Lcom/example/clotho/clotho/suite/Outcome$Verdict;"⟩ : MethodName)) hown1 (mvT hZ (hw _ (List.mem_of_getElem? (i := 57) rfl))) (mvT hZ (hw _ (List.mem_of_getElem? (i := 58) rfl))) (mvT hZ (hw _ (List.mem_of_getElem? (i := 60) rfl))) (mvT hZ (hw _ (List.mem_of_getElem? (i := 59) rfl))) (notFace_of_selects (args := #[]) (mvT hZ (hw _ (List.mem_of_getElem? (i := 60) rfl)))) (by decide) (backOf (W := 0) (rmgv l Z a0 hw [] x1_192 sk T192.heap n0 Z_206 Fverdict_x1_192) hZ (hw _ (List.mem_of_getElem? (i := 61) rfl)) (hw _ (List.mem_of_getElem? (i := 35) rfl)) (by decide) (by decide)) (by rw [hml]; rfl) (a := x1_192) (argsL := []) (rest := []) E_x1_192 (lenOf pd_6 rfl) rfl (Nat.le_of_ble_eq_true rfl) (hb hby at_177) rfl rfl (by decide) (by decide) fun T207 v207 L207 X207 hQ207 => ?_
        obtain ⟨rfl, Nq207, e207⟩ := hQ207
        have N207 := Fr.app N192 Nq207
        refine Owe.gets X207 hx hZ hown1 (hw _ (List.mem_of_getElem? (i := 62) rfl)) Via.refl e207 (S_SKIP.ext Ol_194.2) (hb hby at_180) fun T208 X208 e208 => ?_
        refine Owe.acmpNo X208.here hx (hb hby at_183) rfl rfl rfl (by simp [Jvm.Free.XT.acmp]) ?_
        refine Owe.aload X208.here hx (hb hby at_186) rfl rfl ?_
        refine Owe.virt X208 hx hZ (y := (⟨"com/example/clotho/clotho/suite/Outcome", "name", "()Ljava/lang/String;"⟩ : MethodName)) (z := (⟨"com/example/clotho/clotho/suite/Outcome", "name", "()Ljava/lang/String;"⟩ : MethodName)) hown1 (mvT hZ (hw _ (List.mem_of_getElem? (i := 63) rfl))) (mvT hZ (hw _ (List.mem_of_getElem? (i := 64) rfl))) (mvT hZ (hw _ (List.mem_of_getElem? (i := 66) rfl))) (mvT hZ (hw _ (List.mem_of_getElem? (i := 65) rfl))) (notFace_of_selects (args := #[]) (mvT hZ (hw _ (List.mem_of_getElem? (i := 66) rfl)))) (by decide) (backOf (W := 0) (rmgn l Z a0 hw [] x1_192 b78 T192.heap n0 Z_206 Fname_x1_192) hZ (hw _ (List.mem_of_getElem? (i := 67) rfl)) (hw _ (List.mem_of_getElem? (i := 35) rfl)) (by decide) (by decide)) (by rw [hml]; rfl) (a := x1_192) (argsL := []) (rest := []) E_x1_192 (lenOf pd_7 rfl) rfl (Nat.le_of_ble_eq_true rfl) (hb hby at_188) rfl e208 (by decide) (by decide) fun T209 v209 L209 X209 hQ209 => ?_
        obtain ⟨rfl, Nq209, e209⟩ := hQ209
        have N209 := Fr.app N207 Nq209
        refine Owe.aloadN X209.here hx (hb hby at_191) rfl rfl ?_
        refine Owe.stat X209 hx (y := (⟨"com/example/clotho/clotho/suite/OutcomeSkipPinLaw", "same", "(Ljava/lang/String;Ljava/lang/String;)Z"⟩ : MethodName)) hown1 (mvT hZ (hw _ (List.mem_of_getElem? (i := 68) rfl))) (mvT hZ (hw _ (List.mem_of_getElem? (i := 69) rfl))) (mvT hZ (hw _ (List.mem_of_getElem? (i := 70) rfl))) (mvT hZ (hw _ (List.mem_of_getElem? (i := 71) rfl))) (by decide) (backOf (W := 0) (rmsam l Z a0 hw [] b78 T192.heap n0 Z_206 Ex108_196) hZ (hw _ (List.mem_of_getElem? (i := 71) rfl)) (hw _ (List.mem_of_getElem? (i := 70) rfl)) (by decide) (by decide)) (by rw [hml]; rfl) (argsL := [(.ref b78), (.ref b78)]) (rest := []) (lenOf pd_8 rfl) rfl (Nat.le_of_ble_eq_true rfl) (hb hby at_192) rfl e209 (by decide) (by decide) fun T210 v210 L210 X210 hQ210 => ?_
        obtain ⟨rfl, Nq210, e210⟩ := hQ210
        have N210 := Fr.app N209 Nq210
        refine Owe.ifNo X210.here hx (hb hby at_195) rfl ((if0 _ _).trans (feq (by decide)).1) ?_
        refine Owe.aload X210.here hx (hb hby at_198) rfl rfl ?_
        refine Owe.virt X210 hx hZ (y := (⟨"com/example/clotho/clotho/suite/Outcome", "detail", "()Ljava/lang/String;"⟩ : MethodName)) (z := (⟨"com/example/clotho/clotho/suite/Outcome", "detail", "()Ljava/lang/String;"⟩ : MethodName)) hown1 (mvT hZ (hw _ (List.mem_of_getElem? (i := 77) rfl))) (mvT hZ (hw _ (List.mem_of_getElem? (i := 78) rfl))) (mvT hZ (hw _ (List.mem_of_getElem? (i := 80) rfl))) (mvT hZ (hw _ (List.mem_of_getElem? (i := 79) rfl))) (notFace_of_selects (args := #[]) (mvT hZ (hw _ (List.mem_of_getElem? (i := 80) rfl)))) (by decide) (backOf (W := 0) (rmgd l Z a0 hw [] x1_192 b117 T192.heap n0 Z_206 Fdetail_x1_192) hZ (hw _ (List.mem_of_getElem? (i := 81) rfl)) (hw _ (List.mem_of_getElem? (i := 35) rfl)) (by decide) (by decide)) (by rw [hml]; rfl) (a := x1_192) (argsL := []) (rest := []) E_x1_192 (lenOf pd_7 rfl) rfl (Nat.le_of_ble_eq_true rfl) (hb hby at_200) rfl e210 (by decide) (by decide) fun T211 v211 L211 X211 hQ211 => ?_
        obtain ⟨rfl, Nq211, e211⟩ := hQ211
        have N211 := Fr.app N210 Nq211
        refine Owe.aload X211.here hx (hb hby at_203) rfl rfl ?_
        refine Owe.stat X211 hx (y := (⟨"com/example/clotho/clotho/suite/OutcomeSkipPinLaw", "same", "(Ljava/lang/String;Ljava/lang/String;)Z"⟩ : MethodName)) hown1 (mvT hZ (hw _ (List.mem_of_getElem? (i := 68) rfl))) (mvT hZ (hw _ (List.mem_of_getElem? (i := 69) rfl))) (mvT hZ (hw _ (List.mem_of_getElem? (i := 70) rfl))) (mvT hZ (hw _ (List.mem_of_getElem? (i := 71) rfl))) (by decide) (backOf (W := 0) (rmsam l Z a0 hw [] b117 T192.heap n0 Z_206 Ex180_201) hZ (hw _ (List.mem_of_getElem? (i := 71) rfl)) (hw _ (List.mem_of_getElem? (i := 70) rfl)) (by decide) (by decide)) (by rw [hml]; rfl) (argsL := [(.ref b117), (.ref b117)]) (rest := []) (lenOf pd_8 rfl) rfl (Nat.le_of_ble_eq_true rfl) (hb hby at_205) rfl e211 (by decide) (by decide) fun T212 v212 L212 X212 hQ212 => ?_
        obtain ⟨rfl, Nq212, e212⟩ := hQ212
        have N212 := Fr.app N211 Nq212
        refine Owe.ifNo X212.here hx (hb hby at_208) rfl ((if0 _ _).trans (feq (by decide)).1) ?_
        refine Owe.iconst X212.here hx (hb hby at_211) (w := (1 : Int32)) rfl ?_
        refine Owe.goto X212.here hx (hb hby at_212) (pc' := 216) (by decide) (by decide) ?_
        refine Owe.retNW X212 hx hS0 e212 hk193 hlk (t := .boolean) Bd.returns (by simp) (hb hby at_216) rfl fun fs hE => ?_
        rw [hG]
        refine ⟨_, _, rfl, ?_, ?_, coldMono hE (by decide) (by decide)⟩
        rotate_left
        · rw [hh]
          show CHr Z own_EL s.vm h0 T212.vm T212.heap
          rw [e212]
          exact Rr193.trans (CHv.at X212 hZ (own_ew hw) H193)
        show Q0 Z p1 p2 p3 G1 sk h0 n0 _ T212.heap _
        rw [e212]
        exact ⟨rfl, N212⟩
      · skip
        refine Owe.ifNo X108.here hx (hb hby at_76) rfl ((if0 _ _).trans (feq hc76_116).1) ?_
        refine Owe.new X108 hx hZ hown1 (hw _ (List.mem_of_getElem? (i := 0) rfl)) (hw _ (List.mem_of_getElem? (i := 1) rfl)) (hw _ (List.mem_of_getElem? (i := 2) rfl)) rfl (hb hby at_79) (by decide) (by decide) fun T213 h213 b213 g213 X213 e213 E213 A213 D213 => ?_
        have ne_sk_b213 : sk ≠ b213 := Nat.ne_of_lt (Nat.lt_of_lt_of_le E_sk_111.lt (Nat.le_of_eq g213.symm))
        have ne_b78_b213 : b78 ≠ b213 := Nat.ne_of_lt (Nat.lt_of_lt_of_le Ex108.lt (Nat.le_of_eq g213.symm))
        have ne_b83_b213 : b83 ≠ b213 := Nat.ne_of_lt (Nat.lt_of_lt_of_le V99_113.lt (Nat.le_of_eq g213.symm))
        have ne_t108_b213 : t108 ≠ b213 := Nat.ne_of_lt (Nat.lt_of_lt_of_le Vt108.lt (Nat.le_of_eq g213.symm))
        have sf_b213 := (Safe.new (Nat.le_of_eq g213.symm) : Safe Z own_EL s.vm T108.heap b213)
        have ge_b213 := Nat.le_trans Z_114 (Nat.le_of_eq g213.symm)
        have hk214 := Nat.le_trans hk109 E213.1
        have sf_b78_214 := Safe.ext E213 H109 sf_b78_109
        have sf_b83_214 := Safe.ext E213 H109 sf_b83_109
        have sf_b213_214 := Safe.ext E213 H109 sf_b213
        have Rr214 := Rr109.trans (CHr.ext E213 H109)
        have H214 := CHv.ext E213 H109
        have Ol_215 := Ol_110.ext E213
        have E_sk_216 := E_sk_111.ext E213
        have Ex108_217 := Ex108.ext E213
        have V99_218 := V99_113.ext E213
        have Fc108_219 := Fc108.ext E213
        have Fv108_220 := Fv108.ext E213
        have Vt108_221 := Vt108.ext E213
        have Z_222 := Nat.le_trans Z_114 E213.1
        have Fcoder_b213 : Fld Z h213 b213 "java/lang/String" "coder" "B" (.int (0 : Int32)) := D213 (Or.inr (hw _ (List.mem_of_getElem? (i := 27) rfl))) (ty := .byte) (by decide)
        have Fvalue_b213 : Fld Z h213 b213 "java/lang/String" "value" "[B" .null := D213 (Or.inr (hw _ (List.mem_of_getElem? (i := 29) rfl))) (ty := (.array .byte)) (by decide)
        refine Owe.dup X213.here hx (hb hby at_82) rfl rfl ?_
        refine Owe.iconst X213.here hx (hb hby at_83) (w := (2 : Int32)) rfl ?_
        refine Owe.newarr X213 hx hZ (aty := .char) (hw _ (List.mem_of_getElem? (i := 3) rfl)) e213 (hb hby at_84) rfl (by decide) (cap := 2) (by decide) (by decide) (by decide) (by decide) fun T223 h223 b223 k223 g223 X223 e223 E223 V223 => ?_
        have ne_sk_b223 : sk ≠ b223 := Nat.ne_of_lt (Nat.lt_of_lt_of_le E_sk_216.lt (Nat.le_of_eq g223.symm))
        have ne_b78_b223 : b78 ≠ b223 := Nat.ne_of_lt (Nat.lt_of_lt_of_le Ex108_217.lt (Nat.le_of_eq g223.symm))
        have ne_b83_b223 : b83 ≠ b223 := Nat.ne_of_lt (Nat.lt_of_lt_of_le V99_218.lt (Nat.le_of_eq g223.symm))
        have ne_t108_b223 : t108 ≠ b223 := Nat.ne_of_lt (Nat.lt_of_lt_of_le Vt108_221.lt (Nat.le_of_eq g223.symm))
        have ne_b213_b223 : b213 ≠ b223 := Nat.ne_of_lt (Nat.lt_of_lt_of_le A213.lt (Nat.le_of_eq g223.symm))
        have sf_b223 := (Safe.new (Nat.le_of_eq g223.symm) : Safe Z own_EL s.vm h213 b223)
        have ge_b223 := Nat.le_trans Z_222 (Nat.le_of_eq g223.symm)
        have hk224 := Nat.le_trans hk214 E223.1
        have sf_b78_224 := Safe.ext E223 H214 sf_b78_214
        have sf_b83_224 := Safe.ext E223 H214 sf_b83_214
        have sf_b213_224 := Safe.ext E223 H214 sf_b213_214
        have sf_b223_224 := Safe.ext E223 H214 sf_b223
        have Rr224 := Rr214.trans (CHr.ext E223 H214)
        have H224 := CHv.ext E223 H214
        have Ol_225 := Ol_215.ext E223
        have E_sk_226 := E_sk_216.ext E223
        have Ex108_227 := Ex108_217.ext E223
        have V99_228 := V99_218.ext E223
        have Fc108_229 := Fc108_219.ext E223
        have Fv108_230 := Fv108_220.ext E223
        have Vt108_231 := Vt108_221.ext E223
        have A213_232 := A213.ext E223
        have Fcoder_b213_233 := Fcoder_b213.ext E223
        have Fvalue_b213_234 := Fvalue_b213.ext E223
        have Z_235 := Nat.le_trans Z_222 E223.1
        have V_b223_223 : Arv Z h223 b223 k223 .char (2 : Int32) [(.int (0 : Int32)), (.int (0 : Int32))] (.int (0 : Int32)) := V223.pad (pad_rep [] (.int (0 : Int32)) 2)
        refine Owe.dup X223.here hx (hb hby at_86) rfl rfl ?_
        refine Owe.iconst X223.here hx (hb hby at_87) (w := (0 : Int32)) rfl ?_
        refine Owe.iloadN X223.here hx (hb hby at_88) rfl ?_
        refine Owe.sipush X223.here hx (hb hby at_89) (w := (255 : Int32)) rfl ?_
        refine Owe.iand X223.here hx (hb hby at_92) rfl ?_
        refine Owe.i2c X223.here hx (hb hby at_93) rfl ?_
        refine Owe.castore X223 hx hZ e223 V_b223_223 (x := ((p1 &&& (255 : Int32)).toUInt32.toUInt16.toUInt32.toInt32)) 0 rfl (Nat.le_of_ble_eq_true rfl) (by decide) (hb hby at_94) rfl fun T236 h236 X236 e236 W236 (V236 : Arv Z h236 b223 k223 .char (2 : Int32) [(.int (nar .char ((p1 &&& (255 : Int32)).toUInt32.toUInt16.toUInt32.toInt32))), (.int (0 : Int32))] (.int (0 : Int32))) => ?_
        have hk237 := Nat.le_trans hk224 (Keep.of_wr W236).1
        have sf_b78_237 := Safe.wr W236 sf_b223_224 H224 sf_b78_224
        have sf_b83_237 := Safe.wr W236 sf_b223_224 H224 sf_b83_224
        have sf_b213_237 := Safe.wr W236 sf_b223_224 H224 sf_b213_224
        have sf_b223_237 := Safe.wr W236 sf_b223_224 H224 sf_b223_224
        have Rr237 := Rr224.trans (CHr.wr W236 sf_b223_224 H224)
        have H237 := CHv.wr W236 sf_b223_224 H224
        have Ol_238 := Ol_225.wr W236 ge_b223
        have E_sk_239 := E_sk_226.wr W236
        have Ex108_240 := Ex108_227.wr W236
        have V99_241 := V99_228.other W236 ne_b83_b223
        have Fc108_242 := Fc108_229.other W236 (Or.inl ne_b78_b223)
        have Fv108_243 := Fv108_230.other W236 (Or.inl ne_b78_b223)
        have Vt108_244 := Vt108_231.other W236 ne_t108_b223
        have A213_245 := A213_232.wr W236
        have Fcoder_b213_246 := Fcoder_b213_233.other W236 (Or.inl ne_b213_b223)
        have Fvalue_b213_247 := Fvalue_b213_234.other W236 (Or.inl ne_b213_b223)
        have Z_248 := Nat.le_trans Z_235 (Keep.of_wr W236).1
        have N236 := Fr.snoc X236 N108 ge_b223
        refine Owe.dup X236.here hx (hb hby at_95) rfl rfl ?_
        refine Owe.iconst X236.here hx (hb hby at_96) (w := (1 : Int32)) rfl ?_
        refine Owe.iloadN X236.here hx (hb hby at_97) rfl ?_
        refine Owe.bipush X236.here hx (hb hby at_98) (w := (8 : Int32)) rfl ?_
        refine Owe.iushr X236.here hx (hb hby at_100) rfl ?_
        refine Owe.sipush X236.here hx (hb hby at_101) (w := (255 : Int32)) rfl ?_
        refine Owe.iand X236.here hx (hb hby at_104) rfl ?_
        refine Owe.i2c X236.here hx (hb hby at_105) rfl ?_
        refine Owe.castore X236 hx hZ e236 V236 (x := ((((p1.toUInt32 >>> ((8 : Int32) &&& 31).toUInt32).toInt32) &&& (255 : Int32)).toUInt32.toUInt16.toUInt32.toInt32)) 1 rfl (Nat.le_of_ble_eq_true rfl) (by decide) (hb hby at_106) rfl fun T249 h249 X249 e249 W249 (V249 : Arv Z h249 b223 k223 .char (2 : Int32) [(.int (nar .char ((p1 &&& (255 : Int32)).toUInt32.toUInt16.toUInt32.toInt32))), (.int (nar .char ((((p1.toUInt32 >>> ((8 : Int32) &&& 31).toUInt32).toInt32) &&& (255 : Int32)).toUInt32.toUInt16.toUInt32.toInt32)))] (.int (0 : Int32))) => ?_
        have hk250 := Nat.le_trans hk237 (Keep.of_wr W249).1
        have sf_b78_250 := Safe.wr W249 sf_b223_237 H237 sf_b78_237
        have sf_b83_250 := Safe.wr W249 sf_b223_237 H237 sf_b83_237
        have sf_b213_250 := Safe.wr W249 sf_b223_237 H237 sf_b213_237
        have sf_b223_250 := Safe.wr W249 sf_b223_237 H237 sf_b223_237
        have Rr250 := Rr237.trans (CHr.wr W249 sf_b223_237 H237)
        have H250 := CHv.wr W249 sf_b223_237 H237
        have Ol_251 := Ol_238.wr W249 ge_b223
        have E_sk_252 := E_sk_239.wr W249
        have Ex108_253 := Ex108_240.wr W249
        have V99_254 := V99_241.other W249 ne_b83_b223
        have Fc108_255 := Fc108_242.other W249 (Or.inl ne_b78_b223)
        have Fv108_256 := Fv108_243.other W249 (Or.inl ne_b78_b223)
        have Vt108_257 := Vt108_244.other W249 ne_t108_b223
        have A213_258 := A213_245.wr W249
        have Fcoder_b213_259 := Fcoder_b213_246.other W249 (Or.inl ne_b213_b223)
        have Fvalue_b213_260 := Fvalue_b213_247.other W249 (Or.inl ne_b213_b223)
        have Z_261 := Nat.le_trans Z_248 (Keep.of_wr W249).1
        have N249 := Fr.snoc X249 N236 ge_b223
        have hp262 : ∀ c ∈ ([(nar .char ((p1 &&& (255 : Int32)).toUInt32.toUInt16.toUInt32.toInt32)), (nar .char ((((p1.toUInt32 >>> ((8 : Int32) &&& 31).toUInt32).toInt32) &&& (255 : Int32)).toUInt32.toUInt16.toUInt32.toInt32))] : List Int32), ¬ c < 0 ∧ ¬ (255 : Int32) < c := by
          intro c hc
          simp only [List.mem_cons, List.not_mem_nil, or_false] at hc
          rcases hc with rfl | rfl
          · exact and255_chars _
          · exact and255_chars _
        refine Owe.special X249 hx (y := (⟨"java/lang/String", "<init>", "([C)V"⟩ : MethodName)) rfl hown1 (mvT hZ (hw _ (List.mem_of_getElem? (i := 4) rfl))) (mvT hZ (hw _ (List.mem_of_getElem? (i := 5) rfl))) (mvT hZ (hw _ (List.mem_of_getElem? (i := 6) rfl))) (by decide) (StrChars.Road.backV (W := 1) hZ hws (kI := 4) (hw _ (List.mem_of_getElem? (i := 1) rfl)) (cs := ([(nar .char ((p1 &&& (255 : Int32)).toUInt32.toUInt16.toUInt32.toInt32)), (nar .char ((((p1.toUInt32 >>> ((8 : Int32) &&& 31).toUInt32).toInt32) &&& (255 : Int32)).toUInt32.toUInt16.toUInt32.toInt32))] : List Int32)) (bs := ([(nar .char ((p1 &&& (255 : Int32)).toUInt32.toUInt16.toUInt32.toInt32)), (nar .char ((((p1.toUInt32 >>> ((8 : Int32) &&& 31).toUInt32).toInt32) &&& (255 : Int32)).toUInt32.toUInt16.toUInt32.toInt32))] : List Int32).map (fun c => c.toInt8.toInt32)) (n := 2) ge_b213 Z_261 A213_258 Fvalue_b213_260 Fcoder_b213_259 V249 (S_COMPACT_STRINGS.ext Ol_251.2) cs0 rfl rfl (by decide) (by decide) hp262 rfl (by decide) (by decide)) (by rw [hml]; rfl) (a := b213) (argsL := [(.ref b223)]) (rest := [(.ref b213)]) (lenOf pd_4 rfl) rfl (Nat.le_of_ble_eq_true rfl) (hb hby at_107) rfl e249 (by decide) (by decide) fun T263 v263 L263 X263 hQ263 => ?_
        obtain ⟨rfl, Nq263, K263, Ex263, Fc263, t263, kb263, gt263, ft263, nt263, Fv263, Vt263⟩ := hQ263
        have N263 := Fr.app N249 Nq263
        have ne_sk_t263 : sk ≠ t263 := Nat.ne_of_lt (Nat.lt_of_lt_of_le E_sk_252.lt ft263)
        have ne_b78_t263 : b78 ≠ t263 := Nat.ne_of_lt (Nat.lt_of_lt_of_le Ex108_253.lt ft263)
        have ne_b83_t263 : b83 ≠ t263 := Nat.ne_of_lt (Nat.lt_of_lt_of_le V99_254.lt ft263)
        have ne_t108_t263 : t108 ≠ t263 := Nat.ne_of_lt (Nat.lt_of_lt_of_le Vt108_257.lt ft263)
        have ne_b213_t263 : b213 ≠ t263 := Nat.ne_of_lt (Nat.lt_of_lt_of_le A213_258.lt ft263)
        have ne_b223_t263 : b223 ≠ t263 := Nat.ne_of_lt (Nat.lt_of_lt_of_le V249.lt ft263)
        have hk264 := Nat.le_trans hk250 K263.1
        have sf_b78_264 := Safe.keep K263 (sfS sf_b213_250 sf0) H250 sf_b78_250
        have sf_b83_264 := Safe.keep K263 (sfS sf_b213_250 sf0) H250 sf_b83_250
        have sf_b213_264 := Safe.keep K263 (sfS sf_b213_250 sf0) H250 sf_b213_250
        have sf_b223_264 := Safe.keep K263 (sfS sf_b213_250 sf0) H250 sf_b223_250
        have Rr264 := Rr250.trans (CHr.keep K263 (sfS sf_b213_250 sf0) H250)
        have H264 := CHv.keep K263 (sfS sf_b213_250 sf0) H250
        have Ol_265 := Ol_251.keep K263 (allS ge_b213 all0)
        have E_sk_266 := E_sk_252.keep K263
        have Ex108_267 := Ex108_253.keep K263
        have V99_268 := V99_254.keep K263 (ninS ne_b83_b213 nin0)
        have Fc108_269 := Fc108_255.keep K263 (ninS ne_b78_b213 nin0)
        have Fv108_270 := Fv108_256.keep K263 (ninS ne_b78_b213 nin0)
        have Vt108_271 := Vt108_257.keep K263 (ninS ne_t108_b213 nin0)
        have A213_272 := A213_258.keep K263
        have V249_273 := V249.keep K263 (ninS (Ne.symm ne_b213_b223) nin0)
        have Z_274 := Nat.le_trans Z_261 K263.1
        refine Owe.astore X263.here hx (hb hby at_110) rfl rfl (l' := #[.val (.int p1), .val (.int p2), .val (.int p3), .val (.ref b78), .val (.ref b213), .unset]) rfl ?_
        refine Owe.goto X263.here hx (hb hby at_112) (pc' := 160) (by decide) (by decide) ?_
        refine Owe.aloadN X263.here hx (hb hby at_160) rfl rfl ?_
        refine Owe.aload X263.here hx (hb hby at_161) rfl rfl ?_
        refine Owe.stat X263 hx (y := (⟨"com/example/clotho/clotho/suite/Outcome", "skip", "(Ljava/lang/String;Ljava/lang/String;)Lcom/example/clotho/clotho/suite/Outcome;"⟩ : MethodName)) hown1 (mvT hZ (hw _ (List.mem_of_getElem? (i := 33) rfl))) (mvT hZ (hw _ (List.mem_of_getElem? (i := 34) rfl))) (mvT hZ (hw _ (List.mem_of_getElem? (i := 35) rfl))) (mvT hZ (hw _ (List.mem_of_getElem? (i := 36) rfl))) (by decide) (backOf (W := 0) (rmskp l Z a0 hw [] b78 b213 sk T263.heap n0 Z_274 S_SKIP Ol_265) hZ (hw _ (List.mem_of_getElem? (i := 36) rfl)) (hw _ (List.mem_of_getElem? (i := 35) rfl)) (by decide) (by decide)) (by rw [hml]; rfl) (argsL := [(.ref b78), (.ref b213)]) (rest := []) (lenOf pd_5 rfl) rfl (Nat.le_of_ble_eq_true rfl) (hb hby at_163) rfl rfl (by decide) (by decide) fun T275 v275 L275 X275 hQ275 => ?_
        obtain ⟨x1_275, rfl, Nq275, K275, ge_x1_275, fresh_x1_275, E_x1_275, Fverdict_x1_275, Fname_x1_275, Fdetail_x1_275⟩ := hQ275
        have N275 := Fr.app N263 Nq275
        have hk276 := Nat.le_trans hk264 K275.1
        have sf_b78_276 := Safe.keep K275 sf0 H264 sf_b78_264
        have sf_b83_276 := Safe.keep K275 sf0 H264 sf_b83_264
        have sf_b213_276 := Safe.keep K275 sf0 H264 sf_b213_264
        have sf_b223_276 := Safe.keep K275 sf0 H264 sf_b223_264
        have Rr276 := Rr264.trans (CHr.keep K275 sf0 H264)
        have H276 := CHv.keep K275 sf0 H264
        have Ol_277 := Ol_265.keep K275 all0
        have E_sk_278 := E_sk_266.keep K275
        have Ex108_279 := Ex108_267.keep K275
        have V99_280 := V99_268.keep K275 nin0
        have Fc108_281 := Fc108_269.keep K275 nin0
        have Fv108_282 := Fv108_270.keep K275 nin0
        have Vt108_283 := Vt108_271.keep K275 nin0
        have Ex263_284 := Ex263.keep K275
        have V249_285 := V249_273.keep K275 nin0
        have Fc263_286 := Fc263.keep K275 nin0
        have Fv263_287 := Fv263.keep K275 nin0
        have Vt263_288 := Vt263.keep K275 nin0
        have Z_289 := Nat.le_trans Z_274 K275.1
        have ne_sk_x1_275 : sk ≠ x1_275 := Nat.ne_of_lt (Nat.lt_of_lt_of_le E_sk_266.lt fresh_x1_275)
        have ne_b78_x1_275 : b78 ≠ x1_275 := Nat.ne_of_lt (Nat.lt_of_lt_of_le Ex108_267.lt fresh_x1_275)
        have ne_b83_x1_275 : b83 ≠ x1_275 := Nat.ne_of_lt (Nat.lt_of_lt_of_le V99_268.lt fresh_x1_275)
        have ne_t108_x1_275 : t108 ≠ x1_275 := Nat.ne_of_lt (Nat.lt_of_lt_of_le Vt108_271.lt fresh_x1_275)
        have ne_b213_x1_275 : b213 ≠ x1_275 := Nat.ne_of_lt (Nat.lt_of_lt_of_le Ex263.lt fresh_x1_275)
        have ne_b223_x1_275 : b223 ≠ x1_275 := Nat.ne_of_lt (Nat.lt_of_lt_of_le V249_273.lt fresh_x1_275)
        have ne_t263_x1_275 : t263 ≠ x1_275 := Nat.ne_of_lt (Nat.lt_of_lt_of_le Vt263.lt fresh_x1_275)
        refine Owe.astore X275.here hx (hb hby at_166) rfl rfl (l' := #[.val (.int p1), .val (.int p2), .val (.int p3), .val (.ref b78), .val (.ref b213), .val (.ref x1_275)]) rfl ?_
        refine Owe.aload X275.here hx (hb hby at_168) rfl rfl ?_
        refine Owe.ifnonnullYes X275.here hx (hb hby at_170) rfl (pc' := 175) (by decide) (by decide) ?_
        refine Owe.aload X275.here hx (hb hby at_175) rfl rfl ?_
        refine Owe.virt X275 hx hZ (y := (⟨"com/example/clotho/clotho/suite/Outcome", "verdict", "()Lcom/example/clotho/clotho/suite/Outcome$Verdict;"⟩ : MethodName)) (z := (⟨"com/example/clotho/clotho/suite/Outcome", "verdict", "()Lcom/example/clotho/clotho/suite/Outcome$Verdict;"⟩ : MethodName)) hown1 (mvT hZ (hw _ (List.mem_of_getElem? (i := 57) rfl))) (mvT hZ (hw _ (List.mem_of_getElem? (i := 58) rfl))) (mvT hZ (hw _ (List.mem_of_getElem? (i := 60) rfl))) (mvT hZ (hw _ (List.mem_of_getElem? (i := 59) rfl))) (notFace_of_selects (args := #[]) (mvT hZ (hw _ (List.mem_of_getElem? (i := 60) rfl)))) (by decide) (backOf (W := 0) (rmgv l Z a0 hw [] x1_275 sk T275.heap n0 Z_289 Fverdict_x1_275) hZ (hw _ (List.mem_of_getElem? (i := 61) rfl)) (hw _ (List.mem_of_getElem? (i := 35) rfl)) (by decide) (by decide)) (by rw [hml]; rfl) (a := x1_275) (argsL := []) (rest := []) E_x1_275 (lenOf pd_6 rfl) rfl (Nat.le_of_ble_eq_true rfl) (hb hby at_177) rfl rfl (by decide) (by decide) fun T290 v290 L290 X290 hQ290 => ?_
        obtain ⟨rfl, Nq290, e290⟩ := hQ290
        have N290 := Fr.app N275 Nq290
        refine Owe.gets X290 hx hZ hown1 (hw _ (List.mem_of_getElem? (i := 62) rfl)) Via.refl e290 (S_SKIP.ext Ol_277.2) (hb hby at_180) fun T291 X291 e291 => ?_
        refine Owe.acmpNo X291.here hx (hb hby at_183) rfl rfl rfl (by simp [Jvm.Free.XT.acmp]) ?_
        refine Owe.aload X291.here hx (hb hby at_186) rfl rfl ?_
        refine Owe.virt X291 hx hZ (y := (⟨"com/example/clotho/clotho/suite/Outcome", "name", "()Ljava/lang/String;"⟩ : MethodName)) (z := (⟨"com/example/clotho/clotho/suite/Outcome", "name", "()Ljava/lang/String;"⟩ : MethodName)) hown1 (mvT hZ (hw _ (List.mem_of_getElem? (i := 63) rfl))) (mvT hZ (hw _ (List.mem_of_getElem? (i := 64) rfl))) (mvT hZ (hw _ (List.mem_of_getElem? (i := 66) rfl))) (mvT hZ (hw _ (List.mem_of_getElem? (i := 65) rfl))) (notFace_of_selects (args := #[]) (mvT hZ (hw _ (List.mem_of_getElem? (i := 66) rfl)))) (by decide) (backOf (W := 0) (rmgn l Z a0 hw [] x1_275 b78 T275.heap n0 Z_289 Fname_x1_275) hZ (hw _ (List.mem_of_getElem? (i := 67) rfl)) (hw _ (List.mem_of_getElem? (i := 35) rfl)) (by decide) (by decide)) (by rw [hml]; rfl) (a := x1_275) (argsL := []) (rest := []) E_x1_275 (lenOf pd_7 rfl) rfl (Nat.le_of_ble_eq_true rfl) (hb hby at_188) rfl e291 (by decide) (by decide) fun T292 v292 L292 X292 hQ292 => ?_
        obtain ⟨rfl, Nq292, e292⟩ := hQ292
        have N292 := Fr.app N290 Nq292
        refine Owe.aloadN X292.here hx (hb hby at_191) rfl rfl ?_
        refine Owe.stat X292 hx (y := (⟨"com/example/clotho/clotho/suite/OutcomeSkipPinLaw", "same", "(Ljava/lang/String;Ljava/lang/String;)Z"⟩ : MethodName)) hown1 (mvT hZ (hw _ (List.mem_of_getElem? (i := 68) rfl))) (mvT hZ (hw _ (List.mem_of_getElem? (i := 69) rfl))) (mvT hZ (hw _ (List.mem_of_getElem? (i := 70) rfl))) (mvT hZ (hw _ (List.mem_of_getElem? (i := 71) rfl))) (by decide) (backOf (W := 0) (rmsam l Z a0 hw [] b78 T275.heap n0 Z_289 Ex108_279) hZ (hw _ (List.mem_of_getElem? (i := 71) rfl)) (hw _ (List.mem_of_getElem? (i := 70) rfl)) (by decide) (by decide)) (by rw [hml]; rfl) (argsL := [(.ref b78), (.ref b78)]) (rest := []) (lenOf pd_8 rfl) rfl (Nat.le_of_ble_eq_true rfl) (hb hby at_192) rfl e292 (by decide) (by decide) fun T293 v293 L293 X293 hQ293 => ?_
        obtain ⟨rfl, Nq293, e293⟩ := hQ293
        have N293 := Fr.app N292 Nq293
        refine Owe.ifNo X293.here hx (hb hby at_195) rfl ((if0 _ _).trans (feq (by decide)).1) ?_
        refine Owe.aload X293.here hx (hb hby at_198) rfl rfl ?_
        refine Owe.virt X293 hx hZ (y := (⟨"com/example/clotho/clotho/suite/Outcome", "detail", "()Ljava/lang/String;"⟩ : MethodName)) (z := (⟨"com/example/clotho/clotho/suite/Outcome", "detail", "()Ljava/lang/String;"⟩ : MethodName)) hown1 (mvT hZ (hw _ (List.mem_of_getElem? (i := 77) rfl))) (mvT hZ (hw _ (List.mem_of_getElem? (i := 78) rfl))) (mvT hZ (hw _ (List.mem_of_getElem? (i := 80) rfl))) (mvT hZ (hw _ (List.mem_of_getElem? (i := 79) rfl))) (notFace_of_selects (args := #[]) (mvT hZ (hw _ (List.mem_of_getElem? (i := 80) rfl)))) (by decide) (backOf (W := 0) (rmgd l Z a0 hw [] x1_275 b213 T275.heap n0 Z_289 Fdetail_x1_275) hZ (hw _ (List.mem_of_getElem? (i := 81) rfl)) (hw _ (List.mem_of_getElem? (i := 35) rfl)) (by decide) (by decide)) (by rw [hml]; rfl) (a := x1_275) (argsL := []) (rest := []) E_x1_275 (lenOf pd_7 rfl) rfl (Nat.le_of_ble_eq_true rfl) (hb hby at_200) rfl e293 (by decide) (by decide) fun T294 v294 L294 X294 hQ294 => ?_
        obtain ⟨rfl, Nq294, e294⟩ := hQ294
        have N294 := Fr.app N293 Nq294
        refine Owe.aload X294.here hx (hb hby at_203) rfl rfl ?_
        refine Owe.stat X294 hx (y := (⟨"com/example/clotho/clotho/suite/OutcomeSkipPinLaw", "same", "(Ljava/lang/String;Ljava/lang/String;)Z"⟩ : MethodName)) hown1 (mvT hZ (hw _ (List.mem_of_getElem? (i := 68) rfl))) (mvT hZ (hw _ (List.mem_of_getElem? (i := 69) rfl))) (mvT hZ (hw _ (List.mem_of_getElem? (i := 70) rfl))) (mvT hZ (hw _ (List.mem_of_getElem? (i := 71) rfl))) (by decide) (backOf (W := 0) (rmsam l Z a0 hw [] b213 T275.heap n0 Z_289 Ex263_284) hZ (hw _ (List.mem_of_getElem? (i := 71) rfl)) (hw _ (List.mem_of_getElem? (i := 70) rfl)) (by decide) (by decide)) (by rw [hml]; rfl) (argsL := [(.ref b213), (.ref b213)]) (rest := []) (lenOf pd_8 rfl) rfl (Nat.le_of_ble_eq_true rfl) (hb hby at_205) rfl e294 (by decide) (by decide) fun T295 v295 L295 X295 hQ295 => ?_
        obtain ⟨rfl, Nq295, e295⟩ := hQ295
        have N295 := Fr.app N294 Nq295
        refine Owe.ifNo X295.here hx (hb hby at_208) rfl ((if0 _ _).trans (feq (by decide)).1) ?_
        refine Owe.iconst X295.here hx (hb hby at_211) (w := (1 : Int32)) rfl ?_
        refine Owe.goto X295.here hx (hb hby at_212) (pc' := 216) (by decide) (by decide) ?_
        refine Owe.retNW X295 hx hS0 e295 hk276 hlk (t := .boolean) Bd.returns (by simp) (hb hby at_216) rfl fun fs hE => ?_
        rw [hG]
        refine ⟨_, _, rfl, ?_, ?_, coldMono hE (by decide) (by decide)⟩
        rotate_left
        · rw [hh]
          show CHr Z own_EL s.vm h0 T295.vm T295.heap
          rw [e295]
          exact Rr276.trans (CHv.at X295 hZ (own_ew hw) H276)
        show Q0 Z p1 p2 p3 G1 sk h0 n0 _ T295.heap _
        rw [e295]
        exact ⟨rfl, N295⟩
    · skip
      refine Owe.ifNo X108.here hx (hb hby at_55) rfl ((if0 _ _).trans (feq hc55_115).1) ?_
      refine Owe.new X108 hx hZ hown1 (hw _ (List.mem_of_getElem? (i := 0) rfl)) (hw _ (List.mem_of_getElem? (i := 1) rfl)) (hw _ (List.mem_of_getElem? (i := 2) rfl)) rfl (hb hby at_58) (by decide) (by decide) fun T296 h296 b296 g296 X296 e296 E296 A296 D296 => ?_
      have ne_sk_b296 : sk ≠ b296 := Nat.ne_of_lt (Nat.lt_of_lt_of_le E_sk_111.lt (Nat.le_of_eq g296.symm))
      have ne_b78_b296 : b78 ≠ b296 := Nat.ne_of_lt (Nat.lt_of_lt_of_le Ex108.lt (Nat.le_of_eq g296.symm))
      have ne_b83_b296 : b83 ≠ b296 := Nat.ne_of_lt (Nat.lt_of_lt_of_le V99_113.lt (Nat.le_of_eq g296.symm))
      have ne_t108_b296 : t108 ≠ b296 := Nat.ne_of_lt (Nat.lt_of_lt_of_le Vt108.lt (Nat.le_of_eq g296.symm))
      have sf_b296 := (Safe.new (Nat.le_of_eq g296.symm) : Safe Z own_EL s.vm T108.heap b296)
      have ge_b296 := Nat.le_trans Z_114 (Nat.le_of_eq g296.symm)
      have hk297 := Nat.le_trans hk109 E296.1
      have sf_b78_297 := Safe.ext E296 H109 sf_b78_109
      have sf_b83_297 := Safe.ext E296 H109 sf_b83_109
      have sf_b296_297 := Safe.ext E296 H109 sf_b296
      have Rr297 := Rr109.trans (CHr.ext E296 H109)
      have H297 := CHv.ext E296 H109
      have Ol_298 := Ol_110.ext E296
      have E_sk_299 := E_sk_111.ext E296
      have Ex108_300 := Ex108.ext E296
      have V99_301 := V99_113.ext E296
      have Fc108_302 := Fc108.ext E296
      have Fv108_303 := Fv108.ext E296
      have Vt108_304 := Vt108.ext E296
      have Z_305 := Nat.le_trans Z_114 E296.1
      have Fcoder_b296 : Fld Z h296 b296 "java/lang/String" "coder" "B" (.int (0 : Int32)) := D296 (Or.inr (hw _ (List.mem_of_getElem? (i := 27) rfl))) (ty := .byte) (by decide)
      have Fvalue_b296 : Fld Z h296 b296 "java/lang/String" "value" "[B" .null := D296 (Or.inr (hw _ (List.mem_of_getElem? (i := 29) rfl))) (ty := (.array .byte)) (by decide)
      refine Owe.dup X296.here hx (hb hby at_61) rfl rfl ?_
      refine Owe.iconst X296.here hx (hb hby at_62) (w := (0 : Int32)) rfl ?_
      refine Owe.newarr X296 hx hZ (aty := .char) (hw _ (List.mem_of_getElem? (i := 3) rfl)) e296 (hb hby at_63) rfl (by decide) (cap := 0) (by decide) (by decide) (by decide) (by decide) fun T306 h306 b306 k306 g306 X306 e306 E306 V306 => ?_
      have ne_sk_b306 : sk ≠ b306 := Nat.ne_of_lt (Nat.lt_of_lt_of_le E_sk_299.lt (Nat.le_of_eq g306.symm))
      have ne_b78_b306 : b78 ≠ b306 := Nat.ne_of_lt (Nat.lt_of_lt_of_le Ex108_300.lt (Nat.le_of_eq g306.symm))
      have ne_b83_b306 : b83 ≠ b306 := Nat.ne_of_lt (Nat.lt_of_lt_of_le V99_301.lt (Nat.le_of_eq g306.symm))
      have ne_t108_b306 : t108 ≠ b306 := Nat.ne_of_lt (Nat.lt_of_lt_of_le Vt108_304.lt (Nat.le_of_eq g306.symm))
      have ne_b296_b306 : b296 ≠ b306 := Nat.ne_of_lt (Nat.lt_of_lt_of_le A296.lt (Nat.le_of_eq g306.symm))
      have sf_b306 := (Safe.new (Nat.le_of_eq g306.symm) : Safe Z own_EL s.vm h296 b306)
      have ge_b306 := Nat.le_trans Z_305 (Nat.le_of_eq g306.symm)
      have hk307 := Nat.le_trans hk297 E306.1
      have sf_b78_307 := Safe.ext E306 H297 sf_b78_297
      have sf_b83_307 := Safe.ext E306 H297 sf_b83_297
      have sf_b296_307 := Safe.ext E306 H297 sf_b296_297
      have sf_b306_307 := Safe.ext E306 H297 sf_b306
      have Rr307 := Rr297.trans (CHr.ext E306 H297)
      have H307 := CHv.ext E306 H297
      have Ol_308 := Ol_298.ext E306
      have E_sk_309 := E_sk_299.ext E306
      have Ex108_310 := Ex108_300.ext E306
      have V99_311 := V99_301.ext E306
      have Fc108_312 := Fc108_302.ext E306
      have Fv108_313 := Fv108_303.ext E306
      have Vt108_314 := Vt108_304.ext E306
      have A296_315 := A296.ext E306
      have Fcoder_b296_316 := Fcoder_b296.ext E306
      have Fvalue_b296_317 := Fvalue_b296.ext E306
      have Z_318 := Nat.le_trans Z_305 E306.1
      have V_b306_306 : Arv Z h306 b306 k306 .char (0 : Int32) [] (.int (0 : Int32)) := V306
      refine Owe.specialS X306 hx hZ hS0 hk307 (y := (⟨"java/lang/String", "<init>", "([C)V"⟩ : MethodName)) rfl hown1 (mvT hZ (hw _ (List.mem_of_getElem? (i := 4) rfl))) (mvT hZ (hw _ (List.mem_of_getElem? (i := 5) rfl))) (mvT hZ (hw _ (List.mem_of_getElem? (i := 6) rfl))) (by decide) (backOfSH (W := 1) (rmse1 l Z a0 hw [] b296 b306 k306 h306 n0 Z_318 A296_315 Fvalue_b296_317 Fcoder_b296_316 ge_b296 V_b306_306 (Ne.symm ne_b296_b306)) hZ (hw _ (List.mem_of_getElem? (i := 6) rfl)) (hw _ (List.mem_of_getElem? (i := 2) rfl)) (by decide) (by decide) (own_ew hw) H307) (by rw [hml]; rfl) (a := b296) (argsL := [(.ref b306)]) (rest := [(.ref b296)]) (lenOf pd_4 rfl) rfl (Nat.le_of_ble_eq_true rfl) (hb hby at_65) rfl e306 (by decide) (by decide) fun T319 v319 L319 X319 hS319 hZ319 hown319 hC319 hQ319 => ?_
      obtain ⟨b1_319, kb1_319, rfl, Nq319, K319, E_a1_319, Fvalue_a1_319, Fcoder_a1_319, V_b1_319⟩ := hQ319
      have N319 := Fr.app N108 Nq319
      have hk320 := Nat.le_trans hk307 K319.1
      have Ol_321 := Ol_308.keep K319 (allS ge_b296 all0)
      have E_sk_322 := E_sk_309.keep K319
      have Ex108_323 := Ex108_310.keep K319
      have V99_324 := V99_311.keep K319 (ninS ne_b83_b296 nin0)
      have Fc108_325 := Fc108_312.keep K319 (ninS ne_b78_b296 nin0)
      have Fv108_326 := Fv108_313.keep K319 (ninS ne_b78_b296 nin0)
      have Vt108_327 := Vt108_314.keep K319 (ninS ne_t108_b296 nin0)
      have A296_328 := A296_315.keep K319
      have V_b306_329 := V_b306_306.keep K319 (ninS (Ne.symm ne_b296_b306) nin0)
      have Z_330 := Nat.le_trans Z_318 K319.1
      have sf_b78_319 := CHr.safe hC319 Ex108_310.lt sf_b78_307
      have sf_b83_319 := CHr.safe hC319 V99_311.lt sf_b83_307
      have sf_b296_319 := CHr.safe hC319 A296_315.lt sf_b296_307
      have sf_b306_319 := CHr.safe hC319 V_b306_306.lt sf_b306_307
      have Rr319 := Rr307.trans hC319
      have H319 := hC319.1
      have hk319 : T319.heap.size ≤ T319.heap.size := Nat.le_refl _
      refine Owe.astore X319.here hx (hb hby at_68) rfl rfl (l' := #[.val (.int p1), .val (.int p2), .val (.int p3), .val (.ref b78), .val (.ref b296), .unset]) rfl ?_
      refine Owe.goto X319.here hx (hb hby at_70) (pc' := 160) (by decide) (by decide) ?_
      refine Owe.aloadN X319.here hx (hb hby at_160) rfl rfl ?_
      refine Owe.aload X319.here hx (hb hby at_161) rfl rfl ?_
      refine Owe.stat X319 hx (y := (⟨"com/example/clotho/clotho/suite/Outcome", "skip", "(Ljava/lang/String;Ljava/lang/String;)Lcom/example/clotho/clotho/suite/Outcome;"⟩ : MethodName)) hown319 (mvT hZ319 (hw _ (List.mem_of_getElem? (i := 33) rfl))) (mvT hZ319 (hw _ (List.mem_of_getElem? (i := 34) rfl))) (mvT hZ319 (hw _ (List.mem_of_getElem? (i := 35) rfl))) (mvT hZ319 (hw _ (List.mem_of_getElem? (i := 36) rfl))) (by decide) (backOf (W := 0) (rmskp l Z a0 hw [] b78 b296 sk T319.heap n0 Z_330 S_SKIP Ol_321) hZ319 (hw _ (List.mem_of_getElem? (i := 36) rfl)) (hw _ (List.mem_of_getElem? (i := 35) rfl)) (by decide) (by decide)) (by rw [hml]; rfl) (argsL := [(.ref b78), (.ref b296)]) (rest := []) (lenOf pd_5 rfl) rfl (Nat.le_of_ble_eq_true rfl) (hb hby at_163) rfl rfl (by decide) (by decide) fun T331 v331 L331 X331 hQ331 => ?_
      obtain ⟨x1_331, rfl, Nq331, K331, ge_x1_331, fresh_x1_331, E_x1_331, Fverdict_x1_331, Fname_x1_331, Fdetail_x1_331⟩ := hQ331
      have N331 := Fr.app N319 Nq331
      have hk332 := Nat.le_trans hk319 K331.1
      have sf_b78_332 := Safe.keep K331 sf0 H319 sf_b78_319
      have sf_b83_332 := Safe.keep K331 sf0 H319 sf_b83_319
      have sf_b296_332 := Safe.keep K331 sf0 H319 sf_b296_319
      have sf_b306_332 := Safe.keep K331 sf0 H319 sf_b306_319
      have Rr332 := Rr319.trans (CHr.keep K331 sf0 H319)
      have H332 := CHv.keep K331 sf0 H319
      have Ol_333 := Ol_321.keep K331 all0
      have E_sk_334 := E_sk_322.keep K331
      have Ex108_335 := Ex108_323.keep K331
      have V99_336 := V99_324.keep K331 nin0
      have Fc108_337 := Fc108_325.keep K331 nin0
      have Fv108_338 := Fv108_326.keep K331 nin0
      have Vt108_339 := Vt108_327.keep K331 nin0
      have E_a1_340 := E_a1_319.keep K331
      have V_b306_341 := V_b306_329.keep K331 nin0
      have Fvalue_a1_342 := Fvalue_a1_319.keep K331 nin0
      have Fcoder_a1_343 := Fcoder_a1_319.keep K331 nin0
      have V_b1_344 := V_b1_319.keep K331 nin0
      have Z_345 := Nat.le_trans Z_330 K331.1
      have ne_sk_x1_331 : sk ≠ x1_331 := Nat.ne_of_lt (Nat.lt_of_lt_of_le E_sk_322.lt fresh_x1_331)
      have ne_b78_x1_331 : b78 ≠ x1_331 := Nat.ne_of_lt (Nat.lt_of_lt_of_le Ex108_323.lt fresh_x1_331)
      have ne_b83_x1_331 : b83 ≠ x1_331 := Nat.ne_of_lt (Nat.lt_of_lt_of_le V99_324.lt fresh_x1_331)
      have ne_t108_x1_331 : t108 ≠ x1_331 := Nat.ne_of_lt (Nat.lt_of_lt_of_le Vt108_327.lt fresh_x1_331)
      have ne_b296_x1_331 : b296 ≠ x1_331 := Nat.ne_of_lt (Nat.lt_of_lt_of_le E_a1_319.lt fresh_x1_331)
      have ne_b306_x1_331 : b306 ≠ x1_331 := Nat.ne_of_lt (Nat.lt_of_lt_of_le V_b306_329.lt fresh_x1_331)
      have ne_b1_319_x1_331 : b1_319 ≠ x1_331 := Nat.ne_of_lt (Nat.lt_of_lt_of_le V_b1_319.lt fresh_x1_331)
      refine Owe.astore X331.here hx (hb hby at_166) rfl rfl (l' := #[.val (.int p1), .val (.int p2), .val (.int p3), .val (.ref b78), .val (.ref b296), .val (.ref x1_331)]) rfl ?_
      refine Owe.aload X331.here hx (hb hby at_168) rfl rfl ?_
      refine Owe.ifnonnullYes X331.here hx (hb hby at_170) rfl (pc' := 175) (by decide) (by decide) ?_
      refine Owe.aload X331.here hx (hb hby at_175) rfl rfl ?_
      refine Owe.virt X331 hx hZ319 (y := (⟨"com/example/clotho/clotho/suite/Outcome", "verdict", "()Lcom/example/clotho/clotho/suite/Outcome$Verdict;"⟩ : MethodName)) (z := (⟨"com/example/clotho/clotho/suite/Outcome", "verdict", "()Lcom/example/clotho/clotho/suite/Outcome$Verdict;"⟩ : MethodName)) hown319 (mvT hZ319 (hw _ (List.mem_of_getElem? (i := 57) rfl))) (mvT hZ319 (hw _ (List.mem_of_getElem? (i := 58) rfl))) (mvT hZ319 (hw _ (List.mem_of_getElem? (i := 60) rfl))) (mvT hZ319 (hw _ (List.mem_of_getElem? (i := 59) rfl))) (notFace_of_selects (args := #[]) (mvT hZ319 (hw _ (List.mem_of_getElem? (i := 60) rfl)))) (by decide) (backOf (W := 0) (rmgv l Z a0 hw [] x1_331 sk T331.heap n0 Z_345 Fverdict_x1_331) hZ319 (hw _ (List.mem_of_getElem? (i := 61) rfl)) (hw _ (List.mem_of_getElem? (i := 35) rfl)) (by decide) (by decide)) (by rw [hml]; rfl) (a := x1_331) (argsL := []) (rest := []) E_x1_331 (lenOf pd_6 rfl) rfl (Nat.le_of_ble_eq_true rfl) (hb hby at_177) rfl rfl (by decide) (by decide) fun T346 v346 L346 X346 hQ346 => ?_
      obtain ⟨rfl, Nq346, e346⟩ := hQ346
      have N346 := Fr.app N331 Nq346
      refine Owe.gets X346 hx hZ319 hown319 (hw _ (List.mem_of_getElem? (i := 62) rfl)) Via.refl e346 (S_SKIP.ext Ol_333.2) (hb hby at_180) fun T347 X347 e347 => ?_
      refine Owe.acmpNo X347.here hx (hb hby at_183) rfl rfl rfl (by simp [Jvm.Free.XT.acmp]) ?_
      refine Owe.aload X347.here hx (hb hby at_186) rfl rfl ?_
      refine Owe.virt X347 hx hZ319 (y := (⟨"com/example/clotho/clotho/suite/Outcome", "name", "()Ljava/lang/String;"⟩ : MethodName)) (z := (⟨"com/example/clotho/clotho/suite/Outcome", "name", "()Ljava/lang/String;"⟩ : MethodName)) hown319 (mvT hZ319 (hw _ (List.mem_of_getElem? (i := 63) rfl))) (mvT hZ319 (hw _ (List.mem_of_getElem? (i := 64) rfl))) (mvT hZ319 (hw _ (List.mem_of_getElem? (i := 66) rfl))) (mvT hZ319 (hw _ (List.mem_of_getElem? (i := 65) rfl))) (notFace_of_selects (args := #[]) (mvT hZ319 (hw _ (List.mem_of_getElem? (i := 66) rfl)))) (by decide) (backOf (W := 0) (rmgn l Z a0 hw [] x1_331 b78 T331.heap n0 Z_345 Fname_x1_331) hZ319 (hw _ (List.mem_of_getElem? (i := 67) rfl)) (hw _ (List.mem_of_getElem? (i := 35) rfl)) (by decide) (by decide)) (by rw [hml]; rfl) (a := x1_331) (argsL := []) (rest := []) E_x1_331 (lenOf pd_7 rfl) rfl (Nat.le_of_ble_eq_true rfl) (hb hby at_188) rfl e347 (by decide) (by decide) fun T348 v348 L348 X348 hQ348 => ?_
      obtain ⟨rfl, Nq348, e348⟩ := hQ348
      have N348 := Fr.app N346 Nq348
      refine Owe.aloadN X348.here hx (hb hby at_191) rfl rfl ?_
      refine Owe.stat X348 hx (y := (⟨"com/example/clotho/clotho/suite/OutcomeSkipPinLaw", "same", "(Ljava/lang/String;Ljava/lang/String;)Z"⟩ : MethodName)) hown319 (mvT hZ319 (hw _ (List.mem_of_getElem? (i := 68) rfl))) (mvT hZ319 (hw _ (List.mem_of_getElem? (i := 69) rfl))) (mvT hZ319 (hw _ (List.mem_of_getElem? (i := 70) rfl))) (mvT hZ319 (hw _ (List.mem_of_getElem? (i := 71) rfl))) (by decide) (backOf (W := 0) (rmsam l Z a0 hw [] b78 T331.heap n0 Z_345 Ex108_335) hZ319 (hw _ (List.mem_of_getElem? (i := 71) rfl)) (hw _ (List.mem_of_getElem? (i := 70) rfl)) (by decide) (by decide)) (by rw [hml]; rfl) (argsL := [(.ref b78), (.ref b78)]) (rest := []) (lenOf pd_8 rfl) rfl (Nat.le_of_ble_eq_true rfl) (hb hby at_192) rfl e348 (by decide) (by decide) fun T349 v349 L349 X349 hQ349 => ?_
      obtain ⟨rfl, Nq349, e349⟩ := hQ349
      have N349 := Fr.app N348 Nq349
      refine Owe.ifNo X349.here hx (hb hby at_195) rfl ((if0 _ _).trans (feq (by decide)).1) ?_
      refine Owe.aload X349.here hx (hb hby at_198) rfl rfl ?_
      refine Owe.virt X349 hx hZ319 (y := (⟨"com/example/clotho/clotho/suite/Outcome", "detail", "()Ljava/lang/String;"⟩ : MethodName)) (z := (⟨"com/example/clotho/clotho/suite/Outcome", "detail", "()Ljava/lang/String;"⟩ : MethodName)) hown319 (mvT hZ319 (hw _ (List.mem_of_getElem? (i := 77) rfl))) (mvT hZ319 (hw _ (List.mem_of_getElem? (i := 78) rfl))) (mvT hZ319 (hw _ (List.mem_of_getElem? (i := 80) rfl))) (mvT hZ319 (hw _ (List.mem_of_getElem? (i := 79) rfl))) (notFace_of_selects (args := #[]) (mvT hZ319 (hw _ (List.mem_of_getElem? (i := 80) rfl)))) (by decide) (backOf (W := 0) (rmgd l Z a0 hw [] x1_331 b296 T331.heap n0 Z_345 Fdetail_x1_331) hZ319 (hw _ (List.mem_of_getElem? (i := 81) rfl)) (hw _ (List.mem_of_getElem? (i := 35) rfl)) (by decide) (by decide)) (by rw [hml]; rfl) (a := x1_331) (argsL := []) (rest := []) E_x1_331 (lenOf pd_7 rfl) rfl (Nat.le_of_ble_eq_true rfl) (hb hby at_200) rfl e349 (by decide) (by decide) fun T350 v350 L350 X350 hQ350 => ?_
      obtain ⟨rfl, Nq350, e350⟩ := hQ350
      have N350 := Fr.app N349 Nq350
      refine Owe.aload X350.here hx (hb hby at_203) rfl rfl ?_
      refine Owe.stat X350 hx (y := (⟨"com/example/clotho/clotho/suite/OutcomeSkipPinLaw", "same", "(Ljava/lang/String;Ljava/lang/String;)Z"⟩ : MethodName)) hown319 (mvT hZ319 (hw _ (List.mem_of_getElem? (i := 68) rfl))) (mvT hZ319 (hw _ (List.mem_of_getElem? (i := 69) rfl))) (mvT hZ319 (hw _ (List.mem_of_getElem? (i := 70) rfl))) (mvT hZ319 (hw _ (List.mem_of_getElem? (i := 71) rfl))) (by decide) (backOf (W := 0) (rmsam l Z a0 hw [] b296 T331.heap n0 Z_345 E_a1_340) hZ319 (hw _ (List.mem_of_getElem? (i := 71) rfl)) (hw _ (List.mem_of_getElem? (i := 70) rfl)) (by decide) (by decide)) (by rw [hml]; rfl) (argsL := [(.ref b296), (.ref b296)]) (rest := []) (lenOf pd_8 rfl) rfl (Nat.le_of_ble_eq_true rfl) (hb hby at_205) rfl e350 (by decide) (by decide) fun T351 v351 L351 X351 hQ351 => ?_
      obtain ⟨rfl, Nq351, e351⟩ := hQ351
      have N351 := Fr.app N350 Nq351
      refine Owe.ifNo X351.here hx (hb hby at_208) rfl ((if0 _ _).trans (feq (by decide)).1) ?_
      refine Owe.iconst X351.here hx (hb hby at_211) (w := (1 : Int32)) rfl ?_
      refine Owe.goto X351.here hx (hb hby at_212) (pc' := 216) (by decide) (by decide) ?_
      refine Owe.retNW X351 hx hS319 e351 hk332 hlk (t := .boolean) Bd.returns (by simp) (hb hby at_216) rfl fun fs hE => ?_
      rw [hG]
      refine ⟨_, _, rfl, ?_, ?_, coldMono hE (by decide) (by decide)⟩
      rotate_left
      · rw [hh]
        show CHr Z own_EL s.vm h0 T351.vm T351.heap
        rw [e351]
        exact Rr332.trans (CHv.at X351 hZ319 (own_ew hw) H332)
      show Q0 Z p1 p2 p3 G1 sk h0 n0 _ T351.heap _
      rw [e351]
      exact ⟨rfl, N351⟩
  · skip
    refine Owe.ifNo X0.here hx (hb hby at_3) rfl ((if0 _ _).trans (feq hc3_77).1) ?_
    refine Owe.new X0 hx hZ hown1 (hw _ (List.mem_of_getElem? (i := 0) rfl)) (hw _ (List.mem_of_getElem? (i := 1) rfl)) (hw _ (List.mem_of_getElem? (i := 2) rfl)) e0 (hb hby at_6) (by decide) (by decide) fun T352 h352 b352 g352 X352 e352 E352 A352 D352 => ?_
    have ne_sk_b352 : sk ≠ b352 := Nat.ne_of_lt (Nat.lt_of_lt_of_le E_sk.lt (Nat.le_of_eq g352.symm))
    have sf_b352 := (Safe.new (Nat.le_of_eq g352.symm) : Safe Z own_EL s.vm h0 b352)
    have ge_b352 := Nat.le_trans Z0 (Nat.le_of_eq g352.symm)
    have hk353 := Nat.le_trans hk0 E352.1
    have sf_b352_353 := Safe.ext E352 H0 sf_b352
    have Rr353 := R0.trans (CHr.ext E352 H0)
    have H353 := CHv.ext E352 H0
    have Ol_354 := Ol.ext E352
    have E_sk_355 := E_sk.ext E352
    have Z_356 := Nat.le_trans Z0 E352.1
    have Fcoder_b352 : Fld Z h352 b352 "java/lang/String" "coder" "B" (.int (0 : Int32)) := D352 (Or.inr (hw _ (List.mem_of_getElem? (i := 27) rfl))) (ty := .byte) (by decide)
    have Fvalue_b352 : Fld Z h352 b352 "java/lang/String" "value" "[B" .null := D352 (Or.inr (hw _ (List.mem_of_getElem? (i := 29) rfl))) (ty := (.array .byte)) (by decide)
    refine Owe.dup X352.here hx (hb hby at_9) rfl rfl ?_
    refine Owe.iconst X352.here hx (hb hby at_10) (w := (0 : Int32)) rfl ?_
    refine Owe.newarr X352 hx hZ (aty := .char) (hw _ (List.mem_of_getElem? (i := 3) rfl)) e352 (hb hby at_11) rfl (by decide) (cap := 0) (by decide) (by decide) (by decide) (by decide) fun T357 h357 b357 k357 g357 X357 e357 E357 V357 => ?_
    have ne_sk_b357 : sk ≠ b357 := Nat.ne_of_lt (Nat.lt_of_lt_of_le E_sk_355.lt (Nat.le_of_eq g357.symm))
    have ne_b352_b357 : b352 ≠ b357 := Nat.ne_of_lt (Nat.lt_of_lt_of_le A352.lt (Nat.le_of_eq g357.symm))
    have sf_b357 := (Safe.new (Nat.le_of_eq g357.symm) : Safe Z own_EL s.vm h352 b357)
    have ge_b357 := Nat.le_trans Z_356 (Nat.le_of_eq g357.symm)
    have hk358 := Nat.le_trans hk353 E357.1
    have sf_b352_358 := Safe.ext E357 H353 sf_b352_353
    have sf_b357_358 := Safe.ext E357 H353 sf_b357
    have Rr358 := Rr353.trans (CHr.ext E357 H353)
    have H358 := CHv.ext E357 H353
    have Ol_359 := Ol_354.ext E357
    have E_sk_360 := E_sk_355.ext E357
    have A352_361 := A352.ext E357
    have Fcoder_b352_362 := Fcoder_b352.ext E357
    have Fvalue_b352_363 := Fvalue_b352.ext E357
    have Z_364 := Nat.le_trans Z_356 E357.1
    have V_b357_357 : Arv Z h357 b357 k357 .char (0 : Int32) [] (.int (0 : Int32)) := V357
    refine Owe.specialS X357 hx hZ hS0 hk358 (y := (⟨"java/lang/String", "<init>", "([C)V"⟩ : MethodName)) rfl hown1 (mvT hZ (hw _ (List.mem_of_getElem? (i := 4) rfl))) (mvT hZ (hw _ (List.mem_of_getElem? (i := 5) rfl))) (mvT hZ (hw _ (List.mem_of_getElem? (i := 6) rfl))) (by decide) (backOfSH (W := 1) (rmse1 l Z a0 hw [] b352 b357 k357 h357 n0 Z_364 A352_361 Fvalue_b352_363 Fcoder_b352_362 ge_b352 V_b357_357 (Ne.symm ne_b352_b357)) hZ (hw _ (List.mem_of_getElem? (i := 6) rfl)) (hw _ (List.mem_of_getElem? (i := 2) rfl)) (by decide) (by decide) (own_ew hw) H358) (by rw [hml]; rfl) (a := b352) (argsL := [(.ref b357)]) (rest := [(.ref b352)]) (lenOf pd_4 rfl) rfl (Nat.le_of_ble_eq_true rfl) (hb hby at_13) rfl e357 (by decide) (by decide) fun T365 v365 L365 X365 hS365 hZ365 hown365 hC365 hQ365 => ?_
    obtain ⟨b1_365, kb1_365, rfl, Nq365, K365, E_a1_365, Fvalue_a1_365, Fcoder_a1_365, V_b1_365⟩ := hQ365
    have N365 := Fr.app N0 Nq365
    have hk366 := Nat.le_trans hk358 K365.1
    have Ol_367 := Ol_359.keep K365 (allS ge_b352 all0)
    have E_sk_368 := E_sk_360.keep K365
    have A352_369 := A352_361.keep K365
    have V_b357_370 := V_b357_357.keep K365 (ninS (Ne.symm ne_b352_b357) nin0)
    have Z_371 := Nat.le_trans Z_364 K365.1
    have sf_b352_365 := CHr.safe hC365 A352_361.lt sf_b352_358
    have sf_b357_365 := CHr.safe hC365 V_b357_357.lt sf_b357_358
    have Rr365 := Rr358.trans hC365
    have H365 := hC365.1
    have hk365 : T365.heap.size ≤ T365.heap.size := Nat.le_refl _
    refine Owe.astoreN X365.here hx (hb hby at_16) rfl rfl (l' := #[.val (.int p1), .val (.int p2), .val (.int p3), .val (.ref b352), .unset, .unset]) rfl ?_
    refine Owe.goto X365.here hx (hb hby at_17) (pc' := 52) (by decide) (by decide) ?_
    refine Owe.iloadN X365.here hx (hb hby at_52) rfl ?_
    refine Owe.iconst X365.here hx (hb hby at_53) (w := (2 : Int32)) rfl ?_
    refine Owe.iand X365.here hx (hb hby at_54) rfl ?_
    by_cases hc55_372 : (p3 &&& (2 : Int32)) = (0 : Int32)
    · skip
      refine Owe.ifYes X365.here hx (hb hby at_55) rfl ((if0 _ _).trans (teq hc55_372).1) (pc' := 73) (by decide) (by decide) ?_
      refine Owe.iloadN X365.here hx (hb hby at_73) rfl ?_
      refine Owe.iconst X365.here hx (hb hby at_74) (w := (4 : Int32)) rfl ?_
      refine Owe.iand X365.here hx (hb hby at_75) rfl ?_
      by_cases hc76_373 : (p3 &&& (4 : Int32)) = (0 : Int32)
      · skip
        refine Owe.ifYes X365.here hx (hb hby at_76) rfl ((if0 _ _).trans (teq hc76_373).1) (pc' := 115) (by decide) (by decide) ?_
        refine Owe.new X365 hx hZ365 hown365 (hw _ (List.mem_of_getElem? (i := 0) rfl)) (hw _ (List.mem_of_getElem? (i := 1) rfl)) (hw _ (List.mem_of_getElem? (i := 2) rfl)) rfl (hb hby at_115) (by decide) (by decide) fun T374 h374 b374 g374 X374 e374 E374 A374 D374 => ?_
        have ne_sk_b374 : sk ≠ b374 := Nat.ne_of_lt (Nat.lt_of_lt_of_le E_sk_368.lt (Nat.le_of_eq g374.symm))
        have ne_b352_b374 : b352 ≠ b374 := Nat.ne_of_lt (Nat.lt_of_lt_of_le E_a1_365.lt (Nat.le_of_eq g374.symm))
        have ne_b357_b374 : b357 ≠ b374 := Nat.ne_of_lt (Nat.lt_of_lt_of_le V_b357_370.lt (Nat.le_of_eq g374.symm))
        have ne_b1_365_b374 : b1_365 ≠ b374 := Nat.ne_of_lt (Nat.lt_of_lt_of_le V_b1_365.lt (Nat.le_of_eq g374.symm))
        have sf_b374 := (Safe.new (Nat.le_of_eq g374.symm) : Safe Z own_EL T365.vm T365.heap b374)
        have ge_b374 := Nat.le_trans Z_371 (Nat.le_of_eq g374.symm)
        have hk375 := Nat.le_trans hk365 E374.1
        have sf_b352_375 := Safe.ext E374 H365 sf_b352_365
        have sf_b357_375 := Safe.ext E374 H365 sf_b357_365
        have sf_b374_375 := Safe.ext E374 H365 sf_b374
        have Rr375 := Rr365.trans (CHr.ext E374 H365)
        have H375 := CHv.ext E374 H365
        have Ol_376 := Ol_367.ext E374
        have E_sk_377 := E_sk_368.ext E374
        have E_a1_378 := E_a1_365.ext E374
        have V_b357_379 := V_b357_370.ext E374
        have Fvalue_a1_380 := Fvalue_a1_365.ext E374
        have Fcoder_a1_381 := Fcoder_a1_365.ext E374
        have V_b1_382 := V_b1_365.ext E374
        have Z_383 := Nat.le_trans Z_371 E374.1
        have Fcoder_b374 : Fld Z h374 b374 "java/lang/String" "coder" "B" (.int (0 : Int32)) := D374 (Or.inr (hw _ (List.mem_of_getElem? (i := 27) rfl))) (ty := .byte) (by decide)
        have Fvalue_b374 : Fld Z h374 b374 "java/lang/String" "value" "[B" .null := D374 (Or.inr (hw _ (List.mem_of_getElem? (i := 29) rfl))) (ty := (.array .byte)) (by decide)
        refine Owe.dup X374.here hx (hb hby at_118) rfl rfl ?_
        refine Owe.iconst X374.here hx (hb hby at_119) (w := (3 : Int32)) rfl ?_
        refine Owe.newarr X374 hx hZ365 (aty := .char) (hw _ (List.mem_of_getElem? (i := 3) rfl)) e374 (hb hby at_120) rfl (by decide) (cap := 3) (by decide) (by decide) (by decide) (by decide) fun T384 h384 b384 k384 g384 X384 e384 E384 V384 => ?_
        have ne_sk_b384 : sk ≠ b384 := Nat.ne_of_lt (Nat.lt_of_lt_of_le E_sk_377.lt (Nat.le_of_eq g384.symm))
        have ne_b352_b384 : b352 ≠ b384 := Nat.ne_of_lt (Nat.lt_of_lt_of_le E_a1_378.lt (Nat.le_of_eq g384.symm))
        have ne_b357_b384 : b357 ≠ b384 := Nat.ne_of_lt (Nat.lt_of_lt_of_le V_b357_379.lt (Nat.le_of_eq g384.symm))
        have ne_b1_365_b384 : b1_365 ≠ b384 := Nat.ne_of_lt (Nat.lt_of_lt_of_le V_b1_382.lt (Nat.le_of_eq g384.symm))
        have ne_b374_b384 : b374 ≠ b384 := Nat.ne_of_lt (Nat.lt_of_lt_of_le A374.lt (Nat.le_of_eq g384.symm))
        have sf_b384 := (Safe.new (Nat.le_of_eq g384.symm) : Safe Z own_EL T365.vm h374 b384)
        have ge_b384 := Nat.le_trans Z_383 (Nat.le_of_eq g384.symm)
        have hk385 := Nat.le_trans hk375 E384.1
        have sf_b352_385 := Safe.ext E384 H375 sf_b352_375
        have sf_b357_385 := Safe.ext E384 H375 sf_b357_375
        have sf_b374_385 := Safe.ext E384 H375 sf_b374_375
        have sf_b384_385 := Safe.ext E384 H375 sf_b384
        have Rr385 := Rr375.trans (CHr.ext E384 H375)
        have H385 := CHv.ext E384 H375
        have Ol_386 := Ol_376.ext E384
        have E_sk_387 := E_sk_377.ext E384
        have E_a1_388 := E_a1_378.ext E384
        have V_b357_389 := V_b357_379.ext E384
        have Fvalue_a1_390 := Fvalue_a1_380.ext E384
        have Fcoder_a1_391 := Fcoder_a1_381.ext E384
        have V_b1_392 := V_b1_382.ext E384
        have A374_393 := A374.ext E384
        have Fcoder_b374_394 := Fcoder_b374.ext E384
        have Fvalue_b374_395 := Fvalue_b374.ext E384
        have Z_396 := Nat.le_trans Z_383 E384.1
        have V_b384_384 : Arv Z h384 b384 k384 .char (3 : Int32) [(.int (0 : Int32)), (.int (0 : Int32)), (.int (0 : Int32))] (.int (0 : Int32)) := V384.pad (pad_rep [] (.int (0 : Int32)) 3)
        refine Owe.dup X384.here hx (hb hby at_122) rfl rfl ?_
        refine Owe.iconst X384.here hx (hb hby at_123) (w := (0 : Int32)) rfl ?_
        refine Owe.iloadN X384.here hx (hb hby at_124) rfl ?_
        refine Owe.sipush X384.here hx (hb hby at_125) (w := (255 : Int32)) rfl ?_
        refine Owe.iand X384.here hx (hb hby at_128) rfl ?_
        refine Owe.i2c X384.here hx (hb hby at_129) rfl ?_
        refine Owe.castore X384 hx hZ365 e384 V_b384_384 (x := ((p2 &&& (255 : Int32)).toUInt32.toUInt16.toUInt32.toInt32)) 0 rfl (Nat.le_of_ble_eq_true rfl) (by decide) (hb hby at_130) rfl fun T397 h397 X397 e397 W397 (V397 : Arv Z h397 b384 k384 .char (3 : Int32) [(.int (nar .char ((p2 &&& (255 : Int32)).toUInt32.toUInt16.toUInt32.toInt32))), (.int (0 : Int32)), (.int (0 : Int32))] (.int (0 : Int32))) => ?_
        have hk398 := Nat.le_trans hk385 (Keep.of_wr W397).1
        have sf_b352_398 := Safe.wr W397 sf_b384_385 H385 sf_b352_385
        have sf_b357_398 := Safe.wr W397 sf_b384_385 H385 sf_b357_385
        have sf_b374_398 := Safe.wr W397 sf_b384_385 H385 sf_b374_385
        have sf_b384_398 := Safe.wr W397 sf_b384_385 H385 sf_b384_385
        have Rr398 := Rr385.trans (CHr.wr W397 sf_b384_385 H385)
        have H398 := CHv.wr W397 sf_b384_385 H385
        have Ol_399 := Ol_386.wr W397 ge_b384
        have E_sk_400 := E_sk_387.wr W397
        have E_a1_401 := E_a1_388.wr W397
        have V_b357_402 := V_b357_389.other W397 ne_b357_b384
        have Fvalue_a1_403 := Fvalue_a1_390.other W397 (Or.inl ne_b352_b384)
        have Fcoder_a1_404 := Fcoder_a1_391.other W397 (Or.inl ne_b352_b384)
        have V_b1_405 := V_b1_392.other W397 ne_b1_365_b384
        have A374_406 := A374_393.wr W397
        have Fcoder_b374_407 := Fcoder_b374_394.other W397 (Or.inl ne_b374_b384)
        have Fvalue_b374_408 := Fvalue_b374_395.other W397 (Or.inl ne_b374_b384)
        have Z_409 := Nat.le_trans Z_396 (Keep.of_wr W397).1
        have N397 := Fr.snoc X397 N365 ge_b384
        refine Owe.dup X397.here hx (hb hby at_131) rfl rfl ?_
        refine Owe.iconst X397.here hx (hb hby at_132) (w := (1 : Int32)) rfl ?_
        refine Owe.iloadN X397.here hx (hb hby at_133) rfl ?_
        refine Owe.bipush X397.here hx (hb hby at_134) (w := (8 : Int32)) rfl ?_
        refine Owe.iushr X397.here hx (hb hby at_136) rfl ?_
        refine Owe.sipush X397.here hx (hb hby at_137) (w := (255 : Int32)) rfl ?_
        refine Owe.iand X397.here hx (hb hby at_140) rfl ?_
        refine Owe.i2c X397.here hx (hb hby at_141) rfl ?_
        refine Owe.castore X397 hx hZ365 e397 V397 (x := ((((p2.toUInt32 >>> ((8 : Int32) &&& 31).toUInt32).toInt32) &&& (255 : Int32)).toUInt32.toUInt16.toUInt32.toInt32)) 1 rfl (Nat.le_of_ble_eq_true rfl) (by decide) (hb hby at_142) rfl fun T410 h410 X410 e410 W410 (V410 : Arv Z h410 b384 k384 .char (3 : Int32) [(.int (nar .char ((p2 &&& (255 : Int32)).toUInt32.toUInt16.toUInt32.toInt32))), (.int (nar .char ((((p2.toUInt32 >>> ((8 : Int32) &&& 31).toUInt32).toInt32) &&& (255 : Int32)).toUInt32.toUInt16.toUInt32.toInt32))), (.int (0 : Int32))] (.int (0 : Int32))) => ?_
        have hk411 := Nat.le_trans hk398 (Keep.of_wr W410).1
        have sf_b352_411 := Safe.wr W410 sf_b384_398 H398 sf_b352_398
        have sf_b357_411 := Safe.wr W410 sf_b384_398 H398 sf_b357_398
        have sf_b374_411 := Safe.wr W410 sf_b384_398 H398 sf_b374_398
        have sf_b384_411 := Safe.wr W410 sf_b384_398 H398 sf_b384_398
        have Rr411 := Rr398.trans (CHr.wr W410 sf_b384_398 H398)
        have H411 := CHv.wr W410 sf_b384_398 H398
        have Ol_412 := Ol_399.wr W410 ge_b384
        have E_sk_413 := E_sk_400.wr W410
        have E_a1_414 := E_a1_401.wr W410
        have V_b357_415 := V_b357_402.other W410 ne_b357_b384
        have Fvalue_a1_416 := Fvalue_a1_403.other W410 (Or.inl ne_b352_b384)
        have Fcoder_a1_417 := Fcoder_a1_404.other W410 (Or.inl ne_b352_b384)
        have V_b1_418 := V_b1_405.other W410 ne_b1_365_b384
        have A374_419 := A374_406.wr W410
        have Fcoder_b374_420 := Fcoder_b374_407.other W410 (Or.inl ne_b374_b384)
        have Fvalue_b374_421 := Fvalue_b374_408.other W410 (Or.inl ne_b374_b384)
        have Z_422 := Nat.le_trans Z_409 (Keep.of_wr W410).1
        have N410 := Fr.snoc X410 N397 ge_b384
        refine Owe.dup X410.here hx (hb hby at_143) rfl rfl ?_
        refine Owe.iconst X410.here hx (hb hby at_144) (w := (2 : Int32)) rfl ?_
        refine Owe.iloadN X410.here hx (hb hby at_145) rfl ?_
        refine Owe.bipush X410.here hx (hb hby at_146) (w := (16 : Int32)) rfl ?_
        refine Owe.iushr X410.here hx (hb hby at_148) rfl ?_
        refine Owe.sipush X410.here hx (hb hby at_149) (w := (255 : Int32)) rfl ?_
        refine Owe.iand X410.here hx (hb hby at_152) rfl ?_
        refine Owe.i2c X410.here hx (hb hby at_153) rfl ?_
        refine Owe.castore X410 hx hZ365 e410 V410 (x := ((((p2.toUInt32 >>> ((16 : Int32) &&& 31).toUInt32).toInt32) &&& (255 : Int32)).toUInt32.toUInt16.toUInt32.toInt32)) 2 rfl (Nat.le_of_ble_eq_true rfl) (by decide) (hb hby at_154) rfl fun T423 h423 X423 e423 W423 (V423 : Arv Z h423 b384 k384 .char (3 : Int32) [(.int (nar .char ((p2 &&& (255 : Int32)).toUInt32.toUInt16.toUInt32.toInt32))), (.int (nar .char ((((p2.toUInt32 >>> ((8 : Int32) &&& 31).toUInt32).toInt32) &&& (255 : Int32)).toUInt32.toUInt16.toUInt32.toInt32))), (.int (nar .char ((((p2.toUInt32 >>> ((16 : Int32) &&& 31).toUInt32).toInt32) &&& (255 : Int32)).toUInt32.toUInt16.toUInt32.toInt32)))] (.int (0 : Int32))) => ?_
        have hk424 := Nat.le_trans hk411 (Keep.of_wr W423).1
        have sf_b352_424 := Safe.wr W423 sf_b384_411 H411 sf_b352_411
        have sf_b357_424 := Safe.wr W423 sf_b384_411 H411 sf_b357_411
        have sf_b374_424 := Safe.wr W423 sf_b384_411 H411 sf_b374_411
        have sf_b384_424 := Safe.wr W423 sf_b384_411 H411 sf_b384_411
        have Rr424 := Rr411.trans (CHr.wr W423 sf_b384_411 H411)
        have H424 := CHv.wr W423 sf_b384_411 H411
        have Ol_425 := Ol_412.wr W423 ge_b384
        have E_sk_426 := E_sk_413.wr W423
        have E_a1_427 := E_a1_414.wr W423
        have V_b357_428 := V_b357_415.other W423 ne_b357_b384
        have Fvalue_a1_429 := Fvalue_a1_416.other W423 (Or.inl ne_b352_b384)
        have Fcoder_a1_430 := Fcoder_a1_417.other W423 (Or.inl ne_b352_b384)
        have V_b1_431 := V_b1_418.other W423 ne_b1_365_b384
        have A374_432 := A374_419.wr W423
        have Fcoder_b374_433 := Fcoder_b374_420.other W423 (Or.inl ne_b374_b384)
        have Fvalue_b374_434 := Fvalue_b374_421.other W423 (Or.inl ne_b374_b384)
        have Z_435 := Nat.le_trans Z_422 (Keep.of_wr W423).1
        have N423 := Fr.snoc X423 N410 ge_b384
        have hp436 : ∀ c ∈ ([(nar .char ((p2 &&& (255 : Int32)).toUInt32.toUInt16.toUInt32.toInt32)), (nar .char ((((p2.toUInt32 >>> ((8 : Int32) &&& 31).toUInt32).toInt32) &&& (255 : Int32)).toUInt32.toUInt16.toUInt32.toInt32)), (nar .char ((((p2.toUInt32 >>> ((16 : Int32) &&& 31).toUInt32).toInt32) &&& (255 : Int32)).toUInt32.toUInt16.toUInt32.toInt32))] : List Int32), ¬ c < 0 ∧ ¬ (255 : Int32) < c := by
          intro c hc
          simp only [List.mem_cons, List.not_mem_nil, or_false] at hc
          rcases hc with rfl | rfl | rfl
          · exact and255_chars _
          · exact and255_chars _
          · exact and255_chars _
        refine Owe.special X423 hx (y := (⟨"java/lang/String", "<init>", "([C)V"⟩ : MethodName)) rfl hown365 (mvT hZ365 (hw _ (List.mem_of_getElem? (i := 4) rfl))) (mvT hZ365 (hw _ (List.mem_of_getElem? (i := 5) rfl))) (mvT hZ365 (hw _ (List.mem_of_getElem? (i := 6) rfl))) (by decide) (StrChars.Road.backV (W := 1) hZ365 hws (kI := 4) (hw _ (List.mem_of_getElem? (i := 1) rfl)) (cs := ([(nar .char ((p2 &&& (255 : Int32)).toUInt32.toUInt16.toUInt32.toInt32)), (nar .char ((((p2.toUInt32 >>> ((8 : Int32) &&& 31).toUInt32).toInt32) &&& (255 : Int32)).toUInt32.toUInt16.toUInt32.toInt32)), (nar .char ((((p2.toUInt32 >>> ((16 : Int32) &&& 31).toUInt32).toInt32) &&& (255 : Int32)).toUInt32.toUInt16.toUInt32.toInt32))] : List Int32)) (bs := ([(nar .char ((p2 &&& (255 : Int32)).toUInt32.toUInt16.toUInt32.toInt32)), (nar .char ((((p2.toUInt32 >>> ((8 : Int32) &&& 31).toUInt32).toInt32) &&& (255 : Int32)).toUInt32.toUInt16.toUInt32.toInt32)), (nar .char ((((p2.toUInt32 >>> ((16 : Int32) &&& 31).toUInt32).toInt32) &&& (255 : Int32)).toUInt32.toUInt16.toUInt32.toInt32))] : List Int32).map (fun c => c.toInt8.toInt32)) (n := 3) ge_b374 Z_435 A374_432 Fvalue_b374_434 Fcoder_b374_433 V423 (S_COMPACT_STRINGS.ext Ol_425.2) cs0 rfl rfl (by decide) (by decide) hp436 rfl (by decide) (by decide)) (by rw [hml]; rfl) (a := b374) (argsL := [(.ref b384)]) (rest := [(.ref b374)]) (lenOf pd_4 rfl) rfl (Nat.le_of_ble_eq_true rfl) (hb hby at_155) rfl e423 (by decide) (by decide) fun T437 v437 L437 X437 hQ437 => ?_
        obtain ⟨rfl, Nq437, K437, Ex437, Fc437, t437, kb437, gt437, ft437, nt437, Fv437, Vt437⟩ := hQ437
        have N437 := Fr.app N423 Nq437
        have ne_sk_t437 : sk ≠ t437 := Nat.ne_of_lt (Nat.lt_of_lt_of_le E_sk_426.lt ft437)
        have ne_b352_t437 : b352 ≠ t437 := Nat.ne_of_lt (Nat.lt_of_lt_of_le E_a1_427.lt ft437)
        have ne_b357_t437 : b357 ≠ t437 := Nat.ne_of_lt (Nat.lt_of_lt_of_le V_b357_428.lt ft437)
        have ne_b1_365_t437 : b1_365 ≠ t437 := Nat.ne_of_lt (Nat.lt_of_lt_of_le V_b1_431.lt ft437)
        have ne_b374_t437 : b374 ≠ t437 := Nat.ne_of_lt (Nat.lt_of_lt_of_le A374_432.lt ft437)
        have ne_b384_t437 : b384 ≠ t437 := Nat.ne_of_lt (Nat.lt_of_lt_of_le V423.lt ft437)
        have hk438 := Nat.le_trans hk424 K437.1
        have sf_b352_438 := Safe.keep K437 (sfS sf_b374_424 sf0) H424 sf_b352_424
        have sf_b357_438 := Safe.keep K437 (sfS sf_b374_424 sf0) H424 sf_b357_424
        have sf_b374_438 := Safe.keep K437 (sfS sf_b374_424 sf0) H424 sf_b374_424
        have sf_b384_438 := Safe.keep K437 (sfS sf_b374_424 sf0) H424 sf_b384_424
        have Rr438 := Rr424.trans (CHr.keep K437 (sfS sf_b374_424 sf0) H424)
        have H438 := CHv.keep K437 (sfS sf_b374_424 sf0) H424
        have Ol_439 := Ol_425.keep K437 (allS ge_b374 all0)
        have E_sk_440 := E_sk_426.keep K437
        have E_a1_441 := E_a1_427.keep K437
        have V_b357_442 := V_b357_428.keep K437 (ninS ne_b357_b374 nin0)
        have Fvalue_a1_443 := Fvalue_a1_429.keep K437 (ninS ne_b352_b374 nin0)
        have Fcoder_a1_444 := Fcoder_a1_430.keep K437 (ninS ne_b352_b374 nin0)
        have V_b1_445 := V_b1_431.keep K437 (ninS ne_b1_365_b374 nin0)
        have A374_446 := A374_432.keep K437
        have V423_447 := V423.keep K437 (ninS (Ne.symm ne_b374_b384) nin0)
        have Z_448 := Nat.le_trans Z_435 K437.1
        refine Owe.astore X437.here hx (hb hby at_158) rfl rfl (l' := #[.val (.int p1), .val (.int p2), .val (.int p3), .val (.ref b352), .val (.ref b374), .unset]) rfl ?_
        refine Owe.aloadN X437.here hx (hb hby at_160) rfl rfl ?_
        refine Owe.aload X437.here hx (hb hby at_161) rfl rfl ?_
        refine Owe.stat X437 hx (y := (⟨"com/example/clotho/clotho/suite/Outcome", "skip", "(Ljava/lang/String;Ljava/lang/String;)Lcom/example/clotho/clotho/suite/Outcome;"⟩ : MethodName)) hown365 (mvT hZ365 (hw _ (List.mem_of_getElem? (i := 33) rfl))) (mvT hZ365 (hw _ (List.mem_of_getElem? (i := 34) rfl))) (mvT hZ365 (hw _ (List.mem_of_getElem? (i := 35) rfl))) (mvT hZ365 (hw _ (List.mem_of_getElem? (i := 36) rfl))) (by decide) (backOf (W := 0) (rmskp l Z a0 hw [] b352 b374 sk T437.heap n0 Z_448 S_SKIP Ol_439) hZ365 (hw _ (List.mem_of_getElem? (i := 36) rfl)) (hw _ (List.mem_of_getElem? (i := 35) rfl)) (by decide) (by decide)) (by rw [hml]; rfl) (argsL := [(.ref b352), (.ref b374)]) (rest := []) (lenOf pd_5 rfl) rfl (Nat.le_of_ble_eq_true rfl) (hb hby at_163) rfl rfl (by decide) (by decide) fun T449 v449 L449 X449 hQ449 => ?_
        obtain ⟨x1_449, rfl, Nq449, K449, ge_x1_449, fresh_x1_449, E_x1_449, Fverdict_x1_449, Fname_x1_449, Fdetail_x1_449⟩ := hQ449
        have N449 := Fr.app N437 Nq449
        have hk450 := Nat.le_trans hk438 K449.1
        have sf_b352_450 := Safe.keep K449 sf0 H438 sf_b352_438
        have sf_b357_450 := Safe.keep K449 sf0 H438 sf_b357_438
        have sf_b374_450 := Safe.keep K449 sf0 H438 sf_b374_438
        have sf_b384_450 := Safe.keep K449 sf0 H438 sf_b384_438
        have Rr450 := Rr438.trans (CHr.keep K449 sf0 H438)
        have H450 := CHv.keep K449 sf0 H438
        have Ol_451 := Ol_439.keep K449 all0
        have E_sk_452 := E_sk_440.keep K449
        have E_a1_453 := E_a1_441.keep K449
        have V_b357_454 := V_b357_442.keep K449 nin0
        have Fvalue_a1_455 := Fvalue_a1_443.keep K449 nin0
        have Fcoder_a1_456 := Fcoder_a1_444.keep K449 nin0
        have V_b1_457 := V_b1_445.keep K449 nin0
        have Ex437_458 := Ex437.keep K449
        have V423_459 := V423_447.keep K449 nin0
        have Fc437_460 := Fc437.keep K449 nin0
        have Fv437_461 := Fv437.keep K449 nin0
        have Vt437_462 := Vt437.keep K449 nin0
        have Z_463 := Nat.le_trans Z_448 K449.1
        have ne_sk_x1_449 : sk ≠ x1_449 := Nat.ne_of_lt (Nat.lt_of_lt_of_le E_sk_440.lt fresh_x1_449)
        have ne_b352_x1_449 : b352 ≠ x1_449 := Nat.ne_of_lt (Nat.lt_of_lt_of_le E_a1_441.lt fresh_x1_449)
        have ne_b357_x1_449 : b357 ≠ x1_449 := Nat.ne_of_lt (Nat.lt_of_lt_of_le V_b357_442.lt fresh_x1_449)
        have ne_b1_365_x1_449 : b1_365 ≠ x1_449 := Nat.ne_of_lt (Nat.lt_of_lt_of_le V_b1_445.lt fresh_x1_449)
        have ne_b374_x1_449 : b374 ≠ x1_449 := Nat.ne_of_lt (Nat.lt_of_lt_of_le Ex437.lt fresh_x1_449)
        have ne_b384_x1_449 : b384 ≠ x1_449 := Nat.ne_of_lt (Nat.lt_of_lt_of_le V423_447.lt fresh_x1_449)
        have ne_t437_x1_449 : t437 ≠ x1_449 := Nat.ne_of_lt (Nat.lt_of_lt_of_le Vt437.lt fresh_x1_449)
        refine Owe.astore X449.here hx (hb hby at_166) rfl rfl (l' := #[.val (.int p1), .val (.int p2), .val (.int p3), .val (.ref b352), .val (.ref b374), .val (.ref x1_449)]) rfl ?_
        refine Owe.aload X449.here hx (hb hby at_168) rfl rfl ?_
        refine Owe.ifnonnullYes X449.here hx (hb hby at_170) rfl (pc' := 175) (by decide) (by decide) ?_
        refine Owe.aload X449.here hx (hb hby at_175) rfl rfl ?_
        refine Owe.virt X449 hx hZ365 (y := (⟨"com/example/clotho/clotho/suite/Outcome", "verdict", "()Lcom/example/clotho/clotho/suite/Outcome$Verdict;"⟩ : MethodName)) (z := (⟨"com/example/clotho/clotho/suite/Outcome", "verdict", "()Lcom/example/clotho/clotho/suite/Outcome$Verdict;"⟩ : MethodName)) hown365 (mvT hZ365 (hw _ (List.mem_of_getElem? (i := 57) rfl))) (mvT hZ365 (hw _ (List.mem_of_getElem? (i := 58) rfl))) (mvT hZ365 (hw _ (List.mem_of_getElem? (i := 60) rfl))) (mvT hZ365 (hw _ (List.mem_of_getElem? (i := 59) rfl))) (notFace_of_selects (args := #[]) (mvT hZ365 (hw _ (List.mem_of_getElem? (i := 60) rfl)))) (by decide) (backOf (W := 0) (rmgv l Z a0 hw [] x1_449 sk T449.heap n0 Z_463 Fverdict_x1_449) hZ365 (hw _ (List.mem_of_getElem? (i := 61) rfl)) (hw _ (List.mem_of_getElem? (i := 35) rfl)) (by decide) (by decide)) (by rw [hml]; rfl) (a := x1_449) (argsL := []) (rest := []) E_x1_449 (lenOf pd_6 rfl) rfl (Nat.le_of_ble_eq_true rfl) (hb hby at_177) rfl rfl (by decide) (by decide) fun T464 v464 L464 X464 hQ464 => ?_
        obtain ⟨rfl, Nq464, e464⟩ := hQ464
        have N464 := Fr.app N449 Nq464
        refine Owe.gets X464 hx hZ365 hown365 (hw _ (List.mem_of_getElem? (i := 62) rfl)) Via.refl e464 (S_SKIP.ext Ol_451.2) (hb hby at_180) fun T465 X465 e465 => ?_
        refine Owe.acmpNo X465.here hx (hb hby at_183) rfl rfl rfl (by simp [Jvm.Free.XT.acmp]) ?_
        refine Owe.aload X465.here hx (hb hby at_186) rfl rfl ?_
        refine Owe.virt X465 hx hZ365 (y := (⟨"com/example/clotho/clotho/suite/Outcome", "name", "()Ljava/lang/String;"⟩ : MethodName)) (z := (⟨"com/example/clotho/clotho/suite/Outcome", "name", "()Ljava/lang/String;"⟩ : MethodName)) hown365 (mvT hZ365 (hw _ (List.mem_of_getElem? (i := 63) rfl))) (mvT hZ365 (hw _ (List.mem_of_getElem? (i := 64) rfl))) (mvT hZ365 (hw _ (List.mem_of_getElem? (i := 66) rfl))) (mvT hZ365 (hw _ (List.mem_of_getElem? (i := 65) rfl))) (notFace_of_selects (args := #[]) (mvT hZ365 (hw _ (List.mem_of_getElem? (i := 66) rfl)))) (by decide) (backOf (W := 0) (rmgn l Z a0 hw [] x1_449 b352 T449.heap n0 Z_463 Fname_x1_449) hZ365 (hw _ (List.mem_of_getElem? (i := 67) rfl)) (hw _ (List.mem_of_getElem? (i := 35) rfl)) (by decide) (by decide)) (by rw [hml]; rfl) (a := x1_449) (argsL := []) (rest := []) E_x1_449 (lenOf pd_7 rfl) rfl (Nat.le_of_ble_eq_true rfl) (hb hby at_188) rfl e465 (by decide) (by decide) fun T466 v466 L466 X466 hQ466 => ?_
        obtain ⟨rfl, Nq466, e466⟩ := hQ466
        have N466 := Fr.app N464 Nq466
        refine Owe.aloadN X466.here hx (hb hby at_191) rfl rfl ?_
        refine Owe.stat X466 hx (y := (⟨"com/example/clotho/clotho/suite/OutcomeSkipPinLaw", "same", "(Ljava/lang/String;Ljava/lang/String;)Z"⟩ : MethodName)) hown365 (mvT hZ365 (hw _ (List.mem_of_getElem? (i := 68) rfl))) (mvT hZ365 (hw _ (List.mem_of_getElem? (i := 69) rfl))) (mvT hZ365 (hw _ (List.mem_of_getElem? (i := 70) rfl))) (mvT hZ365 (hw _ (List.mem_of_getElem? (i := 71) rfl))) (by decide) (backOf (W := 0) (rmsam l Z a0 hw [] b352 T449.heap n0 Z_463 E_a1_453) hZ365 (hw _ (List.mem_of_getElem? (i := 71) rfl)) (hw _ (List.mem_of_getElem? (i := 70) rfl)) (by decide) (by decide)) (by rw [hml]; rfl) (argsL := [(.ref b352), (.ref b352)]) (rest := []) (lenOf pd_8 rfl) rfl (Nat.le_of_ble_eq_true rfl) (hb hby at_192) rfl e466 (by decide) (by decide) fun T467 v467 L467 X467 hQ467 => ?_
        obtain ⟨rfl, Nq467, e467⟩ := hQ467
        have N467 := Fr.app N466 Nq467
        refine Owe.ifNo X467.here hx (hb hby at_195) rfl ((if0 _ _).trans (feq (by decide)).1) ?_
        refine Owe.aload X467.here hx (hb hby at_198) rfl rfl ?_
        refine Owe.virt X467 hx hZ365 (y := (⟨"com/example/clotho/clotho/suite/Outcome", "detail", "()Ljava/lang/String;"⟩ : MethodName)) (z := (⟨"com/example/clotho/clotho/suite/Outcome", "detail", "()Ljava/lang/String;"⟩ : MethodName)) hown365 (mvT hZ365 (hw _ (List.mem_of_getElem? (i := 77) rfl))) (mvT hZ365 (hw _ (List.mem_of_getElem? (i := 78) rfl))) (mvT hZ365 (hw _ (List.mem_of_getElem? (i := 80) rfl))) (mvT hZ365 (hw _ (List.mem_of_getElem? (i := 79) rfl))) (notFace_of_selects (args := #[]) (mvT hZ365 (hw _ (List.mem_of_getElem? (i := 80) rfl)))) (by decide) (backOf (W := 0) (rmgd l Z a0 hw [] x1_449 b374 T449.heap n0 Z_463 Fdetail_x1_449) hZ365 (hw _ (List.mem_of_getElem? (i := 81) rfl)) (hw _ (List.mem_of_getElem? (i := 35) rfl)) (by decide) (by decide)) (by rw [hml]; rfl) (a := x1_449) (argsL := []) (rest := []) E_x1_449 (lenOf pd_7 rfl) rfl (Nat.le_of_ble_eq_true rfl) (hb hby at_200) rfl e467 (by decide) (by decide) fun T468 v468 L468 X468 hQ468 => ?_
        obtain ⟨rfl, Nq468, e468⟩ := hQ468
        have N468 := Fr.app N467 Nq468
        refine Owe.aload X468.here hx (hb hby at_203) rfl rfl ?_
        refine Owe.stat X468 hx (y := (⟨"com/example/clotho/clotho/suite/OutcomeSkipPinLaw", "same", "(Ljava/lang/String;Ljava/lang/String;)Z"⟩ : MethodName)) hown365 (mvT hZ365 (hw _ (List.mem_of_getElem? (i := 68) rfl))) (mvT hZ365 (hw _ (List.mem_of_getElem? (i := 69) rfl))) (mvT hZ365 (hw _ (List.mem_of_getElem? (i := 70) rfl))) (mvT hZ365 (hw _ (List.mem_of_getElem? (i := 71) rfl))) (by decide) (backOf (W := 0) (rmsam l Z a0 hw [] b374 T449.heap n0 Z_463 Ex437_458) hZ365 (hw _ (List.mem_of_getElem? (i := 71) rfl)) (hw _ (List.mem_of_getElem? (i := 70) rfl)) (by decide) (by decide)) (by rw [hml]; rfl) (argsL := [(.ref b374), (.ref b374)]) (rest := []) (lenOf pd_8 rfl) rfl (Nat.le_of_ble_eq_true rfl) (hb hby at_205) rfl e468 (by decide) (by decide) fun T469 v469 L469 X469 hQ469 => ?_
        obtain ⟨rfl, Nq469, e469⟩ := hQ469
        have N469 := Fr.app N468 Nq469
        refine Owe.ifNo X469.here hx (hb hby at_208) rfl ((if0 _ _).trans (feq (by decide)).1) ?_
        refine Owe.iconst X469.here hx (hb hby at_211) (w := (1 : Int32)) rfl ?_
        refine Owe.goto X469.here hx (hb hby at_212) (pc' := 216) (by decide) (by decide) ?_
        refine Owe.retNW X469 hx hS365 e469 hk450 hlk (t := .boolean) Bd.returns (by simp) (hb hby at_216) rfl fun fs hE => ?_
        rw [hG]
        refine ⟨_, _, rfl, ?_, ?_, coldMono hE (by decide) (by decide)⟩
        rotate_left
        · rw [hh]
          show CHr Z own_EL s.vm h0 T469.vm T469.heap
          rw [e469]
          exact Rr450.trans (CHv.at X469 hZ365 (own_ew hw) H450)
        show Q0 Z p1 p2 p3 G1 sk h0 n0 _ T469.heap _
        rw [e469]
        exact ⟨rfl, N469⟩
      · skip
        refine Owe.ifNo X365.here hx (hb hby at_76) rfl ((if0 _ _).trans (feq hc76_373).1) ?_
        refine Owe.new X365 hx hZ365 hown365 (hw _ (List.mem_of_getElem? (i := 0) rfl)) (hw _ (List.mem_of_getElem? (i := 1) rfl)) (hw _ (List.mem_of_getElem? (i := 2) rfl)) rfl (hb hby at_79) (by decide) (by decide) fun T470 h470 b470 g470 X470 e470 E470 A470 D470 => ?_
        have ne_sk_b470 : sk ≠ b470 := Nat.ne_of_lt (Nat.lt_of_lt_of_le E_sk_368.lt (Nat.le_of_eq g470.symm))
        have ne_b352_b470 : b352 ≠ b470 := Nat.ne_of_lt (Nat.lt_of_lt_of_le E_a1_365.lt (Nat.le_of_eq g470.symm))
        have ne_b357_b470 : b357 ≠ b470 := Nat.ne_of_lt (Nat.lt_of_lt_of_le V_b357_370.lt (Nat.le_of_eq g470.symm))
        have ne_b1_365_b470 : b1_365 ≠ b470 := Nat.ne_of_lt (Nat.lt_of_lt_of_le V_b1_365.lt (Nat.le_of_eq g470.symm))
        have sf_b470 := (Safe.new (Nat.le_of_eq g470.symm) : Safe Z own_EL T365.vm T365.heap b470)
        have ge_b470 := Nat.le_trans Z_371 (Nat.le_of_eq g470.symm)
        have hk471 := Nat.le_trans hk365 E470.1
        have sf_b352_471 := Safe.ext E470 H365 sf_b352_365
        have sf_b357_471 := Safe.ext E470 H365 sf_b357_365
        have sf_b470_471 := Safe.ext E470 H365 sf_b470
        have Rr471 := Rr365.trans (CHr.ext E470 H365)
        have H471 := CHv.ext E470 H365
        have Ol_472 := Ol_367.ext E470
        have E_sk_473 := E_sk_368.ext E470
        have E_a1_474 := E_a1_365.ext E470
        have V_b357_475 := V_b357_370.ext E470
        have Fvalue_a1_476 := Fvalue_a1_365.ext E470
        have Fcoder_a1_477 := Fcoder_a1_365.ext E470
        have V_b1_478 := V_b1_365.ext E470
        have Z_479 := Nat.le_trans Z_371 E470.1
        have Fcoder_b470 : Fld Z h470 b470 "java/lang/String" "coder" "B" (.int (0 : Int32)) := D470 (Or.inr (hw _ (List.mem_of_getElem? (i := 27) rfl))) (ty := .byte) (by decide)
        have Fvalue_b470 : Fld Z h470 b470 "java/lang/String" "value" "[B" .null := D470 (Or.inr (hw _ (List.mem_of_getElem? (i := 29) rfl))) (ty := (.array .byte)) (by decide)
        refine Owe.dup X470.here hx (hb hby at_82) rfl rfl ?_
        refine Owe.iconst X470.here hx (hb hby at_83) (w := (2 : Int32)) rfl ?_
        refine Owe.newarr X470 hx hZ365 (aty := .char) (hw _ (List.mem_of_getElem? (i := 3) rfl)) e470 (hb hby at_84) rfl (by decide) (cap := 2) (by decide) (by decide) (by decide) (by decide) fun T480 h480 b480 k480 g480 X480 e480 E480 V480 => ?_
        have ne_sk_b480 : sk ≠ b480 := Nat.ne_of_lt (Nat.lt_of_lt_of_le E_sk_473.lt (Nat.le_of_eq g480.symm))
        have ne_b352_b480 : b352 ≠ b480 := Nat.ne_of_lt (Nat.lt_of_lt_of_le E_a1_474.lt (Nat.le_of_eq g480.symm))
        have ne_b357_b480 : b357 ≠ b480 := Nat.ne_of_lt (Nat.lt_of_lt_of_le V_b357_475.lt (Nat.le_of_eq g480.symm))
        have ne_b1_365_b480 : b1_365 ≠ b480 := Nat.ne_of_lt (Nat.lt_of_lt_of_le V_b1_478.lt (Nat.le_of_eq g480.symm))
        have ne_b470_b480 : b470 ≠ b480 := Nat.ne_of_lt (Nat.lt_of_lt_of_le A470.lt (Nat.le_of_eq g480.symm))
        have sf_b480 := (Safe.new (Nat.le_of_eq g480.symm) : Safe Z own_EL T365.vm h470 b480)
        have ge_b480 := Nat.le_trans Z_479 (Nat.le_of_eq g480.symm)
        have hk481 := Nat.le_trans hk471 E480.1
        have sf_b352_481 := Safe.ext E480 H471 sf_b352_471
        have sf_b357_481 := Safe.ext E480 H471 sf_b357_471
        have sf_b470_481 := Safe.ext E480 H471 sf_b470_471
        have sf_b480_481 := Safe.ext E480 H471 sf_b480
        have Rr481 := Rr471.trans (CHr.ext E480 H471)
        have H481 := CHv.ext E480 H471
        have Ol_482 := Ol_472.ext E480
        have E_sk_483 := E_sk_473.ext E480
        have E_a1_484 := E_a1_474.ext E480
        have V_b357_485 := V_b357_475.ext E480
        have Fvalue_a1_486 := Fvalue_a1_476.ext E480
        have Fcoder_a1_487 := Fcoder_a1_477.ext E480
        have V_b1_488 := V_b1_478.ext E480
        have A470_489 := A470.ext E480
        have Fcoder_b470_490 := Fcoder_b470.ext E480
        have Fvalue_b470_491 := Fvalue_b470.ext E480
        have Z_492 := Nat.le_trans Z_479 E480.1
        have V_b480_480 : Arv Z h480 b480 k480 .char (2 : Int32) [(.int (0 : Int32)), (.int (0 : Int32))] (.int (0 : Int32)) := V480.pad (pad_rep [] (.int (0 : Int32)) 2)
        refine Owe.dup X480.here hx (hb hby at_86) rfl rfl ?_
        refine Owe.iconst X480.here hx (hb hby at_87) (w := (0 : Int32)) rfl ?_
        refine Owe.iloadN X480.here hx (hb hby at_88) rfl ?_
        refine Owe.sipush X480.here hx (hb hby at_89) (w := (255 : Int32)) rfl ?_
        refine Owe.iand X480.here hx (hb hby at_92) rfl ?_
        refine Owe.i2c X480.here hx (hb hby at_93) rfl ?_
        refine Owe.castore X480 hx hZ365 e480 V_b480_480 (x := ((p1 &&& (255 : Int32)).toUInt32.toUInt16.toUInt32.toInt32)) 0 rfl (Nat.le_of_ble_eq_true rfl) (by decide) (hb hby at_94) rfl fun T493 h493 X493 e493 W493 (V493 : Arv Z h493 b480 k480 .char (2 : Int32) [(.int (nar .char ((p1 &&& (255 : Int32)).toUInt32.toUInt16.toUInt32.toInt32))), (.int (0 : Int32))] (.int (0 : Int32))) => ?_
        have hk494 := Nat.le_trans hk481 (Keep.of_wr W493).1
        have sf_b352_494 := Safe.wr W493 sf_b480_481 H481 sf_b352_481
        have sf_b357_494 := Safe.wr W493 sf_b480_481 H481 sf_b357_481
        have sf_b470_494 := Safe.wr W493 sf_b480_481 H481 sf_b470_481
        have sf_b480_494 := Safe.wr W493 sf_b480_481 H481 sf_b480_481
        have Rr494 := Rr481.trans (CHr.wr W493 sf_b480_481 H481)
        have H494 := CHv.wr W493 sf_b480_481 H481
        have Ol_495 := Ol_482.wr W493 ge_b480
        have E_sk_496 := E_sk_483.wr W493
        have E_a1_497 := E_a1_484.wr W493
        have V_b357_498 := V_b357_485.other W493 ne_b357_b480
        have Fvalue_a1_499 := Fvalue_a1_486.other W493 (Or.inl ne_b352_b480)
        have Fcoder_a1_500 := Fcoder_a1_487.other W493 (Or.inl ne_b352_b480)
        have V_b1_501 := V_b1_488.other W493 ne_b1_365_b480
        have A470_502 := A470_489.wr W493
        have Fcoder_b470_503 := Fcoder_b470_490.other W493 (Or.inl ne_b470_b480)
        have Fvalue_b470_504 := Fvalue_b470_491.other W493 (Or.inl ne_b470_b480)
        have Z_505 := Nat.le_trans Z_492 (Keep.of_wr W493).1
        have N493 := Fr.snoc X493 N365 ge_b480
        refine Owe.dup X493.here hx (hb hby at_95) rfl rfl ?_
        refine Owe.iconst X493.here hx (hb hby at_96) (w := (1 : Int32)) rfl ?_
        refine Owe.iloadN X493.here hx (hb hby at_97) rfl ?_
        refine Owe.bipush X493.here hx (hb hby at_98) (w := (8 : Int32)) rfl ?_
        refine Owe.iushr X493.here hx (hb hby at_100) rfl ?_
        refine Owe.sipush X493.here hx (hb hby at_101) (w := (255 : Int32)) rfl ?_
        refine Owe.iand X493.here hx (hb hby at_104) rfl ?_
        refine Owe.i2c X493.here hx (hb hby at_105) rfl ?_
        refine Owe.castore X493 hx hZ365 e493 V493 (x := ((((p1.toUInt32 >>> ((8 : Int32) &&& 31).toUInt32).toInt32) &&& (255 : Int32)).toUInt32.toUInt16.toUInt32.toInt32)) 1 rfl (Nat.le_of_ble_eq_true rfl) (by decide) (hb hby at_106) rfl fun T506 h506 X506 e506 W506 (V506 : Arv Z h506 b480 k480 .char (2 : Int32) [(.int (nar .char ((p1 &&& (255 : Int32)).toUInt32.toUInt16.toUInt32.toInt32))), (.int (nar .char ((((p1.toUInt32 >>> ((8 : Int32) &&& 31).toUInt32).toInt32) &&& (255 : Int32)).toUInt32.toUInt16.toUInt32.toInt32)))] (.int (0 : Int32))) => ?_
        have hk507 := Nat.le_trans hk494 (Keep.of_wr W506).1
        have sf_b352_507 := Safe.wr W506 sf_b480_494 H494 sf_b352_494
        have sf_b357_507 := Safe.wr W506 sf_b480_494 H494 sf_b357_494
        have sf_b470_507 := Safe.wr W506 sf_b480_494 H494 sf_b470_494
        have sf_b480_507 := Safe.wr W506 sf_b480_494 H494 sf_b480_494
        have Rr507 := Rr494.trans (CHr.wr W506 sf_b480_494 H494)
        have H507 := CHv.wr W506 sf_b480_494 H494
        have Ol_508 := Ol_495.wr W506 ge_b480
        have E_sk_509 := E_sk_496.wr W506
        have E_a1_510 := E_a1_497.wr W506
        have V_b357_511 := V_b357_498.other W506 ne_b357_b480
        have Fvalue_a1_512 := Fvalue_a1_499.other W506 (Or.inl ne_b352_b480)
        have Fcoder_a1_513 := Fcoder_a1_500.other W506 (Or.inl ne_b352_b480)
        have V_b1_514 := V_b1_501.other W506 ne_b1_365_b480
        have A470_515 := A470_502.wr W506
        have Fcoder_b470_516 := Fcoder_b470_503.other W506 (Or.inl ne_b470_b480)
        have Fvalue_b470_517 := Fvalue_b470_504.other W506 (Or.inl ne_b470_b480)
        have Z_518 := Nat.le_trans Z_505 (Keep.of_wr W506).1
        have N506 := Fr.snoc X506 N493 ge_b480
        have hp519 : ∀ c ∈ ([(nar .char ((p1 &&& (255 : Int32)).toUInt32.toUInt16.toUInt32.toInt32)), (nar .char ((((p1.toUInt32 >>> ((8 : Int32) &&& 31).toUInt32).toInt32) &&& (255 : Int32)).toUInt32.toUInt16.toUInt32.toInt32))] : List Int32), ¬ c < 0 ∧ ¬ (255 : Int32) < c := by
          intro c hc
          simp only [List.mem_cons, List.not_mem_nil, or_false] at hc
          rcases hc with rfl | rfl
          · exact and255_chars _
          · exact and255_chars _
        refine Owe.special X506 hx (y := (⟨"java/lang/String", "<init>", "([C)V"⟩ : MethodName)) rfl hown365 (mvT hZ365 (hw _ (List.mem_of_getElem? (i := 4) rfl))) (mvT hZ365 (hw _ (List.mem_of_getElem? (i := 5) rfl))) (mvT hZ365 (hw _ (List.mem_of_getElem? (i := 6) rfl))) (by decide) (StrChars.Road.backV (W := 1) hZ365 hws (kI := 4) (hw _ (List.mem_of_getElem? (i := 1) rfl)) (cs := ([(nar .char ((p1 &&& (255 : Int32)).toUInt32.toUInt16.toUInt32.toInt32)), (nar .char ((((p1.toUInt32 >>> ((8 : Int32) &&& 31).toUInt32).toInt32) &&& (255 : Int32)).toUInt32.toUInt16.toUInt32.toInt32))] : List Int32)) (bs := ([(nar .char ((p1 &&& (255 : Int32)).toUInt32.toUInt16.toUInt32.toInt32)), (nar .char ((((p1.toUInt32 >>> ((8 : Int32) &&& 31).toUInt32).toInt32) &&& (255 : Int32)).toUInt32.toUInt16.toUInt32.toInt32))] : List Int32).map (fun c => c.toInt8.toInt32)) (n := 2) ge_b470 Z_518 A470_515 Fvalue_b470_517 Fcoder_b470_516 V506 (S_COMPACT_STRINGS.ext Ol_508.2) cs0 rfl rfl (by decide) (by decide) hp519 rfl (by decide) (by decide)) (by rw [hml]; rfl) (a := b470) (argsL := [(.ref b480)]) (rest := [(.ref b470)]) (lenOf pd_4 rfl) rfl (Nat.le_of_ble_eq_true rfl) (hb hby at_107) rfl e506 (by decide) (by decide) fun T520 v520 L520 X520 hQ520 => ?_
        obtain ⟨rfl, Nq520, K520, Ex520, Fc520, t520, kb520, gt520, ft520, nt520, Fv520, Vt520⟩ := hQ520
        have N520 := Fr.app N506 Nq520
        have ne_sk_t520 : sk ≠ t520 := Nat.ne_of_lt (Nat.lt_of_lt_of_le E_sk_509.lt ft520)
        have ne_b352_t520 : b352 ≠ t520 := Nat.ne_of_lt (Nat.lt_of_lt_of_le E_a1_510.lt ft520)
        have ne_b357_t520 : b357 ≠ t520 := Nat.ne_of_lt (Nat.lt_of_lt_of_le V_b357_511.lt ft520)
        have ne_b1_365_t520 : b1_365 ≠ t520 := Nat.ne_of_lt (Nat.lt_of_lt_of_le V_b1_514.lt ft520)
        have ne_b470_t520 : b470 ≠ t520 := Nat.ne_of_lt (Nat.lt_of_lt_of_le A470_515.lt ft520)
        have ne_b480_t520 : b480 ≠ t520 := Nat.ne_of_lt (Nat.lt_of_lt_of_le V506.lt ft520)
        have hk521 := Nat.le_trans hk507 K520.1
        have sf_b352_521 := Safe.keep K520 (sfS sf_b470_507 sf0) H507 sf_b352_507
        have sf_b357_521 := Safe.keep K520 (sfS sf_b470_507 sf0) H507 sf_b357_507
        have sf_b470_521 := Safe.keep K520 (sfS sf_b470_507 sf0) H507 sf_b470_507
        have sf_b480_521 := Safe.keep K520 (sfS sf_b470_507 sf0) H507 sf_b480_507
        have Rr521 := Rr507.trans (CHr.keep K520 (sfS sf_b470_507 sf0) H507)
        have H521 := CHv.keep K520 (sfS sf_b470_507 sf0) H507
        have Ol_522 := Ol_508.keep K520 (allS ge_b470 all0)
        have E_sk_523 := E_sk_509.keep K520
        have E_a1_524 := E_a1_510.keep K520
        have V_b357_525 := V_b357_511.keep K520 (ninS ne_b357_b470 nin0)
        have Fvalue_a1_526 := Fvalue_a1_512.keep K520 (ninS ne_b352_b470 nin0)
        have Fcoder_a1_527 := Fcoder_a1_513.keep K520 (ninS ne_b352_b470 nin0)
        have V_b1_528 := V_b1_514.keep K520 (ninS ne_b1_365_b470 nin0)
        have A470_529 := A470_515.keep K520
        have V506_530 := V506.keep K520 (ninS (Ne.symm ne_b470_b480) nin0)
        have Z_531 := Nat.le_trans Z_518 K520.1
        refine Owe.astore X520.here hx (hb hby at_110) rfl rfl (l' := #[.val (.int p1), .val (.int p2), .val (.int p3), .val (.ref b352), .val (.ref b470), .unset]) rfl ?_
        refine Owe.goto X520.here hx (hb hby at_112) (pc' := 160) (by decide) (by decide) ?_
        refine Owe.aloadN X520.here hx (hb hby at_160) rfl rfl ?_
        refine Owe.aload X520.here hx (hb hby at_161) rfl rfl ?_
        refine Owe.stat X520 hx (y := (⟨"com/example/clotho/clotho/suite/Outcome", "skip", "(Ljava/lang/String;Ljava/lang/String;)Lcom/example/clotho/clotho/suite/Outcome;"⟩ : MethodName)) hown365 (mvT hZ365 (hw _ (List.mem_of_getElem? (i := 33) rfl))) (mvT hZ365 (hw _ (List.mem_of_getElem? (i := 34) rfl))) (mvT hZ365 (hw _ (List.mem_of_getElem? (i := 35) rfl))) (mvT hZ365 (hw _ (List.mem_of_getElem? (i := 36) rfl))) (by decide) (backOf (W := 0) (rmskp l Z a0 hw [] b352 b470 sk T520.heap n0 Z_531 S_SKIP Ol_522) hZ365 (hw _ (List.mem_of_getElem? (i := 36) rfl)) (hw _ (List.mem_of_getElem? (i := 35) rfl)) (by decide) (by decide)) (by rw [hml]; rfl) (argsL := [(.ref b352), (.ref b470)]) (rest := []) (lenOf pd_5 rfl) rfl (Nat.le_of_ble_eq_true rfl) (hb hby at_163) rfl rfl (by decide) (by decide) fun T532 v532 L532 X532 hQ532 => ?_
        obtain ⟨x1_532, rfl, Nq532, K532, ge_x1_532, fresh_x1_532, E_x1_532, Fverdict_x1_532, Fname_x1_532, Fdetail_x1_532⟩ := hQ532
        have N532 := Fr.app N520 Nq532
        have hk533 := Nat.le_trans hk521 K532.1
        have sf_b352_533 := Safe.keep K532 sf0 H521 sf_b352_521
        have sf_b357_533 := Safe.keep K532 sf0 H521 sf_b357_521
        have sf_b470_533 := Safe.keep K532 sf0 H521 sf_b470_521
        have sf_b480_533 := Safe.keep K532 sf0 H521 sf_b480_521
        have Rr533 := Rr521.trans (CHr.keep K532 sf0 H521)
        have H533 := CHv.keep K532 sf0 H521
        have Ol_534 := Ol_522.keep K532 all0
        have E_sk_535 := E_sk_523.keep K532
        have E_a1_536 := E_a1_524.keep K532
        have V_b357_537 := V_b357_525.keep K532 nin0
        have Fvalue_a1_538 := Fvalue_a1_526.keep K532 nin0
        have Fcoder_a1_539 := Fcoder_a1_527.keep K532 nin0
        have V_b1_540 := V_b1_528.keep K532 nin0
        have Ex520_541 := Ex520.keep K532
        have V506_542 := V506_530.keep K532 nin0
        have Fc520_543 := Fc520.keep K532 nin0
        have Fv520_544 := Fv520.keep K532 nin0
        have Vt520_545 := Vt520.keep K532 nin0
        have Z_546 := Nat.le_trans Z_531 K532.1
        have ne_sk_x1_532 : sk ≠ x1_532 := Nat.ne_of_lt (Nat.lt_of_lt_of_le E_sk_523.lt fresh_x1_532)
        have ne_b352_x1_532 : b352 ≠ x1_532 := Nat.ne_of_lt (Nat.lt_of_lt_of_le E_a1_524.lt fresh_x1_532)
        have ne_b357_x1_532 : b357 ≠ x1_532 := Nat.ne_of_lt (Nat.lt_of_lt_of_le V_b357_525.lt fresh_x1_532)
        have ne_b1_365_x1_532 : b1_365 ≠ x1_532 := Nat.ne_of_lt (Nat.lt_of_lt_of_le V_b1_528.lt fresh_x1_532)
        have ne_b470_x1_532 : b470 ≠ x1_532 := Nat.ne_of_lt (Nat.lt_of_lt_of_le Ex520.lt fresh_x1_532)
        have ne_b480_x1_532 : b480 ≠ x1_532 := Nat.ne_of_lt (Nat.lt_of_lt_of_le V506_530.lt fresh_x1_532)
        have ne_t520_x1_532 : t520 ≠ x1_532 := Nat.ne_of_lt (Nat.lt_of_lt_of_le Vt520.lt fresh_x1_532)
        refine Owe.astore X532.here hx (hb hby at_166) rfl rfl (l' := #[.val (.int p1), .val (.int p2), .val (.int p3), .val (.ref b352), .val (.ref b470), .val (.ref x1_532)]) rfl ?_
        refine Owe.aload X532.here hx (hb hby at_168) rfl rfl ?_
        refine Owe.ifnonnullYes X532.here hx (hb hby at_170) rfl (pc' := 175) (by decide) (by decide) ?_
        refine Owe.aload X532.here hx (hb hby at_175) rfl rfl ?_
        refine Owe.virt X532 hx hZ365 (y := (⟨"com/example/clotho/clotho/suite/Outcome", "verdict", "()Lcom/example/clotho/clotho/suite/Outcome$Verdict;"⟩ : MethodName)) (z := (⟨"com/example/clotho/clotho/suite/Outcome", "verdict", "()Lcom/example/clotho/clotho/suite/Outcome$Verdict;"⟩ : MethodName)) hown365 (mvT hZ365 (hw _ (List.mem_of_getElem? (i := 57) rfl))) (mvT hZ365 (hw _ (List.mem_of_getElem? (i := 58) rfl))) (mvT hZ365 (hw _ (List.mem_of_getElem? (i := 60) rfl))) (mvT hZ365 (hw _ (List.mem_of_getElem? (i := 59) rfl))) (notFace_of_selects (args := #[]) (mvT hZ365 (hw _ (List.mem_of_getElem? (i := 60) rfl)))) (by decide) (backOf (W := 0) (rmgv l Z a0 hw [] x1_532 sk T532.heap n0 Z_546 Fverdict_x1_532) hZ365 (hw _ (List.mem_of_getElem? (i := 61) rfl)) (hw _ (List.mem_of_getElem? (i := 35) rfl)) (by decide) (by decide)) (by rw [hml]; rfl) (a := x1_532) (argsL := []) (rest := []) E_x1_532 (lenOf pd_6 rfl) rfl (Nat.le_of_ble_eq_true rfl) (hb hby at_177) rfl rfl (by decide) (by decide) fun T547 v547 L547 X547 hQ547 => ?_
        obtain ⟨rfl, Nq547, e547⟩ := hQ547
        have N547 := Fr.app N532 Nq547
        refine Owe.gets X547 hx hZ365 hown365 (hw _ (List.mem_of_getElem? (i := 62) rfl)) Via.refl e547 (S_SKIP.ext Ol_534.2) (hb hby at_180) fun T548 X548 e548 => ?_
        refine Owe.acmpNo X548.here hx (hb hby at_183) rfl rfl rfl (by simp [Jvm.Free.XT.acmp]) ?_
        refine Owe.aload X548.here hx (hb hby at_186) rfl rfl ?_
        refine Owe.virt X548 hx hZ365 (y := (⟨"com/example/clotho/clotho/suite/Outcome", "name", "()Ljava/lang/String;"⟩ : MethodName)) (z := (⟨"com/example/clotho/clotho/suite/Outcome", "name", "()Ljava/lang/String;"⟩ : MethodName)) hown365 (mvT hZ365 (hw _ (List.mem_of_getElem? (i := 63) rfl))) (mvT hZ365 (hw _ (List.mem_of_getElem? (i := 64) rfl))) (mvT hZ365 (hw _ (List.mem_of_getElem? (i := 66) rfl))) (mvT hZ365 (hw _ (List.mem_of_getElem? (i := 65) rfl))) (notFace_of_selects (args := #[]) (mvT hZ365 (hw _ (List.mem_of_getElem? (i := 66) rfl)))) (by decide) (backOf (W := 0) (rmgn l Z a0 hw [] x1_532 b352 T532.heap n0 Z_546 Fname_x1_532) hZ365 (hw _ (List.mem_of_getElem? (i := 67) rfl)) (hw _ (List.mem_of_getElem? (i := 35) rfl)) (by decide) (by decide)) (by rw [hml]; rfl) (a := x1_532) (argsL := []) (rest := []) E_x1_532 (lenOf pd_7 rfl) rfl (Nat.le_of_ble_eq_true rfl) (hb hby at_188) rfl e548 (by decide) (by decide) fun T549 v549 L549 X549 hQ549 => ?_
        obtain ⟨rfl, Nq549, e549⟩ := hQ549
        have N549 := Fr.app N547 Nq549
        refine Owe.aloadN X549.here hx (hb hby at_191) rfl rfl ?_
        refine Owe.stat X549 hx (y := (⟨"com/example/clotho/clotho/suite/OutcomeSkipPinLaw", "same", "(Ljava/lang/String;Ljava/lang/String;)Z"⟩ : MethodName)) hown365 (mvT hZ365 (hw _ (List.mem_of_getElem? (i := 68) rfl))) (mvT hZ365 (hw _ (List.mem_of_getElem? (i := 69) rfl))) (mvT hZ365 (hw _ (List.mem_of_getElem? (i := 70) rfl))) (mvT hZ365 (hw _ (List.mem_of_getElem? (i := 71) rfl))) (by decide) (backOf (W := 0) (rmsam l Z a0 hw [] b352 T532.heap n0 Z_546 E_a1_536) hZ365 (hw _ (List.mem_of_getElem? (i := 71) rfl)) (hw _ (List.mem_of_getElem? (i := 70) rfl)) (by decide) (by decide)) (by rw [hml]; rfl) (argsL := [(.ref b352), (.ref b352)]) (rest := []) (lenOf pd_8 rfl) rfl (Nat.le_of_ble_eq_true rfl) (hb hby at_192) rfl e549 (by decide) (by decide) fun T550 v550 L550 X550 hQ550 => ?_
        obtain ⟨rfl, Nq550, e550⟩ := hQ550
        have N550 := Fr.app N549 Nq550
        refine Owe.ifNo X550.here hx (hb hby at_195) rfl ((if0 _ _).trans (feq (by decide)).1) ?_
        refine Owe.aload X550.here hx (hb hby at_198) rfl rfl ?_
        refine Owe.virt X550 hx hZ365 (y := (⟨"com/example/clotho/clotho/suite/Outcome", "detail", "()Ljava/lang/String;"⟩ : MethodName)) (z := (⟨"com/example/clotho/clotho/suite/Outcome", "detail", "()Ljava/lang/String;"⟩ : MethodName)) hown365 (mvT hZ365 (hw _ (List.mem_of_getElem? (i := 77) rfl))) (mvT hZ365 (hw _ (List.mem_of_getElem? (i := 78) rfl))) (mvT hZ365 (hw _ (List.mem_of_getElem? (i := 80) rfl))) (mvT hZ365 (hw _ (List.mem_of_getElem? (i := 79) rfl))) (notFace_of_selects (args := #[]) (mvT hZ365 (hw _ (List.mem_of_getElem? (i := 80) rfl)))) (by decide) (backOf (W := 0) (rmgd l Z a0 hw [] x1_532 b470 T532.heap n0 Z_546 Fdetail_x1_532) hZ365 (hw _ (List.mem_of_getElem? (i := 81) rfl)) (hw _ (List.mem_of_getElem? (i := 35) rfl)) (by decide) (by decide)) (by rw [hml]; rfl) (a := x1_532) (argsL := []) (rest := []) E_x1_532 (lenOf pd_7 rfl) rfl (Nat.le_of_ble_eq_true rfl) (hb hby at_200) rfl e550 (by decide) (by decide) fun T551 v551 L551 X551 hQ551 => ?_
        obtain ⟨rfl, Nq551, e551⟩ := hQ551
        have N551 := Fr.app N550 Nq551
        refine Owe.aload X551.here hx (hb hby at_203) rfl rfl ?_
        refine Owe.stat X551 hx (y := (⟨"com/example/clotho/clotho/suite/OutcomeSkipPinLaw", "same", "(Ljava/lang/String;Ljava/lang/String;)Z"⟩ : MethodName)) hown365 (mvT hZ365 (hw _ (List.mem_of_getElem? (i := 68) rfl))) (mvT hZ365 (hw _ (List.mem_of_getElem? (i := 69) rfl))) (mvT hZ365 (hw _ (List.mem_of_getElem? (i := 70) rfl))) (mvT hZ365 (hw _ (List.mem_of_getElem? (i := 71) rfl))) (by decide) (backOf (W := 0) (rmsam l Z a0 hw [] b470 T532.heap n0 Z_546 Ex520_541) hZ365 (hw _ (List.mem_of_getElem? (i := 71) rfl)) (hw _ (List.mem_of_getElem? (i := 70) rfl)) (by decide) (by decide)) (by rw [hml]; rfl) (argsL := [(.ref b470), (.ref b470)]) (rest := []) (lenOf pd_8 rfl) rfl (Nat.le_of_ble_eq_true rfl) (hb hby at_205) rfl e551 (by decide) (by decide) fun T552 v552 L552 X552 hQ552 => ?_
        obtain ⟨rfl, Nq552, e552⟩ := hQ552
        have N552 := Fr.app N551 Nq552
        refine Owe.ifNo X552.here hx (hb hby at_208) rfl ((if0 _ _).trans (feq (by decide)).1) ?_
        refine Owe.iconst X552.here hx (hb hby at_211) (w := (1 : Int32)) rfl ?_
        refine Owe.goto X552.here hx (hb hby at_212) (pc' := 216) (by decide) (by decide) ?_
        refine Owe.retNW X552 hx hS365 e552 hk533 hlk (t := .boolean) Bd.returns (by simp) (hb hby at_216) rfl fun fs hE => ?_
        rw [hG]
        refine ⟨_, _, rfl, ?_, ?_, coldMono hE (by decide) (by decide)⟩
        rotate_left
        · rw [hh]
          show CHr Z own_EL s.vm h0 T552.vm T552.heap
          rw [e552]
          exact Rr533.trans (CHv.at X552 hZ365 (own_ew hw) H533)
        show Q0 Z p1 p2 p3 G1 sk h0 n0 _ T552.heap _
        rw [e552]
        exact ⟨rfl, N552⟩
    · skip
      refine Owe.ifNo X365.here hx (hb hby at_55) rfl ((if0 _ _).trans (feq hc55_372).1) ?_
      refine Owe.new X365 hx hZ365 hown365 (hw _ (List.mem_of_getElem? (i := 0) rfl)) (hw _ (List.mem_of_getElem? (i := 1) rfl)) (hw _ (List.mem_of_getElem? (i := 2) rfl)) rfl (hb hby at_58) (by decide) (by decide) fun T553 h553 b553 g553 X553 e553 E553 A553 D553 => ?_
      have ne_sk_b553 : sk ≠ b553 := Nat.ne_of_lt (Nat.lt_of_lt_of_le E_sk_368.lt (Nat.le_of_eq g553.symm))
      have ne_b352_b553 : b352 ≠ b553 := Nat.ne_of_lt (Nat.lt_of_lt_of_le E_a1_365.lt (Nat.le_of_eq g553.symm))
      have ne_b357_b553 : b357 ≠ b553 := Nat.ne_of_lt (Nat.lt_of_lt_of_le V_b357_370.lt (Nat.le_of_eq g553.symm))
      have ne_b1_365_b553 : b1_365 ≠ b553 := Nat.ne_of_lt (Nat.lt_of_lt_of_le V_b1_365.lt (Nat.le_of_eq g553.symm))
      have sf_b553 := (Safe.new (Nat.le_of_eq g553.symm) : Safe Z own_EL T365.vm T365.heap b553)
      have ge_b553 := Nat.le_trans Z_371 (Nat.le_of_eq g553.symm)
      have hk554 := Nat.le_trans hk365 E553.1
      have sf_b352_554 := Safe.ext E553 H365 sf_b352_365
      have sf_b357_554 := Safe.ext E553 H365 sf_b357_365
      have sf_b553_554 := Safe.ext E553 H365 sf_b553
      have Rr554 := Rr365.trans (CHr.ext E553 H365)
      have H554 := CHv.ext E553 H365
      have Ol_555 := Ol_367.ext E553
      have E_sk_556 := E_sk_368.ext E553
      have E_a1_557 := E_a1_365.ext E553
      have V_b357_558 := V_b357_370.ext E553
      have Fvalue_a1_559 := Fvalue_a1_365.ext E553
      have Fcoder_a1_560 := Fcoder_a1_365.ext E553
      have V_b1_561 := V_b1_365.ext E553
      have Z_562 := Nat.le_trans Z_371 E553.1
      have Fcoder_b553 : Fld Z h553 b553 "java/lang/String" "coder" "B" (.int (0 : Int32)) := D553 (Or.inr (hw _ (List.mem_of_getElem? (i := 27) rfl))) (ty := .byte) (by decide)
      have Fvalue_b553 : Fld Z h553 b553 "java/lang/String" "value" "[B" .null := D553 (Or.inr (hw _ (List.mem_of_getElem? (i := 29) rfl))) (ty := (.array .byte)) (by decide)
      refine Owe.dup X553.here hx (hb hby at_61) rfl rfl ?_
      refine Owe.iconst X553.here hx (hb hby at_62) (w := (0 : Int32)) rfl ?_
      refine Owe.newarr X553 hx hZ365 (aty := .char) (hw _ (List.mem_of_getElem? (i := 3) rfl)) e553 (hb hby at_63) rfl (by decide) (cap := 0) (by decide) (by decide) (by decide) (by decide) fun T563 h563 b563 k563 g563 X563 e563 E563 V563 => ?_
      have ne_sk_b563 : sk ≠ b563 := Nat.ne_of_lt (Nat.lt_of_lt_of_le E_sk_556.lt (Nat.le_of_eq g563.symm))
      have ne_b352_b563 : b352 ≠ b563 := Nat.ne_of_lt (Nat.lt_of_lt_of_le E_a1_557.lt (Nat.le_of_eq g563.symm))
      have ne_b357_b563 : b357 ≠ b563 := Nat.ne_of_lt (Nat.lt_of_lt_of_le V_b357_558.lt (Nat.le_of_eq g563.symm))
      have ne_b1_365_b563 : b1_365 ≠ b563 := Nat.ne_of_lt (Nat.lt_of_lt_of_le V_b1_561.lt (Nat.le_of_eq g563.symm))
      have ne_b553_b563 : b553 ≠ b563 := Nat.ne_of_lt (Nat.lt_of_lt_of_le A553.lt (Nat.le_of_eq g563.symm))
      have sf_b563 := (Safe.new (Nat.le_of_eq g563.symm) : Safe Z own_EL T365.vm h553 b563)
      have ge_b563 := Nat.le_trans Z_562 (Nat.le_of_eq g563.symm)
      have hk564 := Nat.le_trans hk554 E563.1
      have sf_b352_564 := Safe.ext E563 H554 sf_b352_554
      have sf_b357_564 := Safe.ext E563 H554 sf_b357_554
      have sf_b553_564 := Safe.ext E563 H554 sf_b553_554
      have sf_b563_564 := Safe.ext E563 H554 sf_b563
      have Rr564 := Rr554.trans (CHr.ext E563 H554)
      have H564 := CHv.ext E563 H554
      have Ol_565 := Ol_555.ext E563
      have E_sk_566 := E_sk_556.ext E563
      have E_a1_567 := E_a1_557.ext E563
      have V_b357_568 := V_b357_558.ext E563
      have Fvalue_a1_569 := Fvalue_a1_559.ext E563
      have Fcoder_a1_570 := Fcoder_a1_560.ext E563
      have V_b1_571 := V_b1_561.ext E563
      have A553_572 := A553.ext E563
      have Fcoder_b553_573 := Fcoder_b553.ext E563
      have Fvalue_b553_574 := Fvalue_b553.ext E563
      have Z_575 := Nat.le_trans Z_562 E563.1
      have V_b563_563 : Arv Z h563 b563 k563 .char (0 : Int32) [] (.int (0 : Int32)) := V563
      refine Owe.specialS X563 hx hZ365 hS365 hk564 (y := (⟨"java/lang/String", "<init>", "([C)V"⟩ : MethodName)) rfl hown365 (mvT hZ365 (hw _ (List.mem_of_getElem? (i := 4) rfl))) (mvT hZ365 (hw _ (List.mem_of_getElem? (i := 5) rfl))) (mvT hZ365 (hw _ (List.mem_of_getElem? (i := 6) rfl))) (by decide) (backOfSH (W := 1) (rmse1 l Z a0 hw [] b553 b563 k563 h563 n0 Z_575 A553_572 Fvalue_b553_574 Fcoder_b553_573 ge_b553 V_b563_563 (Ne.symm ne_b553_b563)) hZ365 (hw _ (List.mem_of_getElem? (i := 6) rfl)) (hw _ (List.mem_of_getElem? (i := 2) rfl)) (by decide) (by decide) (own_ew hw) H564) (by rw [hml]; rfl) (a := b553) (argsL := [(.ref b563)]) (rest := [(.ref b553)]) (lenOf pd_4 rfl) rfl (Nat.le_of_ble_eq_true rfl) (hb hby at_65) rfl e563 (by decide) (by decide) fun T576 v576 L576 X576 hS576 hZ576 hown576 hC576 hQ576 => ?_
      obtain ⟨b1_576, kb1_576, rfl, Nq576, K576, E_a1_576, Fvalue_a1_576, Fcoder_a1_576, V_b1_576⟩ := hQ576
      have N576 := Fr.app N365 Nq576
      have hk577 := Nat.le_trans hk564 K576.1
      have Ol_578 := Ol_565.keep K576 (allS ge_b553 all0)
      have E_sk_579 := E_sk_566.keep K576
      have E_a1_580 := E_a1_567.keep K576
      have V_b357_581 := V_b357_568.keep K576 (ninS ne_b357_b553 nin0)
      have Fvalue_a1_582 := Fvalue_a1_569.keep K576 (ninS ne_b352_b553 nin0)
      have Fcoder_a1_583 := Fcoder_a1_570.keep K576 (ninS ne_b352_b553 nin0)
      have V_b1_584 := V_b1_571.keep K576 (ninS ne_b1_365_b553 nin0)
      have A553_585 := A553_572.keep K576
      have V_b563_586 := V_b563_563.keep K576 (ninS (Ne.symm ne_b553_b563) nin0)
      have Z_587 := Nat.le_trans Z_575 K576.1
      have sf_b352_576 := CHr.safe hC576 E_a1_567.lt sf_b352_564
      have sf_b357_576 := CHr.safe hC576 V_b357_568.lt sf_b357_564
      have sf_b553_576 := CHr.safe hC576 A553_572.lt sf_b553_564
      have sf_b563_576 := CHr.safe hC576 V_b563_563.lt sf_b563_564
      have Rr576 := Rr564.trans hC576
      have H576 := hC576.1
      have hk576 : T576.heap.size ≤ T576.heap.size := Nat.le_refl _
      refine Owe.astore X576.here hx (hb hby at_68) rfl rfl (l' := #[.val (.int p1), .val (.int p2), .val (.int p3), .val (.ref b352), .val (.ref b553), .unset]) rfl ?_
      refine Owe.goto X576.here hx (hb hby at_70) (pc' := 160) (by decide) (by decide) ?_
      refine Owe.aloadN X576.here hx (hb hby at_160) rfl rfl ?_
      refine Owe.aload X576.here hx (hb hby at_161) rfl rfl ?_
      refine Owe.stat X576 hx (y := (⟨"com/example/clotho/clotho/suite/Outcome", "skip", "(Ljava/lang/String;Ljava/lang/String;)Lcom/example/clotho/clotho/suite/Outcome;"⟩ : MethodName)) hown576 (mvT hZ576 (hw _ (List.mem_of_getElem? (i := 33) rfl))) (mvT hZ576 (hw _ (List.mem_of_getElem? (i := 34) rfl))) (mvT hZ576 (hw _ (List.mem_of_getElem? (i := 35) rfl))) (mvT hZ576 (hw _ (List.mem_of_getElem? (i := 36) rfl))) (by decide) (backOf (W := 0) (rmskp l Z a0 hw [] b352 b553 sk T576.heap n0 Z_587 S_SKIP Ol_578) hZ576 (hw _ (List.mem_of_getElem? (i := 36) rfl)) (hw _ (List.mem_of_getElem? (i := 35) rfl)) (by decide) (by decide)) (by rw [hml]; rfl) (argsL := [(.ref b352), (.ref b553)]) (rest := []) (lenOf pd_5 rfl) rfl (Nat.le_of_ble_eq_true rfl) (hb hby at_163) rfl rfl (by decide) (by decide) fun T588 v588 L588 X588 hQ588 => ?_
      obtain ⟨x1_588, rfl, Nq588, K588, ge_x1_588, fresh_x1_588, E_x1_588, Fverdict_x1_588, Fname_x1_588, Fdetail_x1_588⟩ := hQ588
      have N588 := Fr.app N576 Nq588
      have hk589 := Nat.le_trans hk576 K588.1
      have sf_b352_589 := Safe.keep K588 sf0 H576 sf_b352_576
      have sf_b357_589 := Safe.keep K588 sf0 H576 sf_b357_576
      have sf_b553_589 := Safe.keep K588 sf0 H576 sf_b553_576
      have sf_b563_589 := Safe.keep K588 sf0 H576 sf_b563_576
      have Rr589 := Rr576.trans (CHr.keep K588 sf0 H576)
      have H589 := CHv.keep K588 sf0 H576
      have Ol_590 := Ol_578.keep K588 all0
      have E_sk_591 := E_sk_579.keep K588
      have E_a1_592 := E_a1_580.keep K588
      have V_b357_593 := V_b357_581.keep K588 nin0
      have Fvalue_a1_594 := Fvalue_a1_582.keep K588 nin0
      have Fcoder_a1_595 := Fcoder_a1_583.keep K588 nin0
      have V_b1_596 := V_b1_584.keep K588 nin0
      have E_a1_597 := E_a1_576.keep K588
      have V_b563_598 := V_b563_586.keep K588 nin0
      have Fvalue_a1_599 := Fvalue_a1_576.keep K588 nin0
      have Fcoder_a1_600 := Fcoder_a1_576.keep K588 nin0
      have V_b1_601 := V_b1_576.keep K588 nin0
      have Z_602 := Nat.le_trans Z_587 K588.1
      have ne_sk_x1_588 : sk ≠ x1_588 := Nat.ne_of_lt (Nat.lt_of_lt_of_le E_sk_579.lt fresh_x1_588)
      have ne_b352_x1_588 : b352 ≠ x1_588 := Nat.ne_of_lt (Nat.lt_of_lt_of_le E_a1_580.lt fresh_x1_588)
      have ne_b357_x1_588 : b357 ≠ x1_588 := Nat.ne_of_lt (Nat.lt_of_lt_of_le V_b357_581.lt fresh_x1_588)
      have ne_b1_365_x1_588 : b1_365 ≠ x1_588 := Nat.ne_of_lt (Nat.lt_of_lt_of_le V_b1_584.lt fresh_x1_588)
      have ne_b553_x1_588 : b553 ≠ x1_588 := Nat.ne_of_lt (Nat.lt_of_lt_of_le E_a1_576.lt fresh_x1_588)
      have ne_b563_x1_588 : b563 ≠ x1_588 := Nat.ne_of_lt (Nat.lt_of_lt_of_le V_b563_586.lt fresh_x1_588)
      have ne_b1_576_x1_588 : b1_576 ≠ x1_588 := Nat.ne_of_lt (Nat.lt_of_lt_of_le V_b1_576.lt fresh_x1_588)
      refine Owe.astore X588.here hx (hb hby at_166) rfl rfl (l' := #[.val (.int p1), .val (.int p2), .val (.int p3), .val (.ref b352), .val (.ref b553), .val (.ref x1_588)]) rfl ?_
      refine Owe.aload X588.here hx (hb hby at_168) rfl rfl ?_
      refine Owe.ifnonnullYes X588.here hx (hb hby at_170) rfl (pc' := 175) (by decide) (by decide) ?_
      refine Owe.aload X588.here hx (hb hby at_175) rfl rfl ?_
      refine Owe.virt X588 hx hZ576 (y := (⟨"com/example/clotho/clotho/suite/Outcome", "verdict", "()Lcom/example/clotho/clotho/suite/Outcome$Verdict;"⟩ : MethodName)) (z := (⟨"com/example/clotho/clotho/suite/Outcome", "verdict", "()Lcom/example/clotho/clotho/suite/Outcome$Verdict;"⟩ : MethodName)) hown576 (mvT hZ576 (hw _ (List.mem_of_getElem? (i := 57) rfl))) (mvT hZ576 (hw _ (List.mem_of_getElem? (i := 58) rfl))) (mvT hZ576 (hw _ (List.mem_of_getElem? (i := 60) rfl))) (mvT hZ576 (hw _ (List.mem_of_getElem? (i := 59) rfl))) (notFace_of_selects (args := #[]) (mvT hZ576 (hw _ (List.mem_of_getElem? (i := 60) rfl)))) (by decide) (backOf (W := 0) (rmgv l Z a0 hw [] x1_588 sk T588.heap n0 Z_602 Fverdict_x1_588) hZ576 (hw _ (List.mem_of_getElem? (i := 61) rfl)) (hw _ (List.mem_of_getElem? (i := 35) rfl)) (by decide) (by decide)) (by rw [hml]; rfl) (a := x1_588) (argsL := []) (rest := []) E_x1_588 (lenOf pd_6 rfl) rfl (Nat.le_of_ble_eq_true rfl) (hb hby at_177) rfl rfl (by decide) (by decide) fun T603 v603 L603 X603 hQ603 => ?_
      obtain ⟨rfl, Nq603, e603⟩ := hQ603
      have N603 := Fr.app N588 Nq603
      refine Owe.gets X603 hx hZ576 hown576 (hw _ (List.mem_of_getElem? (i := 62) rfl)) Via.refl e603 (S_SKIP.ext Ol_590.2) (hb hby at_180) fun T604 X604 e604 => ?_
      refine Owe.acmpNo X604.here hx (hb hby at_183) rfl rfl rfl (by simp [Jvm.Free.XT.acmp]) ?_
      refine Owe.aload X604.here hx (hb hby at_186) rfl rfl ?_
      refine Owe.virt X604 hx hZ576 (y := (⟨"com/example/clotho/clotho/suite/Outcome", "name", "()Ljava/lang/String;"⟩ : MethodName)) (z := (⟨"com/example/clotho/clotho/suite/Outcome", "name", "()Ljava/lang/String;"⟩ : MethodName)) hown576 (mvT hZ576 (hw _ (List.mem_of_getElem? (i := 63) rfl))) (mvT hZ576 (hw _ (List.mem_of_getElem? (i := 64) rfl))) (mvT hZ576 (hw _ (List.mem_of_getElem? (i := 66) rfl))) (mvT hZ576 (hw _ (List.mem_of_getElem? (i := 65) rfl))) (notFace_of_selects (args := #[]) (mvT hZ576 (hw _ (List.mem_of_getElem? (i := 66) rfl)))) (by decide) (backOf (W := 0) (rmgn l Z a0 hw [] x1_588 b352 T588.heap n0 Z_602 Fname_x1_588) hZ576 (hw _ (List.mem_of_getElem? (i := 67) rfl)) (hw _ (List.mem_of_getElem? (i := 35) rfl)) (by decide) (by decide)) (by rw [hml]; rfl) (a := x1_588) (argsL := []) (rest := []) E_x1_588 (lenOf pd_7 rfl) rfl (Nat.le_of_ble_eq_true rfl) (hb hby at_188) rfl e604 (by decide) (by decide) fun T605 v605 L605 X605 hQ605 => ?_
      obtain ⟨rfl, Nq605, e605⟩ := hQ605
      have N605 := Fr.app N603 Nq605
      refine Owe.aloadN X605.here hx (hb hby at_191) rfl rfl ?_
      refine Owe.stat X605 hx (y := (⟨"com/example/clotho/clotho/suite/OutcomeSkipPinLaw", "same", "(Ljava/lang/String;Ljava/lang/String;)Z"⟩ : MethodName)) hown576 (mvT hZ576 (hw _ (List.mem_of_getElem? (i := 68) rfl))) (mvT hZ576 (hw _ (List.mem_of_getElem? (i := 69) rfl))) (mvT hZ576 (hw _ (List.mem_of_getElem? (i := 70) rfl))) (mvT hZ576 (hw _ (List.mem_of_getElem? (i := 71) rfl))) (by decide) (backOf (W := 0) (rmsam l Z a0 hw [] b352 T588.heap n0 Z_602 E_a1_592) hZ576 (hw _ (List.mem_of_getElem? (i := 71) rfl)) (hw _ (List.mem_of_getElem? (i := 70) rfl)) (by decide) (by decide)) (by rw [hml]; rfl) (argsL := [(.ref b352), (.ref b352)]) (rest := []) (lenOf pd_8 rfl) rfl (Nat.le_of_ble_eq_true rfl) (hb hby at_192) rfl e605 (by decide) (by decide) fun T606 v606 L606 X606 hQ606 => ?_
      obtain ⟨rfl, Nq606, e606⟩ := hQ606
      have N606 := Fr.app N605 Nq606
      refine Owe.ifNo X606.here hx (hb hby at_195) rfl ((if0 _ _).trans (feq (by decide)).1) ?_
      refine Owe.aload X606.here hx (hb hby at_198) rfl rfl ?_
      refine Owe.virt X606 hx hZ576 (y := (⟨"com/example/clotho/clotho/suite/Outcome", "detail", "()Ljava/lang/String;"⟩ : MethodName)) (z := (⟨"com/example/clotho/clotho/suite/Outcome", "detail", "()Ljava/lang/String;"⟩ : MethodName)) hown576 (mvT hZ576 (hw _ (List.mem_of_getElem? (i := 77) rfl))) (mvT hZ576 (hw _ (List.mem_of_getElem? (i := 78) rfl))) (mvT hZ576 (hw _ (List.mem_of_getElem? (i := 80) rfl))) (mvT hZ576 (hw _ (List.mem_of_getElem? (i := 79) rfl))) (notFace_of_selects (args := #[]) (mvT hZ576 (hw _ (List.mem_of_getElem? (i := 80) rfl)))) (by decide) (backOf (W := 0) (rmgd l Z a0 hw [] x1_588 b553 T588.heap n0 Z_602 Fdetail_x1_588) hZ576 (hw _ (List.mem_of_getElem? (i := 81) rfl)) (hw _ (List.mem_of_getElem? (i := 35) rfl)) (by decide) (by decide)) (by rw [hml]; rfl) (a := x1_588) (argsL := []) (rest := []) E_x1_588 (lenOf pd_7 rfl) rfl (Nat.le_of_ble_eq_true rfl) (hb hby at_200) rfl e606 (by decide) (by decide) fun T607 v607 L607 X607 hQ607 => ?_
      obtain ⟨rfl, Nq607, e607⟩ := hQ607
      have N607 := Fr.app N606 Nq607
      refine Owe.aload X607.here hx (hb hby at_203) rfl rfl ?_
      refine Owe.stat X607 hx (y := (⟨"com/example/clotho/clotho/suite/OutcomeSkipPinLaw", "same", "(Ljava/lang/String;Ljava/lang/String;)Z"⟩ : MethodName)) hown576 (mvT hZ576 (hw _ (List.mem_of_getElem? (i := 68) rfl))) (mvT hZ576 (hw _ (List.mem_of_getElem? (i := 69) rfl))) (mvT hZ576 (hw _ (List.mem_of_getElem? (i := 70) rfl))) (mvT hZ576 (hw _ (List.mem_of_getElem? (i := 71) rfl))) (by decide) (backOf (W := 0) (rmsam l Z a0 hw [] b553 T588.heap n0 Z_602 E_a1_597) hZ576 (hw _ (List.mem_of_getElem? (i := 71) rfl)) (hw _ (List.mem_of_getElem? (i := 70) rfl)) (by decide) (by decide)) (by rw [hml]; rfl) (argsL := [(.ref b553), (.ref b553)]) (rest := []) (lenOf pd_8 rfl) rfl (Nat.le_of_ble_eq_true rfl) (hb hby at_205) rfl e607 (by decide) (by decide) fun T608 v608 L608 X608 hQ608 => ?_
      obtain ⟨rfl, Nq608, e608⟩ := hQ608
      have N608 := Fr.app N607 Nq608
      refine Owe.ifNo X608.here hx (hb hby at_208) rfl ((if0 _ _).trans (feq (by decide)).1) ?_
      refine Owe.iconst X608.here hx (hb hby at_211) (w := (1 : Int32)) rfl ?_
      refine Owe.goto X608.here hx (hb hby at_212) (pc' := 216) (by decide) (by decide) ?_
      refine Owe.retNW X608 hx hS576 e608 hk589 hlk (t := .boolean) Bd.returns (by simp) (hb hby at_216) rfl fun fs hE => ?_
      rw [hG]
      refine ⟨_, _, rfl, ?_, ?_, coldMono hE (by decide) (by decide)⟩
      rotate_left
      · rw [hh]
        show CHr Z own_EL s.vm h0 T608.vm T608.heap
        rw [e608]
        exact Rr589.trans (CHv.at X608 hZ576 (own_ew hw) H589)
      show Q0 Z p1 p2 p3 G1 sk h0 n0 _ T608.heap _
      rw [e608]
      exact ⟨rfl, N608⟩
set_option maxRecDepth 65536 in
set_option maxHeartbeats 40000000 in
theorem comes_1 {Post : Tables → Env → Array Value → State → Outcome → State → Prop} (hpost : ∀ tb e args s v u, (limb_1_1.after args s (.returned v) u = true ∧ limb_1_2.after args s (.returned v) u = true ∧ True) → ReturnedEndW s (.returned v) u (Jvm.fieldLocs frame_1_writes args s ++ Jvm.arrayLocs frame_1_arrays args s ++ Jvm.staticLocs frame_1_statics s) 24 1152 → Post tb e args s (.returned v) u) :
    ArmFor flags0 classFile x code maxLocals ret World_1 tables_1 room_1 Calls_1 rest_1 Pre_1 Post := by
  intro l hfl _ _ p e ha hc hk s m args below hf hA hF happ hP
  obtain ⟨hcalls, hrest, hpre⟩ := hP
  obtain ⟨-, -, -, hnamed, -, -, -, hat⟩ := (Spec.applies_iff hf).mp happ
  obtain ⟨hg, hn⟩ := and_e (Cond.before_iff.mp (show (Jvm.Cond.and given_1 narrow_1).before args s = true from hpre))
  obtain ⟨g0, q0⟩ := and_e hg
  obtain ⟨g1, q1⟩ := and_e q0
  obtain ⟨g2, q2⟩ := and_e q1
  obtain ⟨w0, w1, w2, rfl⟩ : ∃ w0 w1 w2 : Value, args = #[w0, w1, w2] := by
    have hs : args.size = 3 := by simpa [Cond.value, given_1] using g0
    obtain ⟨L⟩ := args
    match L, hs with
    | [w0, w1, w2], _ => exact ⟨w0, w1, w2, rfl⟩
  have hw := fun d (hd : d ∈ tables_1) => atoms_spec (ws := Jvm.Cond.code x code maxLocals ret :: tables_1) hat d (List.mem_cons_of_mem _ hd)
  have hfit : Fit s := fun {y c} hc i hi => by
    obtain ⟨ha, rfl⟩ := Array.getElem?_eq_some_iff.mp hc
    have q := List.all_eq_true.mp ((Array.all_eq_true_iff_forall_mem.mp hF) _ (Array.getElem_mem ha)) i (List.mem_range.mpr hi)
    simpa [Array.getElem?_eq_getElem hi] using q
  obtain ⟨hsets, hown0⟩ := atoms_of _ (rest_1_c_eq ▸ (show rest_1_c.before _ s = true from hrest))
  have hr0 := Cond.before_iff.mp hown0
  obtain ⟨i0, ei0⟩ := is_v g1
  obtain rfl : w0 = (.int i0) := Option.some.inj ei0
  obtain ⟨i1, ei1⟩ := is_v g2
  obtain rfl : w1 = (.int i1) := Option.some.inj ei1
  obtain ⟨i2, ei2⟩ := is_v q2
  obtain rfl : w2 = (.int i2) := Option.some.inj ei2
  have n5 := not_v (Cond.before_iff.mp (hsets _ (List.mem_of_getElem? (i := 2) rfl)))
  obtain ⟨ics, ecs⟩ := is_v (Cond.before_iff.mp (hsets _ (List.mem_of_getElem? (i := 1) rfl)))
  have Scs : Sta s s.heap "java/lang/String" "COMPACT_STRINGS" "Z" (.int ics) := Sta.start ecs (Or.inl (hsets _ (List.mem_of_getElem? (i := 0) rfl)))
  have hcs0 : ¬ (ics = (0 : Int32)) := gotF (Cond.eq_ints ecs (Term.int_eval (0))) n5
  have nr0 := hn
  obtain ⟨sk, ev_sk⟩ := exa_v nr0
  have S_sk : Sta s s.heap "com/example/clotho/clotho/suite/Outcome$Verdict" "SKIP" "Lcom/example/clotho/clotho/suite/Outcome$Verdict;" (.ref sk) := Sta.start ev_sk (Or.inr ⟨(hw _ (List.mem_of_getElem? (i := 40) rfl)), (hw _ (List.mem_of_getElem? (i := 41) rfl))⟩)
  have E_sk := Exa.start ev_sk nr0
  have H0 : CHv s own_EL s.vm s.heap := CHv.start (own_ew hw) (fun p hp => hcalls.1 p hp) (hsets _ (List.mem_of_getElem? (i := 2) rfl)) (hw _ (List.mem_of_getElem? (i := 19) rfl)) (hw _ (List.mem_of_getElem? (i := 1) rfl))
  obtain ⟨n, o, h1, h2, h3, _, L, rfl, ⟨rfl, N⟩, _, hq⟩ := rm0 l s _ hw tables_1 i0 i1 i2 ics sk s.heap s.heap.size (Nat.le_refl _) Scs hcs0 (Old.start s) S_sk E_sk p e ha hc hk s m _ below hf ((Spec.applies_iff_loose hf).mp happ).1 ⟨rfl, State.Warmed39.refl s, rfl, H0⟩ trivial
  refine ⟨n, _, h1, h2, h3, hpost _ _ _ _ _ _ ⟨Cond.after_iff.mpr rfl, Cond.after_iff.mpr (eq_i res_at (Term.int_eval (1)) rfl), trivial⟩ ⟨hq.1, hq.2.1, hq.2.2.1, (hq.2.2.2.sift fun y hy => Or.inr (N y hy)).mono (by decide) (by decide)⟩⟩
theorem main_1_1 : Claimed_1_1 := comes_1 fun _ _ _ _ _ _ h hF => ⟨h.1, hF⟩
theorem main_1_2 : Claimed_1_2 := comes_1 fun _ _ _ _ _ _ h hF => ⟨h.2.1, hF⟩
end Jvm.Pilot.@@N@@
namespace Jvm.Pilot.@@N@@
open Jvm Jvm.ClassFile Sem Op Lib Jvm.Free Jvm.Stand Jvm.Pilot.@@N@@.Jvm.D
/-! MADE BY PROGRAM (witnessworld.py) out of the Statement's table words and the real class files: 23 classes; the members and pool entries that the words name. The judged class is class 1, her method 2. -/
namespace start1
open Jvm.ClassFile
def u (s : String) : CpInfo := .utf8 (stringToUtf16 s)
/-- a pool by its gaps: so many unusable entries, then the entry; so many at the end -/
def gap : Nat → List CpInfo → List CpInfo
  | 0, r => r
  | n + 1, r => .unusable :: gap n r
def poolList (es : List (Nat × CpInfo)) (last : Nat) : List CpInfo := es.foldr (fun e r => gap e.1 (e.2 :: r)) (gap last [])
def pool (es : List (Nat × CpInfo)) (last : Nat) : Array CpInfo := ⟨poolList es last⟩
def fileOf (pool : Array CpInfo) (this : Nat) (attrs : Array Attribute := #[]) (ms : Array MethodInfo := #[]) (fl : Nat := 33) (sup : Nat := 0) (ifs : Array Nat := #[]) (fds : Array FieldInfo := #[]) : ClassFile where
  minorVersion := 0
  majorVersion := 65
  constantPool := pool
  accessFlags := fl
  thisClass := this
  superClass := sup
  interfaces := ifs
  fields := fds
  methods := ms
  attributes := attrs
def plain (name : String) (sup : Option ClassId) : Class where
  name := name
  kind := .ordinary
  loader := none
  accessFlags := 33
  super := sup
  interfaces := #[]
  cf := none
  fields := #[]
  methods := #[]
  instanceTypes := #[]
  staticTypes := #[]
  resolved := #[]
  callSites := []
  init := .initialized
  statics := none
  mirror := none

def pool0 : Array CpInfo := pool [(5, u "<init>"), (0, u "()V"), (1, .class_ 10), (1, u "java/lang/Object")] 113

def k0c0 : Code := { maxStack := 0, maxLocals := 1, code := object_method_1_code, exceptionTable := #[], attributes := #[] }
def k0m0 : Method := { name := "<init>", desc := "()V", sig := { parameters := [], returnType := none }, accessFlags := 1, code := some k0c0 }
/-- java/lang/Object -/
def k0 : Class := { plain "java/lang/Object" none with
  accessFlags := 33
  interfaces := #[]
  cf := some (fileOf pool0 8 #[] #[{ accessFlags := 1, nameIndex := 5, descriptorIndex := 6, attributes := #[] }] 33 0 #[] #[])
  fields := #[]
  methods := #[k0m0]
  instanceTypes := #[]
  staticTypes := #[]
  resolved := Array.replicate 124 none
  statics := none }

def pool1 : Array CpInfo := pool [(2, .class_ 4), (1, u "java/lang/Object"), (0, u "<init>"), (0, u "()V"), (0, .methodref 8 9), (0, .class_ 10), (0, .nameAndType 11 12), (0, u "java/lang/String"), (0, u "equals"), (0, u "(Ljava/lang/Object;)Z"), (0, .methodref 8 14), (0, .nameAndType 5 15), (0, u "([C)V"), (0, .methodref 17 18), (0, .class_ 19), (0, .nameAndType 20 21), (0, u "com/example/clotho/clotho/suite/Outcome"), (0, u "skip"), (0, u "(Ljava/lang/String;Ljava/lang/String;)Lcom/example/clotho/clotho/suite/Outcome;"), (0, .methodref 17 23), (0, .nameAndType 24 25), (0, u "verdict"), (0, u "()Lcom/example/clotho/clotho/suite/Outcome$Verdict;"), (0, .fieldref 27 28), (0, .class_ 29), (0, .nameAndType 30 31), (0, u "com/example/clotho/clotho/suite/Outcome$Verdict"), (0, u "SKIP"), (0, u "Lcom/example/clotho/clotho/suite/Outcome$Verdict;"), (0, .methodref 17 33), (0, .nameAndType 34 35), (0, u "name"), (0, u "()Ljava/lang/String;"), (0, .methodref 37 38), (0, .class_ 39), (0, .nameAndType 40 41), (0, u "com/example/clotho/clotho/suite/OutcomeSkipPinLaw"), (0, u "same"), (0, u "(Ljava/lang/String;Ljava/lang/String;)Z"), (0, .methodref 17 43), (0, .nameAndType 44 35), (0, u "detail"), (3, u "law"), (0, u "(III)Z")] 4

def k1m0 : Method := { name := "<init>", desc := "()V", sig := { parameters := [], returnType := none }, accessFlags := 1, code := none }
def k1c1 : Code := { maxStack := 2, maxLocals := 2, code := method_2_code, exceptionTable := #[], attributes := #[] }
def k1m1 : Method := { name := "same", desc := "(Ljava/lang/String;Ljava/lang/String;)Z", sig := { parameters := [(.object "java/lang/String"), (.object "java/lang/String")], returnType := some .boolean }, accessFlags := 10, code := some k1c1 }
def k1c2 : Code := { maxStack := 7, maxLocals := 6, code := code, exceptionTable := #[], attributes := #[] }
def k1m2 : Method := { name := "law", desc := "(III)Z", sig := { parameters := [.int, .int, .int], returnType := some .boolean }, accessFlags := 9, code := some k1c2 }
/-- com/example/clotho/clotho/suite/OutcomeSkipPinLaw -/
def k1 : Class := { plain "com/example/clotho/clotho/suite/OutcomeSkipPinLaw" (some 0) with
  accessFlags := 49
  interfaces := #[]
  cf := some (fileOf pool1 37 #[] #[{ accessFlags := 1, nameIndex := 5, descriptorIndex := 6, attributes := #[] }, { accessFlags := 10, nameIndex := 40, descriptorIndex := 41, attributes := #[] }, { accessFlags := 9, nameIndex := 48, descriptorIndex := 49, attributes := #[] }] 49 2 #[] #[])
  fields := #[]
  methods := #[k1m0, k1m1, k1m2]
  instanceTypes := #[]
  staticTypes := #[]
  resolved := Array.replicate 54 none
  statics := none }

def pool2 : Array CpInfo := pool [(1, .class_ 2), (0, u "java/io/Serializable"), (0, .class_ 4), (0, u "java/lang/Object")] 2

/-- java/io/Serializable -/
def k2 : Class := { plain "java/io/Serializable" (some 0) with
  accessFlags := 1537
  interfaces := #[]
  cf := some (fileOf pool2 1 #[] #[] 1537 3 #[] #[])
  fields := #[]
  methods := #[]
  instanceTypes := #[]
  staticTypes := #[]
  resolved := Array.replicate 7 none
  statics := none }

def pool3 : Array CpInfo := pool [(1, .class_ 2), (0, u "java/lang/Comparable"), (0, .class_ 4), (0, u "java/lang/Object")] 7

/-- java/lang/Comparable -/
def k3 : Class := { plain "java/lang/Comparable" (some 0) with
  accessFlags := 1537
  interfaces := #[]
  cf := some (fileOf pool3 1 #[] #[] 1537 3 #[] #[])
  fields := #[]
  methods := #[]
  instanceTypes := #[]
  staticTypes := #[]
  resolved := Array.replicate 12 none
  statics := none }

def pool4 : Array CpInfo := pool [(2, .class_ 4), (1, u "java/lang/CharSequence"), (42, .class_ 48), (0, u "java/lang/CharSequence$1CodePointIterator"), (10, .class_ 60), (0, u "java/lang/CharSequence$1CharIterator"), (5, .class_ 67), (0, u "java/lang/Object")] 63

/-- java/lang/CharSequence -/
def k4 : Class := { plain "java/lang/CharSequence" (some 0) with
  accessFlags := 1537
  interfaces := #[]
  cf := some (fileOf pool4 2 #[.nestMembers #[47, 59]] #[] 1537 66 #[] #[])
  fields := #[]
  methods := #[]
  instanceTypes := #[]
  staticTypes := #[]
  resolved := Array.replicate 131 none
  statics := none }

def pool5 : Array CpInfo := pool [(1, .class_ 2), (0, u "java/lang/constant/Constable"), (0, .class_ 4), (0, u "java/lang/Object")] 6

/-- java/lang/constant/Constable -/
def k5 : Class := { plain "java/lang/constant/Constable" (some 0) with
  accessFlags := 1537
  interfaces := #[]
  cf := some (fileOf pool5 1 #[] #[] 1537 3 #[] #[])
  fields := #[]
  methods := #[]
  instanceTypes := #[]
  staticTypes := #[]
  resolved := Array.replicate 11 none
  statics := none }

def pool6 : Array CpInfo := pool [(1, .class_ 2), (0, u "java/lang/constant/ConstantDesc"), (0, .class_ 4), (0, u "java/lang/Object")] 32

/-- java/lang/constant/ConstantDesc -/
def k6 : Class := { plain "java/lang/constant/ConstantDesc" (some 0) with
  accessFlags := 1537
  interfaces := #[]
  cf := some (fileOf pool6 1 #[] #[] 1537 3 #[] #[])
  fields := #[]
  methods := #[]
  instanceTypes := #[]
  staticTypes := #[]
  resolved := Array.replicate 37 none
  statics := none }

def pool7 : Array CpInfo := pool [(1, .methodref 2 3), (0, .class_ 4), (0, .nameAndType 5 6), (0, u "java/lang/Object"), (0, u "<init>"), (0, u "()V"), (0, .string 8), (0, u ""), (0, .fieldref 10 11), (0, .class_ 12), (0, .nameAndType 13 14), (0, u "java/lang/String"), (0, u "value"), (0, u "[B"), (0, .fieldref 10 16), (0, .nameAndType 17 18), (0, u "coder"), (0, u "B"), (2, u "hash"), (0, u "I"), (2, u "hashIsZero"), (0, u "Z"), (0, .methodref 10 28), (0, .nameAndType 5 29), (0, u "([CIILjava/lang/Void;)V"), (8, .fieldref 10 39), (0, .nameAndType 40 26), (0, u "COMPACT_STRINGS"), (1, .class_ 44), (1, u "java/lang/StringUTF16"), (0, u "compress"), (1, .methodref 42 48), (0, .nameAndType 49 50), (0, u "coderFromArrayLen"), (0, u "([BI)B"), (126, .methodref 42 178), (0, .nameAndType 45 179), (0, u "([CII)[B"), (363, u "equals"), (29, u "(Ljava/lang/Object;)Z"), (1, .class_ 576), (0, u "java/lang/CharSequence"), (22, u "CASE_INSENSITIVE_ORDER"), (0, u "Ljava/util/Comparator;"), (409, u "([C)V"), (90, u "serialPersistentFields"), (0, u "[Ljava/io/ObjectStreamField;"), (0, .class_ 1104), (0, u "java/lang/String$CaseInsensitiveComparator"), (1, .class_ 1107), (0, u "java/io/Serializable"), (0, .class_ 1109), (0, u "java/lang/Comparable"), (0, .class_ 1111), (0, u "java/lang/constant/Constable"), (0, .class_ 1113), (0, u "java/lang/constant/ConstantDesc"), (2, u "serialVersionUID"), (0, u "J"), (3, u "REPL"), (0, u "C"), (2, u "LATIN1"), (1, u "UTF16")] 323

def k7m0 : Method := { name := "<init>", desc := "()V", sig := { parameters := [], returnType := none }, accessFlags := 1, code := none }
def k7c1 : Code := { maxStack := 5, maxLocals := 2, code := jdk_42_method_3_code, exceptionTable := #[], attributes := #[] }
def k7m1 : Method := { name := "<init>", desc := "([C)V", sig := { parameters := [(.array .char)], returnType := none }, accessFlags := 1, code := some k7c1 }
def k7c2 : Code := { maxStack := 2, maxLocals := 3, code := jdk_42_method_66_code, exceptionTable := #[], attributes := #[] }
def k7m2 : Method := { name := "equals", desc := "(Ljava/lang/Object;)Z", sig := { parameters := [(.object "java/lang/Object")], returnType := some .boolean }, accessFlags := 1, code := some k7c2 }
def k7c3 : Code := { maxStack := 4, maxLocals := 6, code := jdk_42_method_149_code, exceptionTable := #[], attributes := #[] }
def k7m3 : Method := { name := "<init>", desc := "([CIILjava/lang/Void;)V", sig := { parameters := [(.array .char), .int, .int, (.object "java/lang/Void")], returnType := none }, accessFlags := 2, code := some k7c3 }
/-- java/lang/String -/
def k7 : Class := { plain "java/lang/String" (some 0) with
  accessFlags := 49
  interfaces := #[2, 3, 4, 5, 6]
  cf := some (fileOf pool7 10 #[.nestMembers #[1103]] #[{ accessFlags := 1, nameIndex := 5, descriptorIndex := 6, attributes := #[] }, { accessFlags := 1, nameIndex := 5, descriptorIndex := 1010, attributes := #[] }, { accessFlags := 1, nameIndex := 543, descriptorIndex := 573, attributes := #[] }, { accessFlags := 2, nameIndex := 5, descriptorIndex := 29, attributes := #[] }] 49 2 #[1106, 1108, 575, 1110, 1112] #[{ accessFlags := 18, nameIndex := 13, descriptorIndex := 14, attributes := #[] }, { accessFlags := 18, nameIndex := 17, descriptorIndex := 18, attributes := #[] }, { accessFlags := 2, nameIndex := 21, descriptorIndex := 22, attributes := #[] }, { accessFlags := 2, nameIndex := 25, descriptorIndex := 26, attributes := #[] }, { accessFlags := 26, nameIndex := 1116, descriptorIndex := 1117, attributes := #[] }, { accessFlags := 24, nameIndex := 40, descriptorIndex := 26, attributes := #[] }, { accessFlags := 26, nameIndex := 1101, descriptorIndex := 1102, attributes := #[] }, { accessFlags := 26, nameIndex := 1121, descriptorIndex := 1122, attributes := #[] }, { accessFlags := 25, nameIndex := 599, descriptorIndex := 600, attributes := #[] }, { accessFlags := 24, nameIndex := 1125, descriptorIndex := 18, attributes := #[] }, { accessFlags := 24, nameIndex := 1127, descriptorIndex := 18, attributes := #[] }])
  fields := #[{ name := "value", type := (.array .byte), accessFlags := 18, slot := 0, constantValue := 0 }, { name := "coder", type := .byte, accessFlags := 18, slot := 1, constantValue := 0 }, { name := "hash", type := .int, accessFlags := 2, slot := 2, constantValue := 0 }, { name := "hashIsZero", type := .boolean, accessFlags := 2, slot := 3, constantValue := 0 }, { name := "serialVersionUID", type := .long, accessFlags := 26, slot := 0, constantValue := 0 }, { name := "COMPACT_STRINGS", type := .boolean, accessFlags := 24, slot := 1, constantValue := 0 }, { name := "serialPersistentFields", type := (.array (.object "java/io/ObjectStreamField")), accessFlags := 26, slot := 2, constantValue := 0 }, { name := "REPL", type := .char, accessFlags := 26, slot := 3, constantValue := 0 }, { name := "CASE_INSENSITIVE_ORDER", type := (.object "java/util/Comparator"), accessFlags := 25, slot := 4, constantValue := 0 }, { name := "LATIN1", type := .byte, accessFlags := 24, slot := 5, constantValue := 0 }, { name := "UTF16", type := .byte, accessFlags := 24, slot := 6, constantValue := 0 }]
  methods := #[k7m0, k7m1, k7m2, k7m3]
  instanceTypes := #[(.array .byte), .byte, .int, .boolean]
  staticTypes := #[.long, .boolean, (.array (.object "java/io/ObjectStreamField")), .char, (.object "java/util/Comparator"), .byte, .byte]
  resolved := Array.replicate 1451 none
  statics := some 0 }

def pool8 : Array CpInfo := pool [(6, .class_ 8), (1, u "java/lang/Object"), (0, u "<init>"), (0, u "()V"), (1, .class_ 14), (1, u "java/lang/StringUTF16"), (31, u "$assertionsDisabled"), (0, u "Z"), (13, u "HI_BYTE_SHIFT"), (0, u "I"), (2, u "LO_BYTE_SHIFT"), (49, .methodref 12 116), (0, .nameAndType 117 118), (0, u "compress"), (0, u "([CI[BII)I"), (3, u "([CII)[B"), (138, u "coderFromArrayLen"), (0, u "([BI)B"), (106, .class_ 371), (1, u "java/lang/StringUTF16$LinesSpliterator"), (58, u "MAX_LENGTH"), (196, .class_ 628), (0, u "java/lang/StringUTF16$CodePointsSpliterator"), (0, .class_ 630), (0, u "java/lang/StringUTF16$CharsSpliterator")] 4

def k8m0 : Method := { name := "<init>", desc := "()V", sig := { parameters := [], returnType := none }, accessFlags := 0, code := none }
def k8c1 : Code := { maxStack := 2, maxLocals := 2, code := jdk_52_method_15_code, exceptionTable := #[], attributes := #[] }
def k8m1 : Method := { name := "coderFromArrayLen", desc := "([BI)B", sig := { parameters := [(.array .byte), .int], returnType := some .byte }, accessFlags := 8, code := some k8c1 }
def k8c2 : Code := { maxStack := 5, maxLocals := 6, code := jdk_52_method_16_code, exceptionTable := #[], attributes := #[] }
def k8m2 : Method := { name := "compress", desc := "([CII)[B", sig := { parameters := [(.array .char), .int, .int], returnType := some (.array .byte) }, accessFlags := 9, code := some k8c2 }
def k8c3 : Code := { maxStack := 3, maxLocals := 7, code := jdk_52_method_21_code, exceptionTable := #[], attributes := #[] }
def k8m3 : Method := { name := "compress", desc := "([CI[BII)I", sig := { parameters := [(.array .char), .int, (.array .byte), .int, .int], returnType := some .int }, accessFlags := 9, code := some k8c3 }
/-- java/lang/StringUTF16 -/
def k8 : Class := { plain "java/lang/StringUTF16" (some 0) with
  accessFlags := 48
  interfaces := #[]
  cf := some (fileOf pool8 12 #[.nestMembers #[627, 629, 369]] #[{ accessFlags := 0, nameIndex := 9, descriptorIndex := 10, attributes := #[] }, { accessFlags := 8, nameIndex := 261, descriptorIndex := 262, attributes := #[] }, { accessFlags := 9, nameIndex := 117, descriptorIndex := 122, attributes := #[] }, { accessFlags := 9, nameIndex := 117, descriptorIndex := 118, attributes := #[] }] 48 6 #[] #[{ accessFlags := 26, nameIndex := 61, descriptorIndex := 62, attributes := #[] }, { accessFlags := 26, nameIndex := 65, descriptorIndex := 62, attributes := #[] }, { accessFlags := 24, nameIndex := 430, descriptorIndex := 62, attributes := #[] }, { accessFlags := 4120, nameIndex := 46, descriptorIndex := 47, attributes := #[] }])
  fields := #[{ name := "HI_BYTE_SHIFT", type := .int, accessFlags := 26, slot := 0, constantValue := 0 }, { name := "LO_BYTE_SHIFT", type := .int, accessFlags := 26, slot := 1, constantValue := 0 }, { name := "MAX_LENGTH", type := .int, accessFlags := 24, slot := 2, constantValue := 0 }, { name := "$assertionsDisabled", type := .boolean, accessFlags := 4120, slot := 3, constantValue := 0 }]
  methods := #[k8m0, k8m1, k8m2, k8m3]
  instanceTypes := #[]
  staticTypes := #[.int, .int, .int, .boolean]
  resolved := Array.replicate 635 none
  statics := none }

def pool9 : Array CpInfo := pool [(1, .methodref 2 3), (0, .class_ 4), (0, .nameAndType 5 6), (0, u "java/lang/Object"), (0, u "<init>"), (0, u "()V"), (0, .class_ 8), (0, u "java/lang/Record")] 13

def k9c0 : Code := { maxStack := 1, maxLocals := 1, code := jdk_30_method_1_code, exceptionTable := #[], attributes := #[] }
def k9m0 : Method := { name := "<init>", desc := "()V", sig := { parameters := [], returnType := none }, accessFlags := 4, code := some k9c0 }
/-- java/lang/Record -/
def k9 : Class := { plain "java/lang/Record" (some 0) with
  accessFlags := 1057
  interfaces := #[]
  cf := some (fileOf pool9 7 #[] #[{ accessFlags := 4, nameIndex := 5, descriptorIndex := 6, attributes := #[] }] 1057 2 #[] #[])
  fields := #[]
  methods := #[k9m0]
  instanceTypes := #[]
  staticTypes := #[]
  resolved := Array.replicate 22 none
  statics := none }

def pool10 : Array CpInfo := pool [(1, .methodref 2 3), (0, .class_ 4), (0, .nameAndType 5 6), (0, u "java/lang/Record"), (0, u "<init>"), (0, u "()V"), (0, .fieldref 8 9), (0, .class_ 10), (0, .nameAndType 11 12), (0, u "com/example/clotho/clotho/suite/Outcome"), (0, u "verdict"), (0, u "Lcom/example/clotho/clotho/suite/Outcome$Verdict;"), (0, .fieldref 8 14), (0, .nameAndType 15 16), (0, u "name"), (0, u "Ljava/lang/String;"), (0, .fieldref 8 18), (0, .nameAndType 19 16), (0, u "detail"), (1, .class_ 23), (1, u "com/example/clotho/clotho/suite/Outcome$Verdict"), (1, .methodref 8 26), (0, .nameAndType 5 27), (0, u "(Lcom/example/clotho/clotho/suite/Outcome$Verdict;Ljava/lang/String;Ljava/lang/String;)V"), (8, u "()Ljava/lang/String;"), (8, .fieldref 21 46), (0, .nameAndType 47 12), (0, u "SKIP"), (28, u "(Ljava/lang/String;Ljava/lang/String;)Lcom/example/clotho/clotho/suite/Outcome;"), (0, u "skip"), (4, u "()Lcom/example/clotho/clotho/suite/Outcome$Verdict;")] 34

def k10c0 : Code := { maxStack := 2, maxLocals := 4, code := prog_10_method_1_code, exceptionTable := #[], attributes := #[] }
def k10m0 : Method := { name := "<init>", desc := "(Lcom/example/clotho/clotho/suite/Outcome$Verdict;Ljava/lang/String;Ljava/lang/String;)V", sig := { parameters := [(.object "com/example/clotho/clotho/suite/Outcome$Verdict"), (.object "java/lang/String"), (.object "java/lang/String")], returnType := none }, accessFlags := 1, code := some k10c0 }
def k10c1 : Code := { maxStack := 5, maxLocals := 2, code := prog_10_method_4_code, exceptionTable := #[], attributes := #[] }
def k10m1 : Method := { name := "skip", desc := "(Ljava/lang/String;Ljava/lang/String;)Lcom/example/clotho/clotho/suite/Outcome;", sig := { parameters := [(.object "java/lang/String"), (.object "java/lang/String")], returnType := some (.object "com/example/clotho/clotho/suite/Outcome") }, accessFlags := 8, code := some k10c1 }
def k10c2 : Code := { maxStack := 1, maxLocals := 1, code := prog_10_method_9_code, exceptionTable := #[], attributes := #[] }
def k10m2 : Method := { name := "verdict", desc := "()Lcom/example/clotho/clotho/suite/Outcome$Verdict;", sig := { parameters := [], returnType := some (.object "com/example/clotho/clotho/suite/Outcome$Verdict") }, accessFlags := 1, code := some k10c2 }
def k10c3 : Code := { maxStack := 1, maxLocals := 1, code := prog_10_method_10_code, exceptionTable := #[], attributes := #[] }
def k10m3 : Method := { name := "name", desc := "()Ljava/lang/String;", sig := { parameters := [], returnType := some (.object "java/lang/String") }, accessFlags := 1, code := some k10c3 }
def k10c4 : Code := { maxStack := 1, maxLocals := 1, code := prog_10_method_11_code, exceptionTable := #[], attributes := #[] }
def k10m4 : Method := { name := "detail", desc := "()Ljava/lang/String;", sig := { parameters := [], returnType := some (.object "java/lang/String") }, accessFlags := 1, code := some k10c4 }
/-- com/example/clotho/clotho/suite/Outcome -/
def k10 : Class := { plain "com/example/clotho/clotho/suite/Outcome" (some 9) with
  accessFlags := 49
  interfaces := #[]
  cf := some (fileOf pool10 8 #[.nestMembers #[21]] #[{ accessFlags := 1, nameIndex := 5, descriptorIndex := 27, attributes := #[] }, { accessFlags := 8, nameIndex := 77, descriptorIndex := 76, attributes := #[] }, { accessFlags := 1, nameIndex := 11, descriptorIndex := 82, attributes := #[] }, { accessFlags := 1, nameIndex := 15, descriptorIndex := 36, attributes := #[] }, { accessFlags := 1, nameIndex := 19, descriptorIndex := 36, attributes := #[] }] 49 2 #[] #[{ accessFlags := 18, nameIndex := 11, descriptorIndex := 12, attributes := #[] }, { accessFlags := 18, nameIndex := 15, descriptorIndex := 16, attributes := #[] }, { accessFlags := 18, nameIndex := 19, descriptorIndex := 16, attributes := #[] }])
  fields := #[{ name := "verdict", type := (.object "com/example/clotho/clotho/suite/Outcome$Verdict"), accessFlags := 18, slot := 0, constantValue := 0 }, { name := "name", type := (.object "java/lang/String"), accessFlags := 18, slot := 1, constantValue := 0 }, { name := "detail", type := (.object "java/lang/String"), accessFlags := 18, slot := 2, constantValue := 0 }]
  methods := #[k10m0, k10m1, k10m2, k10m3, k10m4]
  instanceTypes := #[(.object "com/example/clotho/clotho/suite/Outcome$Verdict"), (.object "java/lang/String"), (.object "java/lang/String")]
  staticTypes := #[]
  resolved := Array.replicate 117 none
  statics := none }

def pool11 : Array CpInfo := pool [(2, .class_ 4), (1, u "java/lang/Enum"), (0, u "name"), (0, u "Ljava/lang/String;"), (2, u "ordinal"), (0, u "I"), (1, .class_ 14), (1, u "java/lang/Object"), (4, u "hash"), (86, .class_ 108), (1, u "java/lang/Enum$EnumDesc"), (2, .class_ 112), (0, u "java/lang/constant/Constable"), (0, .class_ 114), (0, u "java/lang/Comparable"), (0, .class_ 116), (0, u "java/io/Serializable")] 87

/-- java/lang/Enum -/
def k11 : Class := { plain "java/lang/Enum" (some 0) with
  accessFlags := 1057
  interfaces := #[5, 3, 2]
  cf := some (fileOf pool11 2 #[.nestMembers #[106]] #[] 1057 12 #[111, 113, 115] #[{ accessFlags := 18, nameIndex := 5, descriptorIndex := 6, attributes := #[] }, { accessFlags := 18, nameIndex := 9, descriptorIndex := 10, attributes := #[] }, { accessFlags := 2, nameIndex := 19, descriptorIndex := 10, attributes := #[] }])
  fields := #[{ name := "name", type := (.object "java/lang/String"), accessFlags := 18, slot := 0, constantValue := 0 }, { name := "ordinal", type := .int, accessFlags := 18, slot := 1, constantValue := 0 }, { name := "hash", type := .int, accessFlags := 2, slot := 2, constantValue := 0 }]
  methods := #[]
  instanceTypes := #[(.object "java/lang/String"), .int, .int]
  staticTypes := #[]
  resolved := Array.replicate 204 none
  statics := none }

def pool12 : Array CpInfo := pool [(1, .class_ 2), (0, u "com/example/clotho/clotho/suite/Outcome$Verdict"), (2, u "PASS"), (0, u "Lcom/example/clotho/clotho/suite/Outcome$Verdict;"), (2, u "FAIL"), (2, u "SKIP"), (2, u "$VALUES"), (0, u "[Lcom/example/clotho/clotho/suite/Outcome$Verdict;"), (6, .class_ 25), (1, u "java/lang/Enum"), (26, .class_ 53), (0, u "com/example/clotho/clotho/suite/Outcome")] 2

/-- com/example/clotho/clotho/suite/Outcome$Verdict -/
def k12 : Class := { plain "com/example/clotho/clotho/suite/Outcome$Verdict" (some 11) with
  accessFlags := 16433
  interfaces := #[]
  cf := some (fileOf pool12 1 #[.nestHost 52] #[] 16433 23 #[] #[{ accessFlags := 16409, nameIndex := 5, descriptorIndex := 6, attributes := #[] }, { accessFlags := 16409, nameIndex := 9, descriptorIndex := 6, attributes := #[] }, { accessFlags := 16409, nameIndex := 12, descriptorIndex := 6, attributes := #[] }, { accessFlags := 4122, nameIndex := 15, descriptorIndex := 16, attributes := #[] }])
  fields := #[{ name := "PASS", type := (.object "com/example/clotho/clotho/suite/Outcome$Verdict"), accessFlags := 16409, slot := 0, constantValue := 0 }, { name := "FAIL", type := (.object "com/example/clotho/clotho/suite/Outcome$Verdict"), accessFlags := 16409, slot := 1, constantValue := 0 }, { name := "SKIP", type := (.object "com/example/clotho/clotho/suite/Outcome$Verdict"), accessFlags := 16409, slot := 2, constantValue := 0 }, { name := "$VALUES", type := (.array (.object "com/example/clotho/clotho/suite/Outcome$Verdict")), accessFlags := 4122, slot := 3, constantValue := 0 }]
  methods := #[]
  instanceTypes := #[(.object "java/lang/String"), .int, .int]
  staticTypes := #[(.object "com/example/clotho/clotho/suite/Outcome$Verdict"), (.object "com/example/clotho/clotho/suite/Outcome$Verdict"), (.object "com/example/clotho/clotho/suite/Outcome$Verdict"), (.array (.object "com/example/clotho/clotho/suite/Outcome$Verdict"))]
  resolved := Array.replicate 56 none
  statics := some 1 }

def pool13 : Array CpInfo := pool [(4, .class_ 6), (1, u "java/lang/Object"), (0, u "<init>"), (0, u "()V"), (5, .class_ 16), (1, u "java/lang/StringLatin1"), (104, u "$assertionsDisabled"), (0, u "Z"), (98, .class_ 223), (1, u "java/lang/StringLatin1$LinesSpliterator"), (166, .class_ 391), (0, u "java/lang/StringLatin1$CharsSpliterator")] 3

def k13m0 : Method := { name := "<init>", desc := "()V", sig := { parameters := [], returnType := none }, accessFlags := 0, code := none }
/-- java/lang/StringLatin1 -/
def k13 : Class := { plain "java/lang/StringLatin1" (some 0) with
  accessFlags := 48
  interfaces := #[]
  cf := some (fileOf pool13 14 #[.nestMembers #[390, 221]] #[{ accessFlags := 0, nameIndex := 7, descriptorIndex := 8, attributes := #[] }] 48 4 #[] #[{ accessFlags := 4120, nameIndex := 121, descriptorIndex := 122, attributes := #[] }])
  fields := #[{ name := "$assertionsDisabled", type := .boolean, accessFlags := 4120, slot := 0, constantValue := 0 }]
  methods := #[k13m0]
  instanceTypes := #[]
  staticTypes := #[.boolean]
  resolved := Array.replicate 395 none
  statics := none }

def pool14 : Array CpInfo := pool [(2, .class_ 4), (1, u "java/lang/Object"), (0, u "<init>"), (0, u "()V"), (17, .class_ 26), (1, u "jdk/internal/util/Preconditions"), (28, .class_ 56), (0, u "jdk/internal/util/Preconditions$4"), (57, .class_ 115), (0, u "jdk/internal/util/Preconditions$1"), (7, u "SIOOBE_FORMATTER"), (0, u "Ljava/util/function/BiFunction;"), (0, .class_ 126), (0, u "jdk/internal/util/Preconditions$2"), (3, u "AIOOBE_FORMATTER"), (0, .class_ 132), (0, u "jdk/internal/util/Preconditions$3"), (3, u "IOOBE_FORMATTER")] 57

def k14m0 : Method := { name := "<init>", desc := "()V", sig := { parameters := [], returnType := none }, accessFlags := 1, code := none }
/-- jdk/internal/util/Preconditions -/
def k14 : Class := { plain "jdk/internal/util/Preconditions" (some 0) with
  accessFlags := 33
  interfaces := #[]
  cf := some (fileOf pool14 24 #[.nestMembers #[55, 131, 125, 114]] #[{ accessFlags := 1, nameIndex := 5, descriptorIndex := 6, attributes := #[] }] 33 2 #[] #[{ accessFlags := 25, nameIndex := 123, descriptorIndex := 124, attributes := #[] }, { accessFlags := 25, nameIndex := 130, descriptorIndex := 124, attributes := #[] }, { accessFlags := 25, nameIndex := 136, descriptorIndex := 124, attributes := #[] }])
  fields := #[{ name := "SIOOBE_FORMATTER", type := (.object "java/util/function/BiFunction"), accessFlags := 25, slot := 0, constantValue := 0 }, { name := "AIOOBE_FORMATTER", type := (.object "java/util/function/BiFunction"), accessFlags := 25, slot := 1, constantValue := 0 }, { name := "IOOBE_FORMATTER", type := (.object "java/util/function/BiFunction"), accessFlags := 25, slot := 2, constantValue := 0 }]
  methods := #[k14m0]
  instanceTypes := #[]
  staticTypes := #[(.object "java/util/function/BiFunction"), (.object "java/util/function/BiFunction"), (.object "java/util/function/BiFunction")]
  resolved := Array.replicate 194 none
  statics := some 2 }

def pool15 : Array CpInfo := pool [(9, u "<init>"), (6, .class_ 18), (1, u "java/lang/Object"), (0, u "()V"), (1, .class_ 23), (1, u "jdk/internal/util/ArraysSupport"), (0, u "LOG2_ARRAY_LONG_INDEX_SCALE"), (0, u "I"), (2, u "U"), (0, u "Ljdk/internal/misc/Unsafe;"), (8, u "BIG_ENDIAN"), (0, u "Z"), (8, u "LOG2_BYTE_BIT_SIZE"), (4, u "LOG2_ARRAY_INT_INDEX_SCALE"), (54, u "JLA"), (0, u "Ljdk/internal/access/JavaLangAccess;"), (11, u "LOG2_ARRAY_BOOLEAN_INDEX_SCALE"), (9, u "LOG2_ARRAY_BYTE_INDEX_SCALE"), (5, u "LOG2_ARRAY_CHAR_INDEX_SCALE"), (5, u "LOG2_ARRAY_SHORT_INDEX_SCALE"), (18, u "LOG2_ARRAY_FLOAT_INDEX_SCALE"), (24, u "LOG2_ARRAY_DOUBLE_INDEX_SCALE"), (89, u "T_BOOLEAN"), (2, u "T_CHAR"), (1, u "T_FLOAT"), (1, u "T_DOUBLE"), (1, u "T_BYTE"), (1, u "T_SHORT"), (1, u "T_INT"), (1, u "T_LONG"), (1, u "SOFT_MAX_ARRAY_LENGTH")] 83

def k15m0 : Method := { name := "<init>", desc := "()V", sig := { parameters := [], returnType := none }, accessFlags := 2, code := none }
/-- jdk/internal/util/ArraysSupport -/
def k15 : Class := { plain "jdk/internal/util/ArraysSupport" (some 0) with
  accessFlags := 33
  interfaces := #[]
  cf := some (fileOf pool15 21 #[] #[{ accessFlags := 2, nameIndex := 9, descriptorIndex := 19, attributes := #[] }] 33 16 #[] #[{ accessFlags := 24, nameIndex := 28, descriptorIndex := 29, attributes := #[] }, { accessFlags := 26, nameIndex := 38, descriptorIndex := 39, attributes := #[] }, { accessFlags := 25, nameIndex := 121, descriptorIndex := 25, attributes := #[] }, { accessFlags := 25, nameIndex := 131, descriptorIndex := 25, attributes := #[] }, { accessFlags := 25, nameIndex := 137, descriptorIndex := 25, attributes := #[] }, { accessFlags := 25, nameIndex := 143, descriptorIndex := 25, attributes := #[] }, { accessFlags := 25, nameIndex := 53, descriptorIndex := 25, attributes := #[] }, { accessFlags := 25, nameIndex := 24, descriptorIndex := 25, attributes := #[] }, { accessFlags := 25, nameIndex := 162, descriptorIndex := 25, attributes := #[] }, { accessFlags := 25, nameIndex := 187, descriptorIndex := 25, attributes := #[] }, { accessFlags := 26, nameIndex := 48, descriptorIndex := 25, attributes := #[] }, { accessFlags := 25, nameIndex := 277, descriptorIndex := 25, attributes := #[] }, { accessFlags := 25, nameIndex := 280, descriptorIndex := 25, attributes := #[] }, { accessFlags := 25, nameIndex := 282, descriptorIndex := 25, attributes := #[] }, { accessFlags := 25, nameIndex := 284, descriptorIndex := 25, attributes := #[] }, { accessFlags := 25, nameIndex := 286, descriptorIndex := 25, attributes := #[] }, { accessFlags := 25, nameIndex := 288, descriptorIndex := 25, attributes := #[] }, { accessFlags := 25, nameIndex := 290, descriptorIndex := 25, attributes := #[] }, { accessFlags := 25, nameIndex := 292, descriptorIndex := 25, attributes := #[] }, { accessFlags := 26, nameIndex := 108, descriptorIndex := 109, attributes := #[] }, { accessFlags := 25, nameIndex := 294, descriptorIndex := 25, attributes := #[] }])
  fields := #[{ name := "U", type := (.object "jdk/internal/misc/Unsafe"), accessFlags := 24, slot := 0, constantValue := 0 }, { name := "BIG_ENDIAN", type := .boolean, accessFlags := 26, slot := 1, constantValue := 0 }, { name := "LOG2_ARRAY_BOOLEAN_INDEX_SCALE", type := .int, accessFlags := 25, slot := 2, constantValue := 0 }, { name := "LOG2_ARRAY_BYTE_INDEX_SCALE", type := .int, accessFlags := 25, slot := 3, constantValue := 0 }, { name := "LOG2_ARRAY_CHAR_INDEX_SCALE", type := .int, accessFlags := 25, slot := 4, constantValue := 0 }, { name := "LOG2_ARRAY_SHORT_INDEX_SCALE", type := .int, accessFlags := 25, slot := 5, constantValue := 0 }, { name := "LOG2_ARRAY_INT_INDEX_SCALE", type := .int, accessFlags := 25, slot := 6, constantValue := 0 }, { name := "LOG2_ARRAY_LONG_INDEX_SCALE", type := .int, accessFlags := 25, slot := 7, constantValue := 0 }, { name := "LOG2_ARRAY_FLOAT_INDEX_SCALE", type := .int, accessFlags := 25, slot := 8, constantValue := 0 }, { name := "LOG2_ARRAY_DOUBLE_INDEX_SCALE", type := .int, accessFlags := 25, slot := 9, constantValue := 0 }, { name := "LOG2_BYTE_BIT_SIZE", type := .int, accessFlags := 26, slot := 10, constantValue := 0 }, { name := "T_BOOLEAN", type := .int, accessFlags := 25, slot := 11, constantValue := 0 }, { name := "T_CHAR", type := .int, accessFlags := 25, slot := 12, constantValue := 0 }, { name := "T_FLOAT", type := .int, accessFlags := 25, slot := 13, constantValue := 0 }, { name := "T_DOUBLE", type := .int, accessFlags := 25, slot := 14, constantValue := 0 }, { name := "T_BYTE", type := .int, accessFlags := 25, slot := 15, constantValue := 0 }, { name := "T_SHORT", type := .int, accessFlags := 25, slot := 16, constantValue := 0 }, { name := "T_INT", type := .int, accessFlags := 25, slot := 17, constantValue := 0 }, { name := "T_LONG", type := .int, accessFlags := 25, slot := 18, constantValue := 0 }, { name := "JLA", type := (.object "jdk/internal/access/JavaLangAccess"), accessFlags := 26, slot := 19, constantValue := 0 }, { name := "SOFT_MAX_ARRAY_LENGTH", type := .int, accessFlags := 25, slot := 20, constantValue := 0 }]
  methods := #[k15m0]
  instanceTypes := #[]
  staticTypes := #[(.object "jdk/internal/misc/Unsafe"), .boolean, .int, .int, .int, .int, .int, .int, .int, .int, .int, .int, .int, .int, .int, .int, .int, .int, .int, (.object "jdk/internal/access/JavaLangAccess"), .int]
  resolved := Array.replicate 378 none
  statics := none }

def pool16 : Array CpInfo := pool [(1, u "java/lang/Cloneable"), (0, .class_ 1), (0, u "java/lang/Object"), (0, .class_ 3)] 3

/-- java/lang/Cloneable -/
def k16 : Class := { plain "java/lang/Cloneable" (some 0) with
  accessFlags := 1537
  interfaces := #[]
  cf := some (fileOf pool16 2 #[] #[] 1537 4 #[] #[])
  fields := #[]
  methods := #[]
  instanceTypes := #[]
  staticTypes := #[]
  resolved := Array.replicate 8 none
  statics := none }

/-- the primitive byte -/
def k17 : Class := { plain "byte" none with kind := .primitive 'B', accessFlags := 0x411 }
/-- [B -/
def k18 : Class := { plain "[B" (some 0) with kind := .array 17 .byte, interfaces := #[16, 2], accessFlags := 1041 }

/-- the primitive char -/
def k19 : Class := { plain "char" none with kind := .primitive 'C', accessFlags := 0x411 }
/-- [C -/
def k20 : Class := { plain "[C" (some 0) with kind := .array 19 .char, interfaces := #[16, 2], accessFlags := 1041 }

/-- the primitive int -/
def k21 : Class := { plain "int" none with kind := .primitive 'I', accessFlags := 0x411 }
/-- [I -/
def k22 : Class := { plain "[I" (some 0) with kind := .array 21 .int, interfaces := #[16, 2], accessFlags := 1041 }

def heap : Heap := #[{ cls := 7, slots := #[.long 0, .int 1, .null, .int 0, .null, .int 0, .int 0], vm := .statics 7 },
  { cls := 12, slots := #[.null, .null, .ref 3, .null], vm := .statics 12 },
  { cls := 14, slots := #[.null, .null, .null], vm := .statics 14 },
  { cls := 12, slots := #[.null, .int 2, .int 0], vm := .none }]
def classes : Array Class := #[k0, k1, k2, k3, k4, k5, k6, k7, k8, k9, k10, k11, k12, k13, k14, k15, k16, k17, k18, k19, k20, k21, k22]
def interned : List (Array UInt16 × Addr) := []
def slotsUsed : Nat := 17
def theMethod : MethodId := ⟨1, 2⟩
def args0 : Array Value := #[.int 5, .int 5, .int 5]
def aboutOver (below : List Frame) : State where
  vm := { classes := classes, interned := interned.toArray }
  heap := heap
  slotsUsed := slotsUsed
  threads := #[{ frames := .invoking theMethod args0 :: below }]
def below0 : List Frame := [.native { method := ⟨0, 0⟩, args := #[] }]
def about1 : State := aboutOver below0
def p0 : Program := .bare "" "" ""
def e0 : Env := launch0.env 0 0 0
theorem w_frames : about1.frames = Frame.invoking theMethod args0 :: below0 := rfl
set_option maxRecDepth 65536 in
theorem w_args : argsFit about1.vm theMethod args0 = true := by decide +kernel
set_option maxRecDepth 65536 in
theorem w_heap : heapFits about1 = true := by decide +kernel
set_option maxRecDepth 65536 in
theorem w_runnable : about1.curStatus? = some .runnable := by decide +kernel
set_option maxRecDepth 65536 in
theorem w_alone : about1.alone = true := by decide +kernel
set_option maxRecDepth 65536 in
theorem w_named : about1.methodNamed? x = some theMethod := by decide +kernel
set_option maxRecDepth 65536 in
theorem w_hears : about1.hears theMethod below0 = true := by decide +kernel
set_option maxRecDepth 65536 in
theorem w_ripe : about1.ripe theMethod args0 below0 = true := by decide +kernel
theorem w_running : about1.status = .running := rfl
set_option maxRecDepth 65536 in
theorem w_room : about1.hasRoom e0.platform room_1 = true :=
  launch0.hasRoom_least _ room_1 (by decide +kernel) (by decide +kernel) (by decide +kernel) (by decide +kernel) (by decide +kernel) (by decide +kernel)
theorem allAtoms_all (ts : List Jvm.Cond) (a : Array Jvm.Value) (st : Jvm.State) : (allAtoms ts).before a st = ts.all (fun c => c.before a st) := by
  induction ts with
  | nil => rfl
  | cons c t ih =>
    show (Jvm.Cond.and c (allAtoms t)).before a st = _
    rw [Jvm.Cond.before_and, ih, List.all_cons]
def words1 : List Jvm.Cond := Jvm.Cond.code x code maxLocals ret :: tables_1
/-- a 'code' word, met by the world's own term for the bytes: nothing is compared byte by byte -/
theorem code_word {y : MethodName} {bytes : ByteArray} {mx : Nat} {rt : Option FieldType} {a : Array Value} {s : State} {m : MethodId} {meth : Method} {c : Code} (h1 : s.methodNamed? y = some m) (h2 : s.vm.method? m = some meth) (h3 : meth.code = some c) (h4 : c.code = bytes)
    (h5 : (c.maxLocals == mx && c.exceptionTable.isEmpty && decide (c.maxStack ≤ mostOperands) && decide (meth.sig.returnType = rt) && !meth.locks && decide (parseMethodDescriptor y.desc = some meth.sig)) = true) : (Jvm.Cond.code y bytes mx rt).before a s = true := by
  simp only [Bool.and_eq_true, beq_iff_eq, Bool.not_eq_true', decide_eq_true_eq] at h5
  obtain ⟨⟨⟨⟨⟨g1, g2⟩, g3⟩, g4⟩, g5⟩, g6⟩ := h5
  simp [Cond.before, Cond.holds, Cond.value, h1, h2, h3, h4, g1, g2, g3, g4, g5, g6]
def isCode : Jvm.Cond → Bool
  | .code _ _ _ _ => true
  | _ => false
theorem all_split {L : List Jvm.Cond} {P : Jvm.Cond → Bool} (h1 : L.all (fun c => isCode c || P c) = true) (h2 : ∀ c ∈ L.filter isCode, P c = true) : L.all P = true := by
  refine List.all_eq_true.mpr fun c hc => ?_
  have h := List.all_eq_true.mp h1 c hc
  rcases Bool.eq_false_or_eq_true (isCode c) with hi | hi
  · exact h2 c (List.mem_filter.mpr ⟨hc, hi⟩)
  · simpa [hi] using h
set_option maxRecDepth 65536 in
theorem w_c0 : (Jvm.Cond.code x code maxLocals ret).before args0 about1 = true := code_word (m := ⟨1, 2⟩) (meth := k1m2) (c := k1c2) (by decide +kernel) rfl rfl rfl (by decide +kernel)
set_option maxRecDepth 65536 in
theorem w_c1 : (Jvm.Cond.code ({ cls := "java/lang/String", name := "<init>", desc := "([C)V" } : Jvm.MethodName) jdk_42_method_3_code (2 : Nat) (Option.none : Option Jvm.ClassFile.FieldType)).before args0 about1 = true := code_word (m := ⟨7, 1⟩) (meth := k7m1) (c := k7c1) (by decide +kernel) rfl rfl rfl (by decide +kernel)
set_option maxRecDepth 65536 in
theorem w_c2 : (Jvm.Cond.code ({ cls := "java/lang/String", name := "<init>", desc := "([CIILjava/lang/Void;)V" } : Jvm.MethodName) jdk_42_method_149_code (6 : Nat) (Option.none : Option Jvm.ClassFile.FieldType)).before args0 about1 = true := code_word (m := ⟨7, 3⟩) (meth := k7m3) (c := k7c3) (by decide +kernel) rfl rfl rfl (by decide +kernel)
set_option maxRecDepth 65536 in
theorem w_c3 : (Jvm.Cond.code ({ cls := "java/lang/Object", name := "<init>", desc := "()V" } : Jvm.MethodName) object_method_1_code (1 : Nat) (Option.none : Option Jvm.ClassFile.FieldType)).before args0 about1 = true := code_word (m := ⟨0, 0⟩) (meth := k0m0) (c := k0c0) (by decide +kernel) rfl rfl rfl (by decide +kernel)
set_option maxRecDepth 65536 in
theorem w_c4 : (Jvm.Cond.code ({ cls := "java/lang/StringUTF16", name := "compress", desc := "([CII)[B" } : Jvm.MethodName) jdk_52_method_16_code (6 : Nat) (Option.some (Jvm.ClassFile.FieldType.array Jvm.ClassFile.FieldType.byte))).before args0 about1 = true := code_word (m := ⟨8, 2⟩) (meth := k8m2) (c := k8c2) (by decide +kernel) rfl rfl rfl (by decide +kernel)
set_option maxRecDepth 65536 in
theorem w_c5 : (Jvm.Cond.code ({ cls := "java/lang/StringUTF16", name := "compress", desc := "([CI[BII)I" } : Jvm.MethodName) jdk_52_method_21_code (7 : Nat) (Option.some Jvm.ClassFile.FieldType.int)).before args0 about1 = true := code_word (m := ⟨8, 3⟩) (meth := k8m3) (c := k8c3) (by decide +kernel) rfl rfl rfl (by decide +kernel)
set_option maxRecDepth 65536 in
theorem w_c6 : (Jvm.Cond.code ({ cls := "java/lang/StringUTF16", name := "coderFromArrayLen", desc := "([BI)B" } : Jvm.MethodName) jdk_52_method_15_code (2 : Nat) (Option.some Jvm.ClassFile.FieldType.byte)).before args0 about1 = true := code_word (m := ⟨8, 1⟩) (meth := k8m1) (c := k8c1) (by decide +kernel) rfl rfl rfl (by decide +kernel)
set_option maxRecDepth 65536 in
theorem w_c7 : (Jvm.Cond.code ({ cls := "com/example/clotho/clotho/suite/Outcome", name := "skip", desc := "(Ljava/lang/String;Ljava/lang/String;)Lcom/example/clotho/clotho/suite/Outcome;" } : Jvm.MethodName) prog_10_method_4_code (2 : Nat) (Option.some (Jvm.ClassFile.FieldType.object "com/example/clotho/clotho/suite/Outcome"))).before args0 about1 = true := code_word (m := ⟨10, 1⟩) (meth := k10m1) (c := k10c1) (by decide +kernel) rfl rfl rfl (by decide +kernel)
set_option maxRecDepth 65536 in
theorem w_c8 : (Jvm.Cond.code ({ cls := "com/example/clotho/clotho/suite/Outcome", name := "<init>", desc := "(Lcom/example/clotho/clotho/suite/Outcome$Verdict;Ljava/lang/String;Ljava/lang/String;)V" } : Jvm.MethodName) prog_10_method_1_code (4 : Nat) (Option.none : Option Jvm.ClassFile.FieldType)).before args0 about1 = true := code_word (m := ⟨10, 0⟩) (meth := k10m0) (c := k10c0) (by decide +kernel) rfl rfl rfl (by decide +kernel)
set_option maxRecDepth 65536 in
theorem w_c9 : (Jvm.Cond.code ({ cls := "java/lang/Record", name := "<init>", desc := "()V" } : Jvm.MethodName) jdk_30_method_1_code (1 : Nat) (Option.none : Option Jvm.ClassFile.FieldType)).before args0 about1 = true := code_word (m := ⟨9, 0⟩) (meth := k9m0) (c := k9c0) (by decide +kernel) rfl rfl rfl (by decide +kernel)
set_option maxRecDepth 65536 in
theorem w_c10 : (Jvm.Cond.code ({ cls := "com/example/clotho/clotho/suite/Outcome", name := "verdict", desc := "()Lcom/example/clotho/clotho/suite/Outcome$Verdict;" } : Jvm.MethodName) prog_10_method_9_code (1 : Nat) (Option.some (Jvm.ClassFile.FieldType.object "com/example/clotho/clotho/suite/Outcome$Verdict"))).before args0 about1 = true := code_word (m := ⟨10, 2⟩) (meth := k10m2) (c := k10c2) (by decide +kernel) rfl rfl rfl (by decide +kernel)
set_option maxRecDepth 65536 in
theorem w_c11 : (Jvm.Cond.code ({ cls := "com/example/clotho/clotho/suite/Outcome", name := "name", desc := "()Ljava/lang/String;" } : Jvm.MethodName) prog_10_method_10_code (1 : Nat) (Option.some (Jvm.ClassFile.FieldType.object "java/lang/String"))).before args0 about1 = true := code_word (m := ⟨10, 3⟩) (meth := k10m3) (c := k10c3) (by decide +kernel) rfl rfl rfl (by decide +kernel)
set_option maxRecDepth 65536 in
theorem w_c12 : (Jvm.Cond.code ({ cls := "com/example/clotho/clotho/suite/OutcomeSkipPinLaw", name := "same", desc := "(Ljava/lang/String;Ljava/lang/String;)Z" } : Jvm.MethodName) method_2_code (2 : Nat) (Option.some Jvm.ClassFile.FieldType.boolean)).before args0 about1 = true := code_word (m := ⟨1, 1⟩) (meth := k1m1) (c := k1c1) (by decide +kernel) rfl rfl rfl (by decide +kernel)
set_option maxRecDepth 65536 in
theorem w_c13 : (Jvm.Cond.code ({ cls := "java/lang/String", name := "equals", desc := "(Ljava/lang/Object;)Z" } : Jvm.MethodName) jdk_42_method_66_code (3 : Nat) (Option.some Jvm.ClassFile.FieldType.boolean)).before args0 about1 = true := code_word (m := ⟨7, 2⟩) (meth := k7m2) (c := k7c2) (by decide +kernel) rfl rfl rfl (by decide +kernel)
set_option maxRecDepth 65536 in
theorem w_c14 : (Jvm.Cond.code ({ cls := "com/example/clotho/clotho/suite/Outcome", name := "detail", desc := "()Ljava/lang/String;" } : Jvm.MethodName) prog_10_method_11_code (1 : Nat) (Option.some (Jvm.ClassFile.FieldType.object "java/lang/String"))).before args0 about1 = true := code_word (m := ⟨10, 4⟩) (meth := k10m4) (c := k10c4) (by decide +kernel) rfl rfl rfl (by decide +kernel)
def codes1 : List Jvm.Cond := [Jvm.Cond.code x code maxLocals ret, Jvm.Cond.code ({ cls := "java/lang/String", name := "<init>", desc := "([C)V" } : Jvm.MethodName) jdk_42_method_3_code (2 : Nat) (Option.none : Option Jvm.ClassFile.FieldType), Jvm.Cond.code ({ cls := "java/lang/String", name := "<init>", desc := "([CIILjava/lang/Void;)V" } : Jvm.MethodName) jdk_42_method_149_code (6 : Nat) (Option.none : Option Jvm.ClassFile.FieldType), Jvm.Cond.code ({ cls := "java/lang/Object", name := "<init>", desc := "()V" } : Jvm.MethodName) object_method_1_code (1 : Nat) (Option.none : Option Jvm.ClassFile.FieldType), Jvm.Cond.code ({ cls := "java/lang/StringUTF16", name := "compress", desc := "([CII)[B" } : Jvm.MethodName) jdk_52_method_16_code (6 : Nat) (Option.some (Jvm.ClassFile.FieldType.array Jvm.ClassFile.FieldType.byte)), Jvm.Cond.code ({ cls := "java/lang/StringUTF16", name := "compress", desc := "([CI[BII)I" } : Jvm.MethodName) jdk_52_method_21_code (7 : Nat) (Option.some Jvm.ClassFile.FieldType.int), Jvm.Cond.code ({ cls := "java/lang/StringUTF16", name := "coderFromArrayLen", desc := "([BI)B" } : Jvm.MethodName) jdk_52_method_15_code (2 : Nat) (Option.some Jvm.ClassFile.FieldType.byte), Jvm.Cond.code ({ cls := "com/example/clotho/clotho/suite/Outcome", name := "skip", desc := "(Ljava/lang/String;Ljava/lang/String;)Lcom/example/clotho/clotho/suite/Outcome;" } : Jvm.MethodName) prog_10_method_4_code (2 : Nat) (Option.some (Jvm.ClassFile.FieldType.object "com/example/clotho/clotho/suite/Outcome")), Jvm.Cond.code ({ cls := "com/example/clotho/clotho/suite/Outcome", name := "<init>", desc := "(Lcom/example/clotho/clotho/suite/Outcome$Verdict;Ljava/lang/String;Ljava/lang/String;)V" } : Jvm.MethodName) prog_10_method_1_code (4 : Nat) (Option.none : Option Jvm.ClassFile.FieldType), Jvm.Cond.code ({ cls := "java/lang/Record", name := "<init>", desc := "()V" } : Jvm.MethodName) jdk_30_method_1_code (1 : Nat) (Option.none : Option Jvm.ClassFile.FieldType), Jvm.Cond.code ({ cls := "com/example/clotho/clotho/suite/Outcome", name := "verdict", desc := "()Lcom/example/clotho/clotho/suite/Outcome$Verdict;" } : Jvm.MethodName) prog_10_method_9_code (1 : Nat) (Option.some (Jvm.ClassFile.FieldType.object "com/example/clotho/clotho/suite/Outcome$Verdict")), Jvm.Cond.code ({ cls := "com/example/clotho/clotho/suite/Outcome", name := "name", desc := "()Ljava/lang/String;" } : Jvm.MethodName) prog_10_method_10_code (1 : Nat) (Option.some (Jvm.ClassFile.FieldType.object "java/lang/String")), Jvm.Cond.code ({ cls := "com/example/clotho/clotho/suite/OutcomeSkipPinLaw", name := "same", desc := "(Ljava/lang/String;Ljava/lang/String;)Z" } : Jvm.MethodName) method_2_code (2 : Nat) (Option.some Jvm.ClassFile.FieldType.boolean), Jvm.Cond.code ({ cls := "java/lang/String", name := "equals", desc := "(Ljava/lang/Object;)Z" } : Jvm.MethodName) jdk_42_method_66_code (3 : Nat) (Option.some Jvm.ClassFile.FieldType.boolean), Jvm.Cond.code ({ cls := "com/example/clotho/clotho/suite/Outcome", name := "detail", desc := "()Ljava/lang/String;" } : Jvm.MethodName) prog_10_method_11_code (1 : Nat) (Option.some (Jvm.ClassFile.FieldType.object "java/lang/String"))]
set_option maxRecDepth 65536 in
theorem codes_eq : words1.filter isCode = codes1 := rfl
theorem w_codes : ∀ c ∈ words1.filter isCode, c.before args0 about1 = true := by
  rw [codes_eq]
  intro c hc
  simp only [codes1, List.mem_cons, List.not_mem_nil, or_false] at hc
  rcases hc with rfl | rfl | rfl | rfl | rfl | rfl | rfl | rfl | rfl | rfl | rfl | rfl | rfl | rfl | rfl
  · exact w_c0
  · exact w_c1
  · exact w_c2
  · exact w_c3
  · exact w_c4
  · exact w_c5
  · exact w_c6
  · exact w_c7
  · exact w_c8
  · exact w_c9
  · exact w_c10
  · exact w_c11
  · exact w_c12
  · exact w_c13
  · exact w_c14
set_option maxRecDepth 65536 in
theorem w_t1 : (words1.take 24).all (fun c => isCode c || c.before args0 about1) = true := by decide +kernel
set_option maxRecDepth 65536 in
theorem w_t2 : ((words1.drop 24).take 24).all (fun c => isCode c || c.before args0 about1) = true := by decide +kernel
set_option maxRecDepth 65536 in
theorem w_t3 : (((words1.drop 24).drop 24).take 24).all (fun c => isCode c || c.before args0 about1) = true := by decide +kernel
set_option maxRecDepth 65536 in
theorem w_t4 : (((words1.drop 24).drop 24).drop 24).all (fun c => isCode c || c.before args0 about1) = true := by decide +kernel
theorem w_tables : (allAtoms (Jvm.Cond.code x code maxLocals ret :: tables_1)).before args0 about1 = true := by
  rw [allAtoms_all]
  show words1.all (fun c => c.before args0 about1) = true
  refine all_split ?_ w_codes
  rw [← List.take_append_drop 24 words1, List.all_append, w_t1, ← List.take_append_drop 24 (words1.drop 24), List.all_append, w_t2, ← List.take_append_drop 24 ((words1.drop 24).drop 24), List.all_append, w_t3, w_t4]
  rfl
set_option maxRecDepth 65536 in
theorem w_rest : rest_1_c.before args0 about1 = true := by decide +kernel
set_option maxRecDepth 65536 in
theorem w_case : (Jvm.Cond.and given_1 narrow_1).before args0 about1 = true := by decide +kernel
set_option maxRecDepth 65536 in
theorem w_consts : constsHeld consts_1 about1 := Jvm.Lit.constsHeldB_iff.mp (by decide +kernel)
theorem w_applies : (headSpec (Jvm.Cond.code x code maxLocals ret :: tables_1) room_1).applies x e0.platform about1 = true :=
  (Spec.applies_iff w_frames).mpr ⟨w_running, w_runnable, w_alone, w_named, w_hears, w_ripe, w_room, w_tables⟩
theorem atStart : AtStart classFile x code maxLocals ret World_1 tables_1 room_1 Calls_1 rest_1 Pre_1 launch0 p0 e0 about1 theMethod args0 below0 :=
  ⟨lists_1, trivial, launch0.admits_env _ _ _, launch0.least_env, fairChoices_fair.cas, fairChoices_fair.clock, w_frames, w_args, w_heap, w_applies, ⟨w_consts, trivial⟩, w_rest, w_case⟩
end start1
theorem witness_1 : WitnessClaimed_1 := ⟨start1.p0, start1.e0, start1.about1, start1.theMethod, start1.args0, start1.below0, start1.atStart⟩
end Jvm.Pilot.@@N@@
