import JvmDerived
import JvmDerived.Pilot.@@N@@Statement
import JvmDerived.Pilot.@@N@@Code
set_option linter.unusedVariables false
set_option linter.unusedSimpArgs false
/- laws to paste: Road.backV (cut by pick.py; bodies as the Statement names them) -/
namespace Jvm.Pilot.@@N@@
namespace StrChars
open Jvm Sem ClassFile Op Lib Jvm.Stand Jvm.Free.XT Jvm.Free.ALB Jvm.Free.JM Jvm.Free
open Jvm.Lib.Cold (StaticIs)
/-- a char array whose places are chars -/
def Ch (a : Addr) (A : Cell) (U : State) : Prop := Arr .char a A U ∧ Typed .char A
theorem Ch.mv {a : Addr} {A : Cell} {U U' : State} (h : Ch a A U) (hal : U.vm.Alike U'.vm) (hh : U'.heap = U.heap) : Ch a A U' := ⟨h.1.mv hal hh, h.2⟩
theorem Ch.keep {a : Addr} {A : Cell} {U U' : State} (h : Ch a A U) (hal : U.vm.Alike U'.vm) (hk : U'.heap[a]? = some A) : Ch a A U' := ⟨h.1.keep hal hk, h.2⟩
/-- what place i of a char[]'s cell holds -/
def cv (A : Cell) (i : Nat) : Int32 := match A.slots[i]? with | some (.int x) => x | _ => 0
theorem Ch.get {a : Addr} {A : Cell} {U : State} (h : Ch a A U) {i : Nat} (hi : i < A.slots.size) : A.slots[i]? = some (.int (cv A i)) := by
  have e := Array.getElem?_eq_getElem hi
  have f := h.2 i _ e
  unfold cv; rw [e]
  generalize A.slots[i] = v at f
  cases v <;> simp [fits] at f ⊢
/-- the byte that i2b leaves of a char -/
def lo8 (x : Int32) : Int32 := x.toInt8.toInt32
theorem fits_lo8 (y : Int32) : fits .byte (.int (lo8 y)) = true := by
  have h1 := y.toInt8.le_toInt
  have h2 := y.toInt8.toInt_lt
  simp only [lo8, fits, Bool.and_eq_true, decide_eq_true_eq, Int32.le_iff_toInt_le, Int8.toInt_toInt32, show (-128 : Int32).toInt = -128 from by decide, show (127 : Int32).toInt = 127 from by decide]
  omega
/-- A' is A but that each place j of lo .. hi - 1 holds f j -/
def Laid (A A' : Cell) (lo hi : Nat) (f : Nat → Value) : Prop := A'.cls = A.cls ∧ A'.vm = A.vm ∧ A'.slots.size = A.slots.size ∧ ∀ i, A'.slots[i]? = if lo ≤ i ∧ i < hi then some (f i) else A.slots[i]?
theorem Laid.zero (A : Cell) (lo : Nat) (f : Nat → Value) : Laid A A lo (lo + 0) f := ⟨rfl, rfl, rfl, fun i => by rw [if_neg (by omega)]⟩
theorem Laid.step {A Ak : Cell} {lo k : Nat} {f : Nat → Value} {v : Value} (h : Laid A Ak lo k f) (hlo : lo ≤ k) (hk : k < Ak.slots.size) (hv : v = f k) : Laid A (Ak.setSlot k v) lo (k + 1) f := by
  refine ⟨h.1, h.2.1, by simpa [Cell.setSlot] using h.2.2.1, fun i => ?_⟩
  by_cases e : k = i
  · subst e; rw [Cell.slots_setSlot_self v hk, if_pos (by omega), hv]
  · rw [Cell.slots_setSlot_ne v e, h.2.2.2 i]
    by_cases q : lo ≤ i ∧ i < k
    · rw [if_pos q, if_pos (by omega)]
    · rw [if_neg q, if_neg (by omega)]
def U16 : String := "java/lang/StringUTF16"
namespace Cmp5
def yN : MethodName := ⟨"java/lang/StringUTF16", "compress", "([CI[BII)I"⟩
abbrev yB : ByteArray := jdk_52_method_21_code
theorem d0 : decode yB 0 = .ok (.iconst 0, 1) := by decide +kernel
theorem d1 : decode yB 1 = .ok (.istore 5, 2) := by decide +kernel
theorem d3 : decode yB 3 = .ok (.iload 5, 2) := by decide +kernel
theorem d5 : decode yB 5 = .ok (.iload 4, 2) := by decide +kernel
theorem d7 : decode yB 7 = .ok (.if_icmp (.ge) 37, 3) := by decide +kernel
theorem d10 : decode yB 10 = .ok (.aload_n 0, 1) := by decide +kernel
theorem d11 : decode yB 11 = .ok (.iload_n 1, 1) := by decide +kernel
theorem d12 : decode yB 12 = .ok (.caload, 1) := by decide +kernel
theorem d13 : decode yB 13 = .ok (.istore 6, 2) := by decide +kernel
theorem d15 : decode yB 15 = .ok (.iload 6, 2) := by decide +kernel
theorem d17 : decode yB 17 = .ok (.sipush 255, 3) := by decide +kernel
theorem d20 : decode yB 20 = .ok (.if_icmp (.le) 6, 3) := by decide +kernel
theorem d26 : decode yB 26 = .ok (.aload_n 2, 1) := by decide +kernel
theorem d27 : decode yB 27 = .ok (.iload_n 3, 1) := by decide +kernel
theorem d28 : decode yB 28 = .ok (.iload 6, 2) := by decide +kernel
theorem d30 : decode yB 30 = .ok (.i2b, 1) := by decide +kernel
theorem d31 : decode yB 31 = .ok (.bastore, 1) := by decide +kernel
theorem d32 : decode yB 32 = .ok (.iinc 1 1, 3) := by decide +kernel
theorem d35 : decode yB 35 = .ok (.iinc 3 1, 3) := by decide +kernel
theorem d38 : decode yB 38 = .ok (.iinc 5 1, 3) := by decide +kernel
theorem d41 : decode yB 41 = .ok (.goto (-38), 3) := by decide +kernel
theorem d44 : decode yB 44 = .ok (.iload 4, 2) := by decide +kernel
theorem d46 : decode yB 46 = .ok (.ireturn, 1) := by decide +kernel
def site : List Cond := []
def tab : Cond := tabOf yN yB 7 (some .int) site
def P (b : Addr) (A : Cell) (d : Addr) (B : Cell) (o q len : Nat) (args : Array Value) (s : State) : Prop := args = #[.ref b, .int (Int32.ofNat o), .ref d, .int (Int32.ofNat q), .int (Int32.ofNat len)] ∧ Ch b A s ∧ Arr .byte d B s ∧ b ≠ d ∧ o + len ≤ A.slots.size ∧ q + len ≤ B.slots.size ∧ ∀ i, i < len → ¬ 255 < cv A (o + i)
def E (b : Addr) (A : Cell) (d : Addr) (B : Cell) (o q len : Nat) (r : Option Value) (s u : State) : Prop := r = some (.int (Int32.ofNat len)) ∧ ∃ B', Put d B' s u ∧ Laid B B' q (q + len) (fun j => Value.int (lo8 (cv A (o + (j - q)))))
/-- no char of the range above 255: len; the places written hold each char's low byte -/
theorem law (l : Launch) (b : Addr) (A : Cell) (d : Addr) (B : Cell) (o q len : Nat) : Law l yN 5 5 0 0 yB 7 (some .int) site (P b A d B o q len) (E b A d B o q len) (copyLocs d q len) 0 0 := by
  refine Law.of_walk (plainFor_of_name (by decide +kernel)) (by decide +kernel) (by decide +kernel) (by decide) (fun _ _ h => by rw [h.1]; rfl) (fun _ U U' hal hh h => ⟨h.1, h.2.1.mv hal hh, h.2.2.1.mv hal hh, h.2.2.2⟩) (fun r U U' V V' h1 hal h2 h => ⟨h.1, h.2.elim fun B' q => ⟨B', q.1.mv h1 h2, q.2⟩⟩) ?_
  intro p e s m args below meth c s₁ X0 hexec hbytes hml hret hlk hnm hown hh0 W hP
  obtain ⟨rfl, hA, hB, hne, l1, l2, hp⟩ := hP
  have c1 : Steps p.tables e below (s₁.setTop (entryFrame m #[.ref b, .int (Int32.ofNat o), .ref d, .int (Int32.ofNat q), .int (Int32.ofNat len)] 7)) (s₁.setTop (mkF m 0 #[.val (.ref b), .val (.int (Int32.ofNat o)), .val (.ref d), .val (.int (Int32.ofNat q)), .val (.int (Int32.ofNat len)), .unset, .unset] [])) := entry rfl
  have hA0 := hA.1.mv X0.warmed.alike hh0
  have hB0 := hB.mv X0.warmed.alike hh0
  have a31 := hA.1.2.2.2
  have c2 : Steps p.tables e below (s₁.setTop (entryFrame m #[.ref b, .int (Int32.ofNat o), .ref d, .int (Int32.ofNat q), .int (Int32.ofNat len)] 7)) (s₁.setTop (mkF m 3 #[.val (.ref b), .val (.int (Int32.ofNat o)), .val (.ref d), .val (.int (Int32.ofNat q)), .val (.int (Int32.ofNat len)), .val (.int 0), .unset] [])) := c1.trans (by
    refine iconstV X0.here hexec rfl 0 (hb hbytes d0) (by decide) ?_
    refine XS.istore X0.here hexec rfl (hb hbytes d1) rfl rfl ?_
    exact Steps.refl _)
  have loop : ∀ (r i : Nat), i + r = len → ∀ (z : Slot), (z = .unset ∨ ∃ w, z = .val w ∧ w.category = 1) → ∀ (Tl : State) (Bk : Cell), Stand p l e { frames := 0, locals := 0, cells := 0, slots := 0 } s m #[.ref b, .int (Int32.ofNat o), .ref d, .int (Int32.ofNat q), .int (Int32.ofNat len)] below meth c Tl ([] ++ copyLocs d q i) 0 0 → Put d Bk s₁ Tl → Laid B Bk q (q + i) (fun j => Value.int (lo8 (cv A (o + (j - q))))) →
      Steps p.tables e below (s₁.setTop (entryFrame m #[.ref b, .int (Int32.ofNat o), .ref d, .int (Int32.ofNat q), .int (Int32.ofNat len)] 7)) (Tl.setTop (mkF m 3 #[.val (.ref b), .val (.int (Int32.ofNat (o + i))), .val (.ref d), .val (.int (Int32.ofNat (q + i))), .val (.int (Int32.ofNat len)), .val (.int (Int32.ofNat i)), z] [])) → ∃ (T' : State) (B' : Cell) (z' : Slot), Stand p l e { frames := 0, locals := 0, cells := 0, slots := 0 } s m #[.ref b, .int (Int32.ofNat o), .ref d, .int (Int32.ofNat q), .int (Int32.ofNat len)] below meth c T' ([] ++ copyLocs d q len) 0 0 ∧ Put d B' s₁ T' ∧ Laid B B' q (q + len) (fun j => Value.int (lo8 (cv A (o + (j - q))))) ∧
      Steps p.tables e below (s₁.setTop (entryFrame m #[.ref b, .int (Int32.ofNat o), .ref d, .int (Int32.ofNat q), .int (Int32.ofNat len)] 7)) (T'.setTop (mkF m 3 #[.val (.ref b), .val (.int (Int32.ofNat (o + len))), .val (.ref d), .val (.int (Int32.ofNat (q + len))), .val (.int (Int32.ofNat len)), .val (.int (Int32.ofNat len)), z'] [])) := by
    intro r
    induction r with
    | zero =>
      intro i hi z hz Tl Bk Xl pl fl cl
      have hil : i = len := by omega
      rw [hil] at Xl fl cl
      exact ⟨Tl, Bk, z, Xl, pl, fl, cl⟩
    | succ r ih =>
      intro i hi z hz Tl Bk Xl pl fl cl
      have all := X0.warmed.alike.symm.trans Xl.warmed.alike
      have hAl := hA0.keep all (pl.other hne hA0.1)
      have hBk := hB0.like all pl.1 fl.1 fl.2.1 fl.2.2.1
      have hlt : q + i < Bk.slots.size := by rw [fl.2.2.1]; omega
      have c3 : Steps p.tables e below (s₁.setTop (entryFrame m #[.ref b, .int (Int32.ofNat o), .ref d, .int (Int32.ofNat q), .int (Int32.ofNat len)] 7)) (Tl.setTop (mkF m 12 #[.val (.ref b), .val (.int (Int32.ofNat (o + i))), .val (.ref d), .val (.int (Int32.ofNat (q + i))), .val (.int (Int32.ofNat len)), .val (.int (Int32.ofNat i)), z] [.int (Int32.ofNat (o + i)), .ref b])) := cl.trans (by
        refine XS.iload Xl.here hexec rfl (hb hbytes d3) rfl ?_
        refine XS.iload Xl.here hexec rfl (hb hbytes d5) rfl ?_
        refine XS.icmpNo Xl.here hexec rfl (hb hbytes d7) rfl (ii_ge_f (lt32 (by omega) (by omega))) ?_
        refine XS.aloadN Xl.here hexec rfl (hb hbytes d10) rfl rfl ?_
        refine XS.iloadN Xl.here hexec rfl (hb hbytes d11) rfl ?_
        exact Steps.refl _)
      have c4 : Steps p.tables e below (s₁.setTop (entryFrame m #[.ref b, .int (Int32.ofNat o), .ref d, .int (Int32.ofNat q), .int (Int32.ofNat len)] 7)) (Tl.setTop (mkF m 13 #[.val (.ref b), .val (.int (Int32.ofNat (o + i))), .val (.ref d), .val (.int (Int32.ofNat (q + i))), .val (.int (Int32.ofNat len)), .val (.int (Int32.ofNat i)), z] [.int (cv A (o + i))])) := c3.trans (by
        refine Xl.aget hexec hAl rfl (hA.get (i := o + i) (by omega)) rfl rfl (hb hbytes d12) ?_
        exact Steps.refl _)
      have c5 : Steps p.tables e below (s₁.setTop (entryFrame m #[.ref b, .int (Int32.ofNat o), .ref d, .int (Int32.ofNat q), .int (Int32.ofNat len)] 7)) (Tl.setTop (mkF m 15 #[.val (.ref b), .val (.int (Int32.ofNat (o + i))), .val (.ref d), .val (.int (Int32.ofNat (q + i))), .val (.int (Int32.ofNat len)), .val (.int (Int32.ofNat i)), .val (.int (cv A (o + i)))] [])) := c4.trans (by
        refine XS.istoreS Xl.here hexec rfl (hb hbytes d13) rfl rfl hz ?_
        exact Steps.refl _)
      have c6 : Steps p.tables e below (s₁.setTop (entryFrame m #[.ref b, .int (Int32.ofNat o), .ref d, .int (Int32.ofNat q), .int (Int32.ofNat len)] 7)) (Tl.setTop (mkF m 31 #[.val (.ref b), .val (.int (Int32.ofNat (o + i))), .val (.ref d), .val (.int (Int32.ofNat (q + i))), .val (.int (Int32.ofNat len)), .val (.int (Int32.ofNat i)), .val (.int (cv A (o + i)))] [.int (lo8 (cv A (o + i))), .int (Int32.ofNat (q + i)), .ref d])) := c5.trans (by
        refine XS.iload Xl.here hexec rfl (hb hbytes d15) rfl ?_
        refine sipushV Xl.here hexec rfl 255 (hb hbytes d17) (by decide) ?_
        refine XS.icmpYes Xl.here hexec rfl (pc0 := 20) rfl (hb hbytes d20) rfl (ii_le_t (hp i (by omega))) (by decide) rfl ?_
        refine XS.aloadN Xl.here hexec rfl (hb hbytes d26) rfl rfl ?_
        refine XS.iloadN Xl.here hexec rfl (hb hbytes d27) rfl ?_
        refine XS.iload Xl.here hexec rfl (hb hbytes d28) rfl ?_
        refine i2b Xl.here hexec rfl (hb hbytes d30) rfl ?_
        exact Steps.refl _)
      obtain ⟨T7, X7, p7, st7⟩ := Xl.aput hexec hBk rfl hlt rfl (fits_lo8 (cv A (o + i))) (g := (mkF m 31 #[.val (.ref b), .val (.int (Int32.ofNat (o + i))), .val (.ref d), .val (.int (Int32.ofNat (q + i))), .val (.int (Int32.ofNat len)), .val (.int (Int32.ofNat i)), .val (.int (cv A (o + i)))] [.int (lo8 (cv A (o + i))), .int (Int32.ofNat (q + i)), .ref d])) rfl (rest := []) rfl (hb hbytes d31)
      have c8 : Steps p.tables e below (s₁.setTop (entryFrame m #[.ref b, .int (Int32.ofNat o), .ref d, .int (Int32.ofNat q), .int (Int32.ofNat len)] 7)) (T7.setTop (mkF m 32 #[.val (.ref b), .val (.int (Int32.ofNat (o + i))), .val (.ref d), .val (.int (Int32.ofNat (q + i))), .val (.int (Int32.ofNat len)), .val (.int (Int32.ofNat i)), .val (.int (cv A (o + i)))] [])) := c6.trans (st7 _ (Steps.refl _))
      have c9 : Steps p.tables e below (s₁.setTop (entryFrame m #[.ref b, .int (Int32.ofNat o), .ref d, .int (Int32.ofNat q), .int (Int32.ofNat len)] 7)) (T7.setTop (mkF m 3 #[.val (.ref b), .val (.int (Int32.ofNat (o + i) + 1)), .val (.ref d), .val (.int (Int32.ofNat (q + i) + 1)), .val (.int (Int32.ofNat len)), .val (.int (Int32.ofNat i + 1)), .val (.int (cv A (o + i)))] [])) := c8.trans (by
        refine iincV X7.here hexec rfl 1 (hb hbytes d32) (by decide) rfl rfl ?_
        refine iincV X7.here hexec rfl 1 (hb hbytes d35) (by decide) rfl rfl ?_
        refine iincV X7.here hexec rfl 1 (hb hbytes d38) (by decide) rfl rfl ?_
        refine XS.goto X7.here hexec rfl (pc0 := 41) rfl (hb hbytes d41) (by decide) rfl ?_
        exact Steps.refl _)
      have c10 : Steps p.tables e below (s₁.setTop (entryFrame m #[.ref b, .int (Int32.ofNat o), .ref d, .int (Int32.ofNat q), .int (Int32.ofNat len)] 7)) (T7.setTop (mkF m 3 #[.val (.ref b), .val (.int (Int32.ofNat (o + (i + 1)))), .val (.ref d), .val (.int (Int32.ofNat (q + (i + 1)))), .val (.int (Int32.ofNat len)), .val (.int (Int32.ofNat (i + 1))), .val (.int (cv A (o + i)))] [])) := by
        have := c9
        rw [succ32, succ32, succ32] at this
        exact this
      exact ih (i + 1) (by omega) _ (Or.inr ⟨_, rfl, rfl⟩) T7 _ (by rw [copyLocs_step, ← List.append_assoc]; exact X7) (pl.trans p7) (fl.step (by omega) hlt (by simp)) c10
  obtain ⟨T9, B9, z9, X9, p9, f9, g9⟩ := loop len 0 (by omega) .unset (Or.inl rfl) s₁ B (by simpa [copyLocs] using X0) ⟨hB0.1, fun _ _ => rfl, rfl⟩ (Laid.zero _ _ _) c2
  have c11 : Steps p.tables e below (s₁.setTop (entryFrame m #[.ref b, .int (Int32.ofNat o), .ref d, .int (Int32.ofNat q), .int (Int32.ofNat len)] 7)) (T9.setTop (mkF m 46 #[.val (.ref b), .val (.int (Int32.ofNat (o + len))), .val (.ref d), .val (.int (Int32.ofNat (q + len))), .val (.int (Int32.ofNat len)), .val (.int (Int32.ofNat len)), z9] [.int (Int32.ofNat len)])) := g9.trans (by
    refine XS.iload X9.here hexec rfl (hb hbytes d3) rfl ?_
    refine XS.iload X9.here hexec rfl (hb hbytes d5) rfl ?_
    refine XS.icmpYes X9.here hexec rfl (pc0 := 7) rfl (hb hbytes d7) rfl (ii_ge_t (nlt32 (by omega) (Nat.le_refl _))) (by decide) rfl ?_
    refine XS.iload X9.here hexec rfl (hb hbytes d44) rfl ?_
    exact Steps.refl _)
  exact ⟨T9, some (.int (Int32.ofNat len)), _, _, _, X9, by simp, rfl, rfl, (fun h => by cases h), ⟨rfl, B9, p9.from hh0, f9⟩, fun fs hl => c11.trans (X9.ireturnOut hexec hret rfl (Or.inl rfl) (hb hbytes d46) hl)⟩
end Cmp5
namespace Cmp3
def yN : MethodName := ⟨"java/lang/StringUTF16", "compress", "([CII)[B"⟩
abbrev yB : ByteArray := jdk_52_method_16_code
theorem d0 : decode yB 0 = .ok (.iload_n 2, 1) := by decide +kernel
theorem d1 : decode yB 1 = .ok (.newarray .byte, 2) := by decide +kernel
theorem d3 : decode yB 3 = .ok (.astore_n 3, 1) := by decide +kernel
theorem d4 : decode yB 4 = .ok (.aload_n 0, 1) := by decide +kernel
theorem d5 : decode yB 5 = .ok (.iload_n 1, 1) := by decide +kernel
theorem d6 : decode yB 6 = .ok (.aload_n 3, 1) := by decide +kernel
theorem d7 : decode yB 7 = .ok (.iconst 0, 1) := by decide +kernel
theorem d8 : decode yB 8 = .ok (.iload_n 2, 1) := by decide +kernel
theorem d9 : decode yB 9 = .ok (.invokestatic 115, 3) := by decide +kernel
theorem d12 : decode yB 12 = .ok (.istore 4, 2) := by decide +kernel
theorem d14 : decode yB 14 = .ok (.iload 4, 2) := by decide +kernel
theorem d16 : decode yB 16 = .ok (.iload_n 2, 1) := by decide +kernel
theorem d17 : decode yB 17 = .ok (.if_icmp (.eq) 40, 3) := by decide +kernel
theorem d57 : decode yB 57 = .ok (.aload_n 3, 1) := by decide +kernel
theorem d58 : decode yB 58 = .ok (.areturn, 1) := by decide +kernel
def site : List Cond := [.arrayClass .byte, Cmp5.tab] ++ staticW U16 115 Cmp5.yN
def tab : Cond := tabOf yN yB 6 (some (.array .byte)) site
def P (b : Addr) (A : Cell) (o len : Nat) (args : Array Value) (s : State) : Prop := args = #[.ref b, .int (Int32.ofNat o), .int (Int32.ofNat len)] ∧ Ch b A s ∧ o + len ≤ A.slots.size ∧ len ≤ 536870912 ∧ ∀ i, i < len → ¬ 255 < cv A (o + i)
def E (b : Addr) (A : Cell) (o len : Nat) (r : Option Value) (s u : State) : Prop := NewArr .byte "[B" len (fun j => .int (lo8 (cv A (o + j)))) r s u ∧ u.heap.size = s.heap.size + 1
/-- no char of the range above 255: a new byte[] of their low bytes -/
theorem law (l : Launch) (b : Addr) (A : Cell) (o len : Nat) : Law l yN 3 3 1 18 yB 6 (some (.array .byte)) site (P b A o len) (E b A o len) [] 1 len := by
  refine Law.of_walk (plainFor_of_name (by decide +kernel)) (by decide +kernel) (by decide +kernel) (by decide) (fun _ _ h => by rw [h.1]; rfl) (fun _ U U' hal hh h => ⟨h.1, h.2.1.mv hal hh, h.2.2⟩) (fun r U U' V V' h1 hal h2 h => ⟨NewArr.mv r U U' V V' h1 hal h2 h.1, by rw [h1, h2]; exact h.2⟩) ?_
  intro p e s m args below meth c s₁ X0 hexec hbytes hml hret hlk hnm hown hh0 W hP
  obtain ⟨rfl, hA, l1, l2, hp⟩ := hP
  have a31 := hA.1.2.2.2
  have c1 : Steps p.tables e below (s₁.setTop (entryFrame m #[.ref b, .int (Int32.ofNat o), .int (Int32.ofNat len)] 6)) (s₁.setTop (mkF m 0 #[.val (.ref b), .val (.int (Int32.ofNat o)), .val (.int (Int32.ofNat len)), .unset, .unset, .unset] [])) := entry rfl
  have c2 : Steps p.tables e below (s₁.setTop (entryFrame m #[.ref b, .int (Int32.ofNat o), .int (Int32.ofNat len)] 6)) (s₁.setTop (mkF m 1 #[.val (.ref b), .val (.int (Int32.ofNat o)), .val (.int (Int32.ofNat len)), .unset, .unset, .unset] [.int (Int32.ofNat len)])) := c1.trans (by
    refine XS.iloadN X0.here hexec rfl (hb hbytes d0) rfl ?_
    exact Steps.refl _)
  obtain ⟨T3, B3, X3, ba3, bs3, bv3, bh3, bf3, st3⟩ := X0.anew hexec (atype := .byte) (wk W (.arrayClass .byte)) rfl (by show len * 1 ≤ _; omega) (by omega) (g := (mkF m 1 #[.val (.ref b), .val (.int (Int32.ofNat o)), .val (.int (Int32.ofNat len)), .unset, .unset, .unset] [.int (Int32.ofNat len)])) rfl (hb hbytes d1) (rest := []) rfl (Nat.le_refl _) (by show 0 + len ≤ len; omega)
  rw [hh0] at ba3 st3
  have kp3 : XT.Kept s T3 := (XT.Kept.of_eq hh0).push bh3
  have hA3 := hA.keep X3.warmed.alike (kp3 _ _ hA.1.1)
  have hne : b ≠ s.heap.size := hA.1.ne
  have c4 : Steps p.tables e below (s₁.setTop (entryFrame m #[.ref b, .int (Int32.ofNat o), .int (Int32.ofNat len)] 6)) (T3.setTop (mkF m 3 #[.val (.ref b), .val (.int (Int32.ofNat o)), .val (.int (Int32.ofNat len)), .unset, .unset, .unset] [.ref s.heap.size])) := c2.trans (st3 _ (Steps.refl _))
  have c5 : Steps p.tables e below (s₁.setTop (entryFrame m #[.ref b, .int (Int32.ofNat o), .int (Int32.ofNat len)] 6)) (T3.setTop (mkF m 9 #[.val (.ref b), .val (.int (Int32.ofNat o)), .val (.int (Int32.ofNat len)), .val (.ref s.heap.size), .unset, .unset] [.int (Int32.ofNat len), .int 0, .ref s.heap.size, .int (Int32.ofNat o), .ref b])) := c4.trans (by
    refine XS.astoreN X3.here hexec rfl (hb hbytes d3) rfl rfl rfl ?_
    refine XS.aloadN X3.here hexec rfl (hb hbytes d4) rfl rfl ?_
    refine XS.iloadN X3.here hexec rfl (hb hbytes d5) rfl ?_
    refine XS.aloadN X3.here hexec rfl (hb hbytes d6) rfl rfl ?_
    refine iconstV X3.here hexec rfl 0 (hb hbytes d7) (by decide) ?_
    refine XS.iloadN X3.here hexec rfl (hb hbytes d8) rfl ?_
    exact Steps.refl _)
  obtain ⟨v6, T6, X6, E6, g6⟩ := X3.callS hexec (Cmp5.law l b A s.heap.size B3 o 0 len) hown (wks W (staticW U16 115 Cmp5.yN)) (wk W Cmp5.tab) (W := 0) (Nat.le_of_ble_eq_true rfl) (Nat.le_of_ble_eq_true rfl) (Nat.le_refl _) (by show 0 + len + 0 ≤ len; omega) (g := (mkF m 9 #[.val (.ref b), .val (.int (Int32.ofNat o)), .val (.int (Int32.ofNat len)), .val (.ref s.heap.size), .unset, .unset] [.int (Int32.ofNat len), .int (Int32.ofNat 0), .ref s.heap.size, .int (Int32.ofNat o), .ref b])) rfl (by rw [hml]; rfl) c5 (argsL := [.ref b, .int (Int32.ofNat o), .ref s.heap.size, .int (Int32.ofNat 0), .int (Int32.ofNat len)]) (rest := []) rfl rfl (by show 2 * 0 + 0 ≤ _; decide) (hb hbytes d9) (⟨rfl, hA3, ba3, hne, l1, by rw [bs3]; simp, hp⟩)
  obtain ⟨rfl, B6, p6, f6⟩ := E6
  have c7 : Steps p.tables e below (s₁.setTop (entryFrame m #[.ref b, .int (Int32.ofNat o), .int (Int32.ofNat len)] 6)) (T6.setTop (mkF m 12 #[.val (.ref b), .val (.int (Int32.ofNat o)), .val (.int (Int32.ofNat len)), .val (.ref s.heap.size), .unset, .unset] [.int (Int32.ofNat len)])) := g6
  have c8 : Steps p.tables e below (s₁.setTop (entryFrame m #[.ref b, .int (Int32.ofNat o), .int (Int32.ofNat len)] 6)) (T6.setTop (mkF m 58 #[.val (.ref b), .val (.int (Int32.ofNat o)), .val (.int (Int32.ofNat len)), .val (.ref s.heap.size), .val (.int (Int32.ofNat len)), .unset] [.ref s.heap.size])) := c7.trans (by
    refine XS.istore X6.here hexec rfl (hb hbytes d12) rfl rfl ?_
    refine XS.iload X6.here hexec rfl (hb hbytes d14) rfl ?_
    refine XS.iloadN X6.here hexec rfl (hb hbytes d16) rfl ?_
    refine XS.icmpYes X6.here hexec rfl (pc0 := 17) rfl (hb hbytes d17) rfl (ii_eq_t rfl) (by decide) rfl ?_
    refine XS.aloadN X6.here hexec rfl (hb hbytes d57) rfl rfl ?_
    exact Steps.refl _)
  have X8 := X6.wide (L' := []) (cells' := 1) (slots' := len) (fun x hx hlt => by
    simp only [List.nil_append, copyLocs, List.mem_map, List.mem_range] at hx
    obtain ⟨i, -, rfl⟩ := hx
    exact absurd hlt (Nat.lt_irrefl _)) (Nat.le_refl _) (by omega)
  exact ⟨T6, some (.ref s.heap.size), _, _, _, X8, rfl, rfl, rfl, (fun h => by cases h), ⟨⟨rfl, B6, ba3.like (X3.warmed.alike.symm.trans X6.warmed.alike) p6.1 f6.1 f6.2.1 f6.2.2.1, f6.2.1.trans bv3, by rw [X6.warmed.alike.findClass, f6.1]; exact bf3, by rw [f6.2.2.1, bs3]; simp, fun j hj => by rw [f6.2.2.2 j, if_pos (by omega)]; rfl, kp3.put p6 (Nat.le_refl _)⟩, by rw [p6.2.2, bh3, hh0]; simp⟩, fun fs hl => c8.trans (X8.areturnOut hexec rfl hret rfl (hb hbytes d58) hl)⟩
end Cmp3
namespace CodL
def yN : MethodName := ⟨"java/lang/StringUTF16", "coderFromArrayLen", "([BI)B"⟩
abbrev yB : ByteArray := jdk_52_method_15_code
theorem d0 : decode yB 0 = .ok (.iload_n 1, 1) := by decide +kernel
theorem d1 : decode yB 1 = .ok (.aload_n 0, 1) := by decide +kernel
theorem d2 : decode yB 2 = .ok (.arraylength, 1) := by decide +kernel
theorem d3 : decode yB 3 = .ok (.isub, 1) := by decide +kernel
theorem d4 : decode yB 4 = .ok (.bipush 31, 2) := by decide +kernel
theorem d6 : decode yB 6 = .ok (.iushr, 1) := by decide +kernel
theorem d7 : decode yB 7 = .ok (.i2b, 1) := by decide +kernel
theorem d8 : decode yB 8 = .ok (.ireturn, 1) := by decide +kernel
def site : List Cond := []
def tab : Cond := tabOf yN yB 2 (some .byte) site
def P (d : Addr) (B : Cell) (args : Array Value) (s : State) : Prop := args = #[.ref d, .int (Int32.ofNat B.slots.size)] ∧ Arr .byte d B s
def E (r : Option Value) (s u : State) : Prop := XT.PureE (some (.int 0)) r s u
/-- an array as long as the number of chars: LATIN1 -/
theorem law (l : Launch) (d : Addr) (B : Cell) : Law l yN 2 2 0 0 yB 2 (some .byte) site (P d B) E [] 0 0 := by
  refine Law.of_walk (plainFor_of_name (by decide +kernel)) (by decide +kernel) (by decide +kernel) (by decide) (fun _ _ h => by rw [h.1]; rfl) (fun _ U U' hal hh h => ⟨h.1, h.2.mv hal hh⟩) (fun r U U' V V' h1 hal h2 h => XT.PureE.mv r U U' V V' h1 hal h2 h) ?_
  intro p e s m args below meth c s₁ X0 hexec hbytes hml hret hlk hnm hown hh0 W hP
  obtain ⟨rfl, hB⟩ := hP
  have hB0 := hB.mv X0.warmed.alike hh0
  have c1 : Steps p.tables e below (s₁.setTop (entryFrame m #[.ref d, .int (Int32.ofNat B.slots.size)] 2)) (s₁.setTop (mkF m 0 #[.val (.ref d), .val (.int (Int32.ofNat B.slots.size))] [])) := entry rfl
  have c2 : Steps p.tables e below (s₁.setTop (entryFrame m #[.ref d, .int (Int32.ofNat B.slots.size)] 2)) (s₁.setTop (mkF m 2 #[.val (.ref d), .val (.int (Int32.ofNat B.slots.size))] [.ref d, .int (Int32.ofNat B.slots.size)])) := c1.trans (by
    refine XS.iloadN X0.here hexec rfl (hb hbytes d0) rfl ?_
    refine XS.aloadN X0.here hexec rfl (hb hbytes d1) rfl rfl ?_
    exact Steps.refl _)
  have c3 : Steps p.tables e below (s₁.setTop (entryFrame m #[.ref d, .int (Int32.ofNat B.slots.size)] 2)) (s₁.setTop (mkF m 8 #[.val (.ref d), .val (.int (Int32.ofNat B.slots.size))] [.int (lo8 (ushr (Int32.ofNat B.slots.size - Int32.ofNat B.slots.size) 31))])) := c2.trans (by
    refine X0.alen hexec hB0 rfl rfl (hb hbytes d2) ?_
    refine XS.isub X0.here hexec rfl (hb hbytes d3) rfl ?_
    refine bipushV X0.here hexec rfl 31 (hb hbytes d4) (by decide) ?_
    refine iushr X0.here hexec rfl (hb hbytes d6) rfl ?_
    refine i2b X0.here hexec rfl (hb hbytes d7) rfl ?_
    exact Steps.refl _)
  have e0 : lo8 (ushr (Int32.ofNat B.slots.size - Int32.ofNat B.slots.size) 31) = 0 := by rw [Int32.sub_self]; decide
  rw [e0] at c3
  exact ⟨s₁, some (.int 0), _, _, _, X0, rfl, rfl, rfl, (fun h => by cases h), ⟨rfl, hh0⟩, fun fs hl => c3.trans (X0.ireturnOut hexec hret rfl (Or.inr (Or.inr (Or.inl rfl))) (hb hbytes d8) hl)⟩
end CodL
/-- the String at a is Latin-1 over a new byte[] (the heap's one new cell): the low bytes of the len chars of A from o on; every cell but a is kept -/
def Got (a : Addr) (D : Cell) (fV fC : Field) (A : Cell) (o len : Nat) (r : Option Value) (s u : State) : Prop := r = none ∧ ∃ D' V : Cell, Blank "java/lang/String" a D' u ∧ Same D D' [fV.slot, fC.slot] ∧ D'.slots[fV.slot]? = some (.ref s.heap.size) ∧ D'.slots[fC.slot]? = some (.int 0) ∧ Arr .byte s.heap.size V u ∧ V.vm = .none ∧ u.vm.findClass "[B" = some V.cls ∧ V.slots.size = len ∧ (∀ j, j < len → V.slots[j]? = some (.int (lo8 (cv A (o + j))))) ∧ (∀ (y : Addr) (c : Cell), y ≠ a → s.heap[y]? = some c → u.heap[y]? = some c) ∧ u.heap.size = s.heap.size + 1
theorem Got.mv {a : Addr} {D A : Cell} {fV fC : Field} {o len : Nat} : ∀ r (U U' V V' : State), U'.heap = U.heap → V.vm.Alike V'.vm → V'.heap = V.heap → Got a D fV fC A o len r U V → Got a D fV fC A o len r U' V' :=
  fun r U U' V V' h1 hal h2 ⟨e0, D', X, a1, a2, a3, a4, a5, a6, a7, a8, a9, a10, a11⟩ => ⟨e0, D', X, a1.mv hal h2, a2, by rw [h1]; exact a3, a4, by rw [h1]; exact a5.mv hal h2, a6, by rw [hal.findClass]; exact a7, a8, a9, by rw [h1, h2]; exact a10, by rw [h1, h2]; exact a11⟩
namespace New4
def yN : MethodName := ⟨"java/lang/String", "<init>", "([CIILjava/lang/Void;)V"⟩
abbrev yB : ByteArray := jdk_42_method_149_code
theorem d0 : decode yB 0 = .ok (.aload_n 0, 1) := by decide +kernel
theorem d1 : decode yB 1 = .ok (.invokespecial 1, 3) := by decide +kernel
theorem d4 : decode yB 4 = .ok (.iload_n 3, 1) := by decide +kernel
theorem d5 : decode yB 5 = .ok (.ifCond (.ne) 22, 3) := by decide +kernel
theorem d27 : decode yB 27 = .ok (.getstatic 38, 3) := by decide +kernel
theorem d30 : decode yB 30 = .ok (.ifCond (.eq) 28, 3) := by decide +kernel
theorem d33 : decode yB 33 = .ok (.aload_n 1, 1) := by decide +kernel
theorem d34 : decode yB 34 = .ok (.iload_n 2, 1) := by decide +kernel
theorem d35 : decode yB 35 = .ok (.iload_n 3, 1) := by decide +kernel
theorem d36 : decode yB 36 = .ok (.invokestatic 177, 3) := by decide +kernel
theorem d39 : decode yB 39 = .ok (.astore 5, 2) := by decide +kernel
theorem d41 : decode yB 41 = .ok (.aload_n 0, 1) := by decide +kernel
theorem d42 : decode yB 42 = .ok (.aload 5, 2) := by decide +kernel
theorem d44 : decode yB 44 = .ok (.iload_n 3, 1) := by decide +kernel
theorem d45 : decode yB 45 = .ok (.invokestatic 47, 3) := by decide +kernel
theorem d48 : decode yB 48 = .ok (.putfield 15, 3) := by decide +kernel
theorem d51 : decode yB 51 = .ok (.aload_n 0, 1) := by decide +kernel
theorem d52 : decode yB 52 = .ok (.aload 5, 2) := by decide +kernel
theorem d54 : decode yB 54 = .ok (.putfield 9, 3) := by decide +kernel
theorem d57 : decode yB 57 = .ok (.return_, 1) := by decide +kernel
def site : List Cond := [.fieldLink "java/lang/String" 38 "java/lang/String" "COMPACT_STRINGS" "Z", Cmp3.tab, CodL.tab, .laysFinal "java/lang/String" "java/lang/String" "value" "[B", .fieldLink "java/lang/String" 9 "java/lang/String" "value" "[B", .laysFinal "java/lang/String" "java/lang/String" "coder" "B", .fieldLink "java/lang/String" 15 "java/lang/String" "coder" "B"] ++ objW "java/lang/String" 1 ++ staticW "java/lang/String" 177 Cmp3.yN ++ staticW "java/lang/String" 47 CodL.yN
def tab : Cond := tabOf yN yB 6 none site
def P (a : Addr) (D : Cell) (fV fC : Field) (b : Addr) (A : Cell) (z : Int32) (o len : Nat) (args : Array Value) (s : State) : Prop := args = #[.ref a, .ref b, .int (Int32.ofNat o), .int (Int32.ofNat len), .null] ∧ Blank "java/lang/String" a D s ∧ Found "java/lang/String" "value" "[B" fV s ∧ Found "java/lang/String" "coder" "B" fC s ∧ Ch b A s ∧ StaticIs s "java/lang/String" "COMPACT_STRINGS" "Z" (.int z) ∧ ¬ z = 0 ∧ 0 < len ∧ o + len ≤ A.slots.size ∧ len ≤ 536870912 ∧ ∀ i, i < len → ¬ 255 < cv A (o + i)
def E (a : Addr) (D : Cell) (fV fC : Field) (A : Cell) (o len : Nat) (r : Option Value) (s u : State) : Prop := Got a D fV fC A o len r s u
/-- len > 0, no char of the range above 255: a Latin-1 String of their low bytes -/
theorem law (l : Launch) (a : Addr) (D : Cell) (fV fC : Field) (b : Addr) (A : Cell) (z : Int32) (o len : Nat) : Law l yN 5 4 2 35 yB 6 none site (P a D fV fC b A z o len) (E a D fV fC A o len) [⟨a, fC.slot⟩, ⟨a, fV.slot⟩] 1 len := by
  refine Law.of_walk (plainFor_of_name (by decide +kernel)) (by decide +kernel) (by decide +kernel) (by decide) (fun _ _ h => by rw [h.1]; rfl) (fun _ U U' hal hh h => ⟨h.1, h.2.1.mv hal hh, h.2.2.1.al hal, h.2.2.2.1.al hal, h.2.2.2.2.1.mv hal hh, h.2.2.2.2.2.1.there hal hh, h.2.2.2.2.2.2⟩) (fun r U U' V V' h1 hal h2 h => Got.mv r U U' V V' h1 hal h2 h) ?_
  intro p e s m args below meth c s₁ X0 hexec hbytes hml hret hlk hnm hown hh0 W hP
  obtain ⟨rfl, hB, f1, f2, hA, s1, hz, l0, l1, l2, hp⟩ := hP
  have a31 := hA.1.2.2.2
  have c1 : Steps p.tables e below (s₁.setTop (entryFrame m #[.ref a, .ref b, .int (Int32.ofNat o), .int (Int32.ofNat len), .null] 6)) (s₁.setTop (mkF m 0 #[.val (.ref a), .val (.ref b), .val (.int (Int32.ofNat o)), .val (.int (Int32.ofNat len)), .val .null, .unset] [])) := entry rfl
  have c2 : Steps p.tables e below (s₁.setTop (entryFrame m #[.ref a, .ref b, .int (Int32.ofNat o), .int (Int32.ofNat len), .null] 6)) (s₁.setTop (mkF m 1 #[.val (.ref a), .val (.ref b), .val (.int (Int32.ofNat o)), .val (.int (Int32.ofNat len)), .val .null, .unset] [.ref a])) := c1.trans (by
    refine XS.aloadN X0.here hexec rfl (hb hbytes d0) rfl rfl ?_
    exact Steps.refl _)
  obtain ⟨T3, X3, q3, st3⟩ := X0.oinit hexec hown (wks W (objW "java/lang/String" 1)) (g := (mkF m 1 #[.val (.ref a), .val (.ref b), .val (.int (Int32.ofNat o)), .val (.int (Int32.ofNat len)), .val .null, .unset] [.ref a])) rfl (by rw [hml]; rfl) (rest := []) rfl (hb hbytes d1) (W := 0) (by show 2 * 0 + 0 ≤ _; decide) (Nat.le_of_ble_eq_true rfl) (Nat.le_of_ble_eq_true rfl)
  have hh3 := q3.trans hh0
  have c4 : Steps p.tables e below (s₁.setTop (entryFrame m #[.ref a, .ref b, .int (Int32.ofNat o), .int (Int32.ofNat len), .null] 6)) (T3.setTop (mkF m 27 #[.val (.ref a), .val (.ref b), .val (.int (Int32.ofNat o)), .val (.int (Int32.ofNat len)), .val .null, .unset] [])) := (c2.trans (st3 _ (Steps.refl _))).trans (by
    refine XS.iloadN X3.here hexec rfl (hb hbytes d4) rfl ?_
    refine XS.ifYes X3.here hexec rfl (pc0 := 5) rfl (hb hbytes d5) rfl (i0_ne_t (nz32 (by omega) l0)) (by decide) rfl ?_
    exact Steps.refl _)
  obtain ⟨T5, X5, q5, st5⟩ := X3.sget hexec hown (wk W (.fieldLink "java/lang/String" 38 "java/lang/String" "COMPACT_STRINGS" "Z")) s1 (fun _ _ h => by rw [hh3]; exact h) (g := (mkF m 27 #[.val (.ref a), .val (.ref b), .val (.int (Int32.ofNat o)), .val (.int (Int32.ofNat len)), .val .null, .unset] [])) rfl (hb hbytes d27)
  have hh5 := q5.trans hh3
  have c6 : Steps p.tables e below (s₁.setTop (entryFrame m #[.ref a, .ref b, .int (Int32.ofNat o), .int (Int32.ofNat len), .null] 6)) (T5.setTop (mkF m 30 #[.val (.ref a), .val (.ref b), .val (.int (Int32.ofNat o)), .val (.int (Int32.ofNat len)), .val .null, .unset] [.int z])) := c4.trans (st5 _ (Steps.refl _))
  have c7 : Steps p.tables e below (s₁.setTop (entryFrame m #[.ref a, .ref b, .int (Int32.ofNat o), .int (Int32.ofNat len), .null] 6)) (T5.setTop (mkF m 36 #[.val (.ref a), .val (.ref b), .val (.int (Int32.ofNat o)), .val (.int (Int32.ofNat len)), .val .null, .unset] [.int (Int32.ofNat len), .int (Int32.ofNat o), .ref b])) := c6.trans (by
    refine XS.ifNo X5.here hexec rfl (hb hbytes d30) rfl (i0_eq_f hz) ?_
    refine XS.aloadN X5.here hexec rfl (hb hbytes d33) rfl rfl ?_
    refine XS.iloadN X5.here hexec rfl (hb hbytes d34) rfl ?_
    refine XS.iloadN X5.here hexec rfl (hb hbytes d35) rfl ?_
    exact Steps.refl _)
  obtain ⟨v8, T8, X8, E8, g8⟩ := X5.callS hexec (Cmp3.law l b A o len) hown (wks W (staticW "java/lang/String" 177 Cmp3.yN)) (wk W Cmp3.tab) (W := 0) (Nat.le_of_ble_eq_true rfl) (Nat.le_of_ble_eq_true rfl) (Nat.le_refl _) (by show 0 + len ≤ len; omega) (g := (mkF m 36 #[.val (.ref a), .val (.ref b), .val (.int (Int32.ofNat o)), .val (.int (Int32.ofNat len)), .val .null, .unset] [.int (Int32.ofNat len), .int (Int32.ofNat o), .ref b])) rfl (by rw [hml]; rfl) c7 (argsL := [.ref b, .int (Int32.ofNat o), .int (Int32.ofNat len)]) (rest := []) rfl rfl (by show 2 * 0 + 0 ≤ _; decide) (hb hbytes d36) (⟨rfl, hA.mv X5.warmed.alike hh5, l1, l2, hp⟩)
  obtain ⟨e8, z8⟩ := E8
  obtain ⟨rfl, N, n1, n2, n3, n4, n5, n6⟩ := NewArr.mv _ T5 s _ _ hh5.symm (Vm.Alike.refl _) rfl e8
  rw [hh5] at z8
  have hB1 := hB.keep X8.warmed.alike (n6 _ _ hB.1)
  have hne : s.heap.size ≠ a := (Nat.ne_of_lt (Array.getElem?_eq_some_iff.mp hB.1).1).symm
  have c9 : Steps p.tables e below (s₁.setTop (entryFrame m #[.ref a, .ref b, .int (Int32.ofNat o), .int (Int32.ofNat len), .null] 6)) (T8.setTop (mkF m 39 #[.val (.ref a), .val (.ref b), .val (.int (Int32.ofNat o)), .val (.int (Int32.ofNat len)), .val .null, .unset] [.ref s.heap.size])) := g8
  have c10 : Steps p.tables e below (s₁.setTop (entryFrame m #[.ref a, .ref b, .int (Int32.ofNat o), .int (Int32.ofNat len), .null] 6)) (T8.setTop (mkF m 45 #[.val (.ref a), .val (.ref b), .val (.int (Int32.ofNat o)), .val (.int (Int32.ofNat len)), .val .null, .val (.ref s.heap.size)] [.int (Int32.ofNat N.slots.size), .ref s.heap.size, .ref a])) := by
    have hc : Steps p.tables e below (s₁.setTop (entryFrame m #[.ref a, .ref b, .int (Int32.ofNat o), .int (Int32.ofNat len), .null] 6)) (T8.setTop (mkF m 45 #[.val (.ref a), .val (.ref b), .val (.int (Int32.ofNat o)), .val (.int (Int32.ofNat len)), .val .null, .val (.ref s.heap.size)] [.int (Int32.ofNat len), .ref s.heap.size, .ref a])) := c9.trans (by
      refine XS.astore X8.here hexec rfl (hb hbytes d39) rfl rfl rfl ?_
      refine XS.aloadN X8.here hexec rfl (hb hbytes d41) rfl rfl ?_
      refine XS.aload X8.here hexec rfl (hb hbytes d42) rfl rfl ?_
      refine XS.iloadN X8.here hexec rfl (hb hbytes d44) rfl ?_
      exact Steps.refl _)
    rw [n4]; exact hc
  obtain ⟨v11, T11, X11, E11, g11⟩ := X8.callS hexec (CodL.law l s.heap.size N) hown (wks W (staticW "java/lang/String" 47 CodL.yN)) (wk W CodL.tab) (W := 1) (Nat.le_of_ble_eq_true rfl) (Nat.le_of_ble_eq_true rfl) (Nat.le_refl _) (by show 0 + len + 0 ≤ len; omega) (g := (mkF m 45 #[.val (.ref a), .val (.ref b), .val (.int (Int32.ofNat o)), .val (.int (Int32.ofNat len)), .val .null, .val (.ref s.heap.size)] [.int (Int32.ofNat N.slots.size), .ref s.heap.size, .ref a])) rfl (by rw [hml]; rfl) c10 (argsL := [.ref s.heap.size, .int (Int32.ofNat N.slots.size)]) (rest := [.ref a]) rfl rfl (by show 2 * 0 + (1 + 0) ≤ _; decide) (hb hbytes d45) (⟨rfl, n1⟩)
  obtain ⟨rfl, q11⟩ := E11
  have hB11 := hB1.mv (X8.warmed.alike.symm.trans X11.warmed.alike) q11
  have c12 : Steps p.tables e below (s₁.setTop (entryFrame m #[.ref a, .ref b, .int (Int32.ofNat o), .int (Int32.ofNat len), .null] 6)) (T11.setTop (mkF m 48 #[.val (.ref a), .val (.ref b), .val (.int (Int32.ofNat o)), .val (.int (Int32.ofNat len)), .val .null, .val (.ref s.heap.size)] [.int 0, .ref a])) := g11
  obtain ⟨T13, X13, p13, bl13, sl13, st13⟩ := X11.finit hexec hown (wk W (.fieldLink "java/lang/String" 15 "java/lang/String" "coder" "B")) (Or.inr ⟨_, (wk W (.laysFinal "java/lang/String" "java/lang/String" "coder" "B"))⟩) (Or.inl ⟨rfl, hnm⟩) f2 (Or.inl rfl) hB11 (t := .byte) (by decide +kernel) rfl (g := (mkF m 48 #[.val (.ref a), .val (.ref b), .val (.int (Int32.ofNat o)), .val (.int (Int32.ofNat len)), .val .null, .val (.ref s.heap.size)] [.int 0, .ref a])) rfl (rest := []) rfl (hb hbytes d48)
  have c14 : Steps p.tables e below (s₁.setTop (entryFrame m #[.ref a, .ref b, .int (Int32.ofNat o), .int (Int32.ofNat len), .null] 6)) (T13.setTop (mkF m 54 #[.val (.ref a), .val (.ref b), .val (.int (Int32.ofNat o)), .val (.int (Int32.ofNat len)), .val .null, .val (.ref s.heap.size)] [.ref s.heap.size, .ref a])) := (c12.trans (st13 _ (Steps.refl _))).trans (by
    refine XS.aloadN X13.here hexec rfl (hb hbytes d51) rfl rfl ?_
    refine XS.aload X13.here hexec rfl (hb hbytes d52) rfl rfl ?_
    exact Steps.refl _)
  obtain ⟨T15, X15, p15, bl15, sl15, st15⟩ := X13.finit hexec hown (wk W (.fieldLink "java/lang/String" 9 "java/lang/String" "value" "[B")) (Or.inr ⟨_, (wk W (.laysFinal "java/lang/String" "java/lang/String" "value" "[B"))⟩) (Or.inl ⟨rfl, hnm⟩) f1 (Or.inl rfl) bl13 (t := (.array .byte)) (by decide +kernel) rfl (g := (mkF m 54 #[.val (.ref a), .val (.ref b), .val (.int (Int32.ofNat o)), .val (.int (Int32.ofNat len)), .val .null, .val (.ref s.heap.size)] [.ref s.heap.size, .ref a])) rfl (rest := []) rfl (hb hbytes d54)
  have c16 : Steps p.tables e below (s₁.setTop (entryFrame m #[.ref a, .ref b, .int (Int32.ofNat o), .int (Int32.ofNat len), .null] 6)) (T15.setTop (mkF m 57 #[.val (.ref a), .val (.ref b), .val (.int (Int32.ofNat o)), .val (.int (Int32.ofNat len)), .val .null, .val (.ref s.heap.size)] [])) := c14.trans (st15 _ (Steps.refl _))
  have ap := apart (Or.inr ⟨_, (wk W (.laysFinal "java/lang/String" "java/lang/String" "value" "[B"))⟩) (Or.inr ⟨_, (wk W (.laysFinal "java/lang/String" "java/lang/String" "coder" "B"))⟩) f1 f2 (t₁ := .array .byte) (t₂ := .byte) (by decide +kernel) (by decide +kernel) (by decide)
  have al := X8.warmed.alike.symm.trans X15.warmed.alike
  have n7 : T11.heap[s.heap.size]? = some N := by rw [q11]; exact n1.1
  exact ⟨T15, none, _, _, _, X15, by simp, rfl, by omega, (fun _ => rfl), ⟨rfl, _, N, bl15, ((Same.refl D _).set _ (by simp)).set _ (by simp), sl15, (Cell.slots_setSlot_ne _ ap).trans sl13, n1.keep al (p15.other hne (p13.other hne n7)), n2, by rw [al.findClass]; exact n3, n4, n5, fun y c h1 h2 => p15.other h1 (p13.other h1 (by rw [q11]; exact n6 y c h2)), by rw [p15.2.2, p13.2.2, q11]; exact z8⟩, fun fs hl => c16.trans (X15.returnOut hexec hret (hb hbytes d57) hl)⟩
end New4
namespace New1
def yN : MethodName := ⟨"java/lang/String", "<init>", "([C)V"⟩
abbrev yB : ByteArray := jdk_42_method_3_code
theorem d0 : decode yB 0 = .ok (.aload_n 0, 1) := by decide +kernel
theorem d1 : decode yB 1 = .ok (.aload_n 1, 1) := by decide +kernel
theorem d2 : decode yB 2 = .ok (.iconst 0, 1) := by decide +kernel
theorem d3 : decode yB 3 = .ok (.aload_n 1, 1) := by decide +kernel
theorem d4 : decode yB 4 = .ok (.arraylength, 1) := by decide +kernel
theorem d5 : decode yB 5 = .ok (.aconst_null, 1) := by decide +kernel
theorem d6 : decode yB 6 = .ok (.invokespecial 27, 3) := by decide +kernel
theorem d9 : decode yB 9 = .ok (.return_, 1) := by decide +kernel
def site : List Cond := [New4.tab] ++ initW "java/lang/String" 27 New4.yN
def tab : Cond := tabOf yN yB 2 none site
def P (a : Addr) (D : Cell) (fV fC : Field) (b : Addr) (A : Cell) (z : Int32) (args : Array Value) (s : State) : Prop := args = #[.ref a, .ref b] ∧ Blank "java/lang/String" a D s ∧ Found "java/lang/String" "value" "[B" fV s ∧ Found "java/lang/String" "coder" "B" fC s ∧ Ch b A s ∧ StaticIs s "java/lang/String" "COMPACT_STRINGS" "Z" (.int z) ∧ ¬ z = 0 ∧ 0 < A.slots.size ∧ A.slots.size ≤ 536870912 ∧ ∀ i, i < A.slots.size → ¬ 255 < cv A i
def E (a : Addr) (D : Cell) (fV fC : Field) (A : Cell) (r : Option Value) (s u : State) : Prop := Got a D fV fC A 0 A.slots.size r s u
/-- new String(chars), not empty, no char above 255: a Latin-1 String of their low bytes -/
theorem law (l : Launch) (a : Addr) (D : Cell) (fV fC : Field) (b : Addr) (A : Cell) (z : Int32) : Law l yN 2 1 3 52 yB 2 none site (P a D fV fC b A z) (E a D fV fC A) [⟨a, fC.slot⟩, ⟨a, fV.slot⟩] 1 A.slots.size := by
  refine Law.of_walk (plainFor_of_name (by decide +kernel)) (by decide +kernel) (by decide +kernel) (by decide) (fun _ _ h => by rw [h.1]; rfl) (fun _ U U' hal hh h => ⟨h.1, h.2.1.mv hal hh, h.2.2.1.al hal, h.2.2.2.1.al hal, h.2.2.2.2.1.mv hal hh, h.2.2.2.2.2.1.there hal hh, h.2.2.2.2.2.2⟩) (fun r U U' V V' h1 hal h2 h => Got.mv r U U' V V' h1 hal h2 h) ?_
  intro p e s m args below meth c s₁ X0 hexec hbytes hml hret hlk hnm hown hh0 W hP
  obtain ⟨rfl, hB, f1, f2, hA, s1, hz, l0, l2, hp⟩ := hP
  have c1 : Steps p.tables e below (s₁.setTop (entryFrame m #[.ref a, .ref b] 2)) (s₁.setTop (mkF m 0 #[.val (.ref a), .val (.ref b)] [])) := entry rfl
  have c2 : Steps p.tables e below (s₁.setTop (entryFrame m #[.ref a, .ref b] 2)) (s₁.setTop (mkF m 6 #[.val (.ref a), .val (.ref b)] [.null, .int (Int32.ofNat A.slots.size), .int 0, .ref b, .ref a])) := c1.trans (by
    refine XS.aloadN X0.here hexec rfl (hb hbytes d0) rfl rfl ?_
    refine XS.aloadN X0.here hexec rfl (hb hbytes d1) rfl rfl ?_
    refine iconstV X0.here hexec rfl 0 (hb hbytes d2) (by decide) ?_
    refine XS.aloadN X0.here hexec rfl (hb hbytes d3) rfl rfl ?_
    refine X0.alen hexec (hA.1.mv X0.warmed.alike hh0) rfl rfl (hb hbytes d4) ?_
    refine XS.aconstNull X0.here hexec rfl (hb hbytes d5) ?_
    exact Steps.refl _)
  obtain ⟨v3, T3, X3, E3, g3⟩ := X0.callN hexec (New4.law l a D fV fC b A z 0 A.slots.size) rfl hown (wks W (initW "java/lang/String" 27 New4.yN)) (W New4.tab (by simp only [site, List.mem_cons, List.mem_append, true_or, or_true])) (W := 0) (Nat.le_of_ble_eq_true rfl) (Nat.le_of_ble_eq_true rfl) (Nat.le_refl _) (by show 0 + A.slots.size ≤ A.slots.size; omega) (g := (mkF m 6 #[.val (.ref a), .val (.ref b)] [.null, .int (Int32.ofNat A.slots.size), .int (Int32.ofNat 0), .ref b, .ref a])) rfl (by rw [hml]; rfl) c2 (argsL := [.ref b, .int (Int32.ofNat 0), .int (Int32.ofNat A.slots.size), .null]) (rest := []) rfl rfl (by show 2 * 0 + 0 ≤ _; decide) (hb hbytes d6) (⟨rfl, hB.mv X0.warmed.alike hh0, f1.al X0.warmed.alike, f2.al X0.warmed.alike, hA.mv X0.warmed.alike hh0, s1.there X0.warmed.alike hh0, hz, l0, by omega, l2, fun i hi => by rw [Nat.zero_add]; exact hp i hi⟩)
  have e0 := Got.mv _ s₁ s _ _ hh0.symm (Vm.Alike.refl _) rfl E3
  obtain rfl := e0.1
  have c4 : Steps p.tables e below (s₁.setTop (entryFrame m #[.ref a, .ref b] 2)) (T3.setTop (mkF m 9 #[.val (.ref a), .val (.ref b)] [])) := g3
  exact ⟨T3, none, _, _, _, X3, by simp, rfl, by omega, (fun _ => rfl), e0, fun fs hl => c4.trans (X3.returnOut hexec hret (hb hbytes d9) hl)⟩
theorem pays {l : Launch} {R : Room} {p : Program} {e : Env} {below : List Frame} {s : State} {sargs : Array Value} {len W : Nat} (a : Addr) (D : Cell) (fV fC : Field) (b : Addr) (A : Cell) (z : Int32) (htab : tab.before sargs s = true) (hfr : 4 ≤ R.frames) (hlo : W + 65 ≤ R.locals) :
    Back l R p e below s sargs yN len W (fun A₁ a₁ => A₁.cells + 1 ≤ R.cells ∧ A₁.slots + A.slots.size ≤ R.slots ∧ P a D fV fC b A z a₁ A₁.U) (fun A₁ _ v₁ B₁ => E a D fV fC A v₁ A₁.U B₁.U ∧ B₁.locs = A₁.locs ++ [⟨a, fC.slot⟩, ⟨a, fV.slot⟩] ∧ B₁.cells = A₁.cells + 1 ∧ B₁.slots = A₁.slots + A.slots.size) :=
  (law l a D fV fC b A z).pays htab hfr (by omega)
end New1
end StrChars
namespace StrChars.Road
open Jvm Sem ClassFile Op Lib Jvm.Stand Jvm.Free Jvm.Free.XT
open Jvm.Lib.Cold (StaticIs)
abbrev ST : String := "java/lang/String"
/-- every table word that New1's law asks, flat -/
abbrev words : List Jvm.Cond := [.code New1.yN New1.yB 2 none, .initialized ST, .methodLink ST 27 New4.yN, .instanceMethod New4.yN,
  .code New4.yN New4.yB 6 none, .fieldLink ST 38 ST "COMPACT_STRINGS" "Z", .laysFinal ST ST "value" "[B", .fieldLink ST 9 ST "value" "[B", .laysFinal ST ST "coder" "B", .fieldLink ST 15 ST "coder" "B",
  .methodLink ST 1 Lib.objectInit, .instanceMethod Lib.objectInit, .code Lib.objectInit ⟨#[0xb1]⟩ 1 none, .methodLink ST 177 Cmp3.yN, .static Cmp3.yN, .methodLink ST 47 CodL.yN, .static CodL.yN,
  .code Cmp3.yN Cmp3.yB 6 (some (.array .byte)), .initialized U16, .arrayClass .byte, .methodLink U16 115 Cmp5.yN, .static Cmp5.yN, .code Cmp5.yN Cmp5.yB 7 (some .int), .code CodL.yN CodL.yB 2 (some .byte)]
theorem tab_of {a : Array Value} {s : State} (h : ∀ w ∈ words, w.before a s = true) : New1.tab.before a s = true := by
  have h5 : Cmp5.tab.before a s = true := unparts (wk h (.code Cmp5.yN Cmp5.yB 7 (some .int))) (wks h (.initialized Cmp5.yN.cls :: Cmp5.site))
  have hc : CodL.tab.before a s = true := unparts (wk h (.code CodL.yN CodL.yB 2 (some .byte))) (wks h (.initialized CodL.yN.cls :: CodL.site))
  have q5 : ∀ w ∈ Cmp5.tab :: words, w.before a s = true := fun w hw => (List.mem_cons.mp hw).elim (fun e => e ▸ h5) (h w)
  have h3 : Cmp3.tab.before a s = true := unparts (wk q5 (.code Cmp3.yN Cmp3.yB 6 (some (.array .byte)))) (wks q5 (.initialized Cmp3.yN.cls :: Cmp3.site))
  have q3 : ∀ w ∈ Cmp3.tab :: CodL.tab :: words, w.before a s = true := fun w hw => (List.mem_cons.mp hw).elim (fun e => e ▸ h3) fun hw => (List.mem_cons.mp hw).elim (fun e => e ▸ hc) (h w)
  have h4 : New4.tab.before a s = true := unparts (wk q3 (.code New4.yN New4.yB 6 none)) (wks q3 (.initialized New4.yN.cls :: New4.site))
  have q4 : ∀ w ∈ New4.tab :: words, w.before a s = true := fun w hw => (List.mem_cons.mp hw).elim (fun e => e ▸ h4) (h w)
  exact unparts (wk q4 (.code New1.yN New1.yB 2 none)) (wks q4 (.initialized New1.yN.cls :: New1.site))
/-- the words ride from the start Z to the walk's own state -/
theorem moved {Z s : State} {a0 args : Array Value} (hZ : Z.Warmed39 s.vm) (hw : ∀ d ∈ words, d.before a0 Z = true) : ∀ d ∈ words, d.before args s = true := fun d hd => by
  have q := hw d hd
  have t : ∀ d ∈ words, d = .arrayClass .byte ∨ (d.onTables && d.keepsFace) = true := by decide +kernel
  rcases t d hd with rfl | t
  · exact RoadKit.mvA hZ q
  · exact RoadKit.mv hZ q t
/-- WHAT COMES BACK, over the tables of the start Z: h the heap at the call, h' behind it -/
def Q (Z : State) (x : Addr) (A : Cell) (h : Heap) (v : Option Value) (h' : Heap) (L : List Loc) : Prop := v = none ∧ (∀ y ∈ L, y.base = x) ∧ RoadKit.Keep h h' [x] ∧ h'.size = h.size + 1 ∧ RoadKit.Exa Z h' x ST ∧ RoadKit.Fld Z h' x ST "value" "[B" (.ref h.size) ∧ RoadKit.Fld Z h' x ST "coder" "B" (.int 0) ∧
  (∃ V : Cell, RoadKit.Arr Z h' h.size V .byte ∧ V.vm = .none ∧ Z.vm.findClass "[B" = some V.cls ∧ V.slots.size = A.slots.size ∧ ∀ j, j < A.slots.size → V.slots[j]? = some (.int (lo8 (cv A j)))) ∧
  ∀ (O n d : String) (w : Value), RoadKit.Fld Z h x O n d w → RoadKit.slotOf Z O n d ≠ RoadKit.slotOf Z ST "value" "[B" → RoadKit.slotOf Z O n d ≠ RoadKit.slotOf Z ST "coder" "B" → RoadKit.Fld Z h' x O n d w
/-- **new String(chars) AT A CALL, IN THE ROAD'S FORM**: for specialBack behind newO: x the fresh String, b the char[] with the cell A -/
theorem back {p : Program} {l : Launch} {e : Env} {R : Room} {s : State} {args : Array Value} {below : List Frame} {len W : Nat} {Z : State} {a0 : Array Value} {h : Heap} (hZ : Z.Warmed39 s.vm) (hw : ∀ d ∈ words, d.before a0 Z = true) {kI : Nat} (wi : (Jvm.Cond.instantiable ST kI).before a0 Z = true)
    {x b : Addr} {A : Cell} {z : Int32} {v0 c0 : Value} (E : RoadKit.Exa Z h x ST) (V : RoadKit.Fld Z h x ST "value" "[B" v0) (C : RoadKit.Fld Z h x ST "coder" "B" c0) (K : RoadKit.Arr Z h b A .char) (hty : Typed .char A) (S : RoadKit.Sta Z h ST "COMPACT_STRINGS" "Z" (.int z)) (hz : ¬ z = 0)
    (l0 : 0 < A.slots.size) (l2 : A.slots.size ≤ 536870912) (hp : ∀ i, i < A.slots.size → ¬ 255 < cv A i) (hfr : 4 ≤ R.frames) (hlo : W + 65 ≤ R.locals) :
    Back l R p e below s args New1.yN len W (fun P a => a = #[.ref x, .ref b] ∧ P.U.heap = h ∧ P.cells + 1 ≤ R.cells ∧ P.slots + A.slots.size ≤ R.slots)
      (fun P _ v B => ∃ L, Q Z x A h v B.U.heap L ∧ B.locs = P.locs ++ L ∧ B.cells = P.cells + 1 ∧ B.slots = P.slots + A.slots.size) := by
  intro m meth c P g ig mk a X hg hsize hdg hW hn hp'
  obtain ⟨rfl, rfl, r1, r2⟩ := hp'
  have al : Z.vm.Alike P.U.vm := hZ.alike.trans X.warmed.alike
  obtain ⟨D, cfV, kV, iV, fV, hD, gV, stV, knV, obV, asV, slV⟩ := id V
  obtain ⟨D', cfC, kC, iC, fC, hD', gC, stC, -, -, asC, slC⟩ := id C
  cases hD.symm.trans hD'
  obtain ⟨D2, kD, e1, e2, e3, e4, e5⟩ := id E
  cases hD.symm.trans e1
  obtain ⟨c2, k2, i1, i2, i3, -⟩ := Cond.instantiable_spec wi
  cases e2.symm.trans i1
  cases e3.symm.trans i2
  obtain ⟨kU, u1, u2⟩ := al.2.2 _ _ e3
  have hB : Blank ST x D P.U := ⟨hD, ⟨knV, fun q hq => by rw [hq] at obV; cases obV⟩, by rw [al.findClass]; exact e2, kU, u1, by rw [u2]; exact i3, by rw [u2]; exact e5 i3⟩
  have F1 : Found ST "value" "[B" fV P.U := ⟨SBG.found_only al ⟨cfV, kV, iV, gV⟩, stV⟩
  have F2 : Found ST "coder" "B" fC P.U := ⟨SBG.found_only al ⟨cfC, kC, iC, gC⟩, stC⟩
  have hA : Ch b A P.U := ⟨⟨K.1, State.isArrayOf_alike al K.2.1, K.2.2, by omega⟩, hty⟩
  have hS : StaticIs P.U ST "COMPACT_STRINGS" "Z" (.int z) := by
    obtain ⟨cfS, iS, kS, fS, st, cS, t1, t2, t3, t4, t5, t6, t7⟩ := S
    exact StaticIs.there (s := { Z with heap := P.U.heap }) ⟨cfS, iS, kS, fS, st, cS, t1, t2, t3, t4, t5, (fun q => by rw [q] at t6; cases t6), t7⟩ al rfl
  obtain ⟨v, B, X', ⟨⟨hv, E', V', q1, q2, q3, q4, q5, q6, q7, q8, q9, q10, q11⟩, hl, hc, hs⟩, st⟩ := New1.pays x D fV fC b A z (tab_of (moved hZ hw)) hfr hlo m meth c P g ig mk _ X hg hsize hdg hW hn ⟨r1, r2, rfl, hB, F1, F2, hA, hS, hz, l0, l2, hp⟩
  have al' : Z.vm.Alike B.U.vm := hZ.alike.trans X'.warmed.alike
  have hsz : E'.slots.size = D.slots.size := by
    obtain ⟨-, -, -, kB, w1, w2, w3⟩ := q1
    obtain ⟨kB', y1, y2⟩ := al'.2.2 _ _ e3
    rw [q2.2.1] at w1
    cases w1.symm.trans y1
    rw [w3, e5 i3, y2]
  refine ⟨v, B, X', ⟨_, ⟨hv, ?_, ⟨by omega, fun y cy hy hn' => q10 y cy (by simpa using hn') hy, fun y cy hy => ?_⟩, q11, ⟨E', _, q1.1, by rw [q2.2.1]; exact e2, by rw [q2.2.1]; exact e3, by rw [q2.1]; exact obV, fun _ => by rw [hsz]; exact e5 i3⟩,
    ⟨E', cfV, kV, iV, fV, q1.1, gV, stV, by rw [q2.1]; exact knV, by rw [q2.1]; exact obV, by rw [q2.2.1]; exact asV, q3⟩, ⟨E', cfC, kC, iC, fC, q1.1, gC, stC, by rw [q2.1]; exact knV, by rw [q2.1]; exact obV, by rw [q2.2.1]; exact asC, q4⟩,
    ⟨V', ⟨q5.1, State.isArrayOf_alike al'.symm q5.2.1, q5.2.2.1⟩, q6, by rw [← al'.findClass]; exact q7, q8, fun j hj => by have := q9 j hj; rwa [Nat.zero_add] at this⟩, fun O n d w F n1 n2 => ?_⟩, hl, hc, hs⟩, st⟩
  · intro y hy
    simp only [List.mem_cons, List.not_mem_nil, or_false] at hy
    rcases hy with rfl | rfl <;> rfl
  · by_cases q : y = x
    · subst q
      cases hD.symm.trans hy
      exact ⟨E', q1.1, q2.2.1, q2.1, hsz⟩
    · exact ⟨cy, q10 y cy q hy, rfl, rfl, rfl⟩
  · obtain ⟨D3, cf, k, i, f, g1, g2, g3, g4, g5, g6, g7⟩ := F
    cases hD.symm.trans g1
    simp only [RoadKit.slotOf, g2, gV, gC, Option.map_some, Option.getD_some] at n1 n2
    exact ⟨E', cf, k, i, f, q1.1, g2, g3, by rw [q2.1]; exact g4, by rw [q2.1]; exact g5, by rw [q2.2.1]; exact g6, by rw [q2.2.2 f.slot (by simp [n1, n2])]; exact g7⟩
end StrChars.Road
namespace StrChars.Road
open Jvm Sem ClassFile Op Lib Jvm.Stand Jvm.Free Jvm.Free.XT
/-- WHAT COMES BACK, the byte[] as a list of values -/
def QA (Z : State) (x : Addr) (zn : Int32) (cs : List Int32) (h : Heap) (v : Option Value) (h' : Heap) (L : List Loc) : Prop := v = none ∧ (∀ y ∈ L, y.base = x) ∧ RoadKit.Keep h h' [x] ∧ h'.size = h.size + 1 ∧ RoadKit.Exa Z h' x ST ∧ RoadKit.Fld Z h' x ST "value" "[B" (.ref h.size) ∧ RoadKit.Fld Z h' x ST "coder" "B" (.int 0) ∧
  (∃ kb, Z.vm.findClass "[B" = some kb ∧ RoadKit.Arv Z h' h.size kb .byte zn (cs.map fun c => .int (lo8 c)) (.int 0)) ∧
  ∀ (O n d : String) (w : Value), RoadKit.Fld Z h x O n d w → RoadKit.slotOf Z O n d ≠ RoadKit.slotOf Z ST "value" "[B" → RoadKit.slotOf Z O n d ≠ RoadKit.slotOf Z ST "coder" "B" → RoadKit.Fld Z h' x O n d w
/-- **new String(chars) AT A CALL, THE ARRAYS AS LISTS**: the char[] at b holds cs, not empty, no char above 255 -/
theorem backArv {p : Program} {l : Launch} {e : Env} {R : Room} {s : State} {args : Array Value} {below : List Frame} {len W : Nat} {Z : State} {a0 : Array Value} {h : Heap} (hZ : Z.Warmed39 s.vm) (hw : ∀ d ∈ words, d.before a0 Z = true) {kI : Nat} (wi : (Jvm.Cond.instantiable ST kI).before a0 Z = true)
    {x b : Addr} {k : ClassId} {zn z : Int32} {cs : List Int32} {dv v0 c0 : Value} (E : RoadKit.Exa Z h x ST) (V : RoadKit.Fld Z h x ST "value" "[B" v0) (C : RoadKit.Fld Z h x ST "coder" "B" c0) (K : RoadKit.Arv Z h b k .char zn (cs.map Value.int) dv) (S : RoadKit.Sta Z h ST "COMPACT_STRINGS" "Z" (.int z)) (hz : ¬ z = 0)
    (hlen : zn.toNatClampNeg = cs.length) (h0 : 0 < cs.length) (hbig : cs.length ≤ 536870912) (hall : ∀ c ∈ cs, ¬ 255 < c) (hfr : 4 ≤ R.frames) (hlo : W + 65 ≤ R.locals) :
    Back l R p e below s args New1.yN len W (fun P a => a = #[.ref x, .ref b] ∧ P.U.heap = h ∧ P.cells + 1 ≤ R.cells ∧ P.slots + cs.length ≤ R.slots)
      (fun P _ v B => ∃ L, QA Z x zn cs h v B.U.heap L ∧ B.locs = P.locs ++ L ∧ B.cells = P.cells + 1 ∧ B.slots = P.slots + cs.length) := by
  obtain ⟨A, K1, K2, K3, K4, K5, K6⟩ := K
  have e : A.slots.size = cs.length := K3.trans hlen
  have hat : ∀ (i : Nat) (hi : i < cs.length), A.slots[i]? = some (.int cs[i]) := fun i hi => by rw [K5 i (by omega)]; simp [List.getD_eq_getElem?_getD, hi]
  have hcv : ∀ (i : Nat) (hi : i < cs.length), cv A i = cs[i] := fun i hi => by unfold cv; rw [hat i hi]
  have hty : Typed .char A := fun i v hv => by
    have hi : i < A.slots.size := (Array.getElem?_eq_some_iff.mp hv).1
    have q := K5 i hi
    rw [hv] at q
    rw [Option.some.inj q]
    exact K6 i hi
  refine Back.mono (back hZ hw wi E V C K1 hty S hz (by omega) (by omega) (fun i hi => by rw [hcv i (by omega)]; exact hall _ (List.getElem_mem _)) hfr hlo) (fun P a hp => ⟨hp.1, hp.2.1, hp.2.2.1, by rw [e]; exact hp.2.2.2⟩) (fun P a v B hp hq => ?_)
  obtain ⟨L, ⟨q1, q2, q3, q4, q5, q6, q7, ⟨V', v1, v2, v3, v4, v5⟩, q9⟩, hl, hc, hs⟩ := hq
  refine ⟨L, ⟨q1, q2, q3, q4, q5, q6, q7, ⟨V'.cls, v3, V', v1, rfl, by rw [v4, e, hlen], K4, fun i hi => ?_, fun i hi => ?_⟩, q9⟩, hl, hc, by rw [hs, e]⟩
  · have hi' : i < cs.length := by omega
    rw [v5 i (by omega), hcv i hi']; simp [List.getD_eq_getElem?_getD, hi']
  · have hi' : i < cs.length := by omega
    simp only [List.getD_eq_getElem?_getD, List.getElem?_map, List.getElem?_eq_getElem hi', Option.map_some, Option.getD_some]
    exact fits_lo8 _
end StrChars.Road
namespace StrChars.Road
open Jvm Sem ClassFile Op Lib Jvm.Stand Jvm.Free Jvm.Free.XT
/-- WHAT COMES BACK, in the writer's own shape -/
def QV (Z : State) (x : Addr) (N : Int32) (bs : List Int32) (h : Heap) (n0 : Nat) (v : Option Value) (h' : Heap) (L : List Loc) : Prop := v = none ∧ RoadKit.Fr n0 L ∧ RoadKit.Keep h h' [x] ∧ RoadKit.Exa Z h' x ST ∧ RoadKit.Fld Z h' x ST "coder" "B" (.int 0) ∧
  ∃ (t : Addr) (kb : ClassId), n0 ≤ t ∧ h.size ≤ t ∧ ¬ t = x ∧ RoadKit.Fld Z h' x ST "value" "[B" (.ref t) ∧ RoadKit.Arv Z h' t kb .byte N (bs.map Value.int) (.int 0)
/-- **new String(chars) AT A CALL, FOR THE WRITER**: a char[] of n known ints, each 0 to 255 -/
theorem backV {p : Program} {l : Launch} {e : Env} {R : Room} {s : State} {args : Array Value} {below : List Frame} {len W : Nat} {Z : State} {a0 : Array Value} {h : Heap} (hZ : Z.Warmed39 s.vm) (hw : ∀ d ∈ words, d.before a0 Z = true) {kI : Nat} (wi : (Jvm.Cond.instantiable ST kI).before a0 Z = true)
    {x b : Addr} {kC : ClassId} {cs bs : List Int32} {d v0 c0 : Value} {z N : Int32} {n n0 : Nat} (hx0 : n0 ≤ x) (hh0 : n0 ≤ h.size) (E : RoadKit.Exa Z h x ST) (V : RoadKit.Fld Z h x ST "value" "[B" v0) (C : RoadKit.Fld Z h x ST "coder" "B" c0) (K : RoadKit.Arv Z h b kC .char N (cs.map Value.int) d) (S : RoadKit.Sta Z h ST "COMPACT_STRINGS" "Z" (.int z)) (hz : ¬ z = 0)
    (hn : cs.length = n) (hN : N = Int32.ofNat n) (l0 : 0 < n) (l2 : n ≤ 4000) (hp : ∀ c ∈ cs, ¬ c < 0 ∧ ¬ (255 : Int32) < c) (hb : bs = cs.map (fun c => c.toInt8.toInt32)) (hfr : 4 ≤ R.frames) (hlo : W + 65 ≤ R.locals) :
    Back l R p e below s args (⟨"java/lang/String", "<init>", "([C)V"⟩ : MethodName) len W (fun P a => a = #[.ref x, .ref b] ∧ P.U.heap = h ∧ P.cells + 1 ≤ R.cells ∧ P.slots + n ≤ R.slots)
      (fun P _ v B => ∃ L, QV Z x N bs h n0 v B.U.heap L ∧ B.locs = P.locs ++ L ∧ B.cells = P.cells + 1 ∧ B.slots = P.slots + n) := by
  subst hn hN hb
  refine Back.mono (backArv hZ hw wi E V C K S hz (n32 (by omega)) l0 (by omega) (fun c hc => (hp c hc).2) hfr hlo) (fun P a hp => hp) (fun P a v B hp hq => ?_)
  obtain ⟨L, ⟨q1, q2, q3, q4, q5, q6, q7, ⟨kb, v1, v2⟩, q9⟩, hl, hc, hs⟩ := hq
  exact ⟨L, ⟨q1, fun y hy => by rw [q2 y hy]; exact hx0, q3, q5, q7, h.size, kb, hh0, Nat.le_refl _, Nat.ne_of_gt E.lt, q6, by rw [List.map_map]; exact v2⟩, hl, hc, hs⟩
end StrChars.Road
end Jvm.Pilot.@@N@@
namespace Jvm.Pilot.@@N@@
namespace Own
open Jvm Jvm.ClassFile Sem Op Lib Jvm.Free Jvm.Stand Jvm.LawKit Jvm.RoadKit
/-! A WALK READ FORWARDS. 'Owe .. G T g': from the state T with the frame g on top the invocation comes back, and G holds of what it leaves. Each step's rule asks what is owed behind the step. -/
def Owe (tb : Tables) (e : Env) (below : List Frame) (G : Outcome → State → Prop) (T : State) (g : JFrame) : Prop := ∃ u o, Steps tb e below (T.setTop g) u ∧ u.status = .running ∧ Ended u below o ∧ G o u
theorem Owe.by {tb : Tables} {e : Env} {below : List Frame} {G : Outcome → State → Prop} {T T' : State} {g g' : JFrame} (k : ∀ t, Steps tb e below (T'.setTop g') t → Steps tb e below (T.setTop g) t) (h : Owe tb e below G T' g') : Owe tb e below G T g := by
  obtain ⟨u, o, h1, h2⟩ := h
  exact ⟨u, o, k _ h1, h2⟩
theorem Owe.cast {tb : Tables} {e : Env} {below : List Frame} {G : Outcome → State → Prop} {T : State} {g g' : JFrame} (q : g = g') (h : Owe tb e below G T g') : Owe tb e below G T g := q ▸ h
section Plain
variable {tb : Tables} [Ours tb] {e : Env} {below : List Frame} {G : Outcome → State → Prop} {T : State} {m : MethodId} {c : Code} {pc : Nat} {Ls : Array Slot} {st : List Value}
theorem Owe.aloadN (h : At T m c below) (hx : tb.exec = Jvm.exec) {k : Fin 4} {v : Value} (hd : decode c.code pc = .ok (.aload_n k, 1)) (hl : Ls[k.val]? = some (.val v)) (hv : v.isRef = true) (go : Owe tb e below G T (mkF m (pc + 1) Ls (v :: st))) : Owe tb e below G T (mkF m pc Ls st) := Owe.by (fun t k => XS.aloadN h hx rfl hd hl hv k) go
theorem Owe.aload (h : At T m c below) (hx : tb.exec = Jvm.exec) {k : Nat} {v : Value} (hd : decode c.code pc = .ok (.aload k, 2)) (hl : Ls[k]? = some (.val v)) (hv : v.isRef = true) (go : Owe tb e below G T (mkF m (pc + 2) Ls (v :: st))) : Owe tb e below G T (mkF m pc Ls st) := Owe.by (fun t k => XS.aload h hx rfl hd hl hv k) go
theorem Owe.iloadN (h : At T m c below) (hx : tb.exec = Jvm.exec) {k : Fin 4} {v : Int32} (hd : decode c.code pc = .ok (.iload_n k, 1)) (hl : Ls[k.val]? = some (.val (.int v))) (go : Owe tb e below G T (mkF m (pc + 1) Ls (.int v :: st))) : Owe tb e below G T (mkF m pc Ls st) := Owe.by (fun t k => XS.iloadN h hx rfl hd hl k) go
theorem Owe.iload (h : At T m c below) (hx : tb.exec = Jvm.exec) {k : Nat} {v : Int32} (hd : decode c.code pc = .ok (.iload k, 2)) (hl : Ls[k]? = some (.val (.int v))) (go : Owe tb e below G T (mkF m (pc + 2) Ls (.int v :: st))) : Owe tb e below G T (mkF m pc Ls st) := Owe.by (fun t k => XS.iload h hx rfl hd hl k) go
theorem Owe.iconst (h : At T m c below) (hx : tb.exec = Jvm.exec) {i : Int} (hd : decode c.code pc = .ok (.iconst i, 1)) {w : Int32} (hw : (Int32.ofInt i) = w) (go : Owe tb e below G T (mkF m (pc + 1) Ls (.int w :: st))) : Owe tb e below G T (mkF m pc Ls st) := by subst hw; exact Owe.by (fun t k => XS.iconst h hx rfl hd k) go
theorem Owe.bipush (h : At T m c below) (hx : tb.exec = Jvm.exec) {i : Int} (hd : decode c.code pc = .ok (.bipush i, 2)) {w : Int32} (hw : (Int8.ofInt i).toInt32 = w) (go : Owe tb e below G T (mkF m (pc + 2) Ls (.int w :: st))) : Owe tb e below G T (mkF m pc Ls st) := by subst hw; exact Owe.by (fun t k => XS.bipush h hx rfl hd k) go
theorem Owe.sipush (h : At T m c below) (hx : tb.exec = Jvm.exec) {i : Int} (hd : decode c.code pc = .ok (.sipush i, 3)) {w : Int32} (hw : (Int16.ofInt i).toInt32 = w) (go : Owe tb e below G T (mkF m (pc + 3) Ls (.int w :: st))) : Owe tb e below G T (mkF m pc Ls st) := by subst hw; exact Owe.by (fun t k => XS.sipush h hx rfl hd k) go
theorem Owe.aconstNull (h : At T m c below) (hx : tb.exec = Jvm.exec) (hd : decode c.code pc = .ok (.aconst_null, 1)) (go : Owe tb e below G T (mkF m (pc + 1) Ls (.null :: st))) : Owe tb e below G T (mkF m pc Ls st) := Owe.by (fun t k => XS.aconstNull h hx rfl hd k) go
theorem Owe.iadd (h : At T m c below) (hx : tb.exec = Jvm.exec) {x y : Int32} {rest : List Value} (hd : decode c.code pc = .ok (.iadd, 1)) (hs : st = .int y :: .int x :: rest) (go : Owe tb e below G T (mkF m (pc + 1) Ls (.int (x + y) :: rest))) : Owe tb e below G T (mkF m pc Ls st) := Owe.by (fun t k => XS.iadd h hx rfl hd hs k) go
theorem Owe.isub (h : At T m c below) (hx : tb.exec = Jvm.exec) {x y : Int32} {rest : List Value} (hd : decode c.code pc = .ok (.isub, 1)) (hs : st = .int y :: .int x :: rest) (go : Owe tb e below G T (mkF m (pc + 1) Ls (.int (x - y) :: rest))) : Owe tb e below G T (mkF m pc Ls st) := Owe.by (fun t k => XS.isub h hx rfl hd hs k) go
theorem Owe.imul (h : At T m c below) (hx : tb.exec = Jvm.exec) {x y : Int32} {rest : List Value} (hd : decode c.code pc = .ok (.imul, 1)) (hs : st = .int y :: .int x :: rest) (go : Owe tb e below G T (mkF m (pc + 1) Ls (.int (x * y) :: rest))) : Owe tb e below G T (mkF m pc Ls st) := Owe.by (fun t k => XS.imul h hx rfl hd hs k) go
theorem Owe.iand (h : At T m c below) (hx : tb.exec = Jvm.exec) {x y : Int32} {rest : List Value} (hd : decode c.code pc = .ok (.iand, 1)) (hs : st = .int y :: .int x :: rest) (go : Owe tb e below G T (mkF m (pc + 1) Ls (.int (x &&& y) :: rest))) : Owe tb e below G T (mkF m pc Ls st) := Owe.by (fun t k => XS.iand h hx rfl hd hs k) go
theorem Owe.ior (h : At T m c below) (hx : tb.exec = Jvm.exec) {x : Int32} {y : Int32} {rest : List Value} (hd : decode c.code pc = .ok (.ior, 1)) (hs : st = .int y :: .int x :: rest) (go : Owe tb e below G T (mkF m (pc + 1) Ls (.int (x ||| y) :: rest))) : Owe tb e below G T (mkF m pc Ls st) := Owe.by (fun t k => XS.ior h hx rfl hd hs k) go
theorem Owe.ixor (h : At T m c below) (hx : tb.exec = Jvm.exec) {x : Int32} {y : Int32} {rest : List Value} (hd : decode c.code pc = .ok (.ixor, 1)) (hs : st = .int y :: .int x :: rest) (go : Owe tb e below G T (mkF m (pc + 1) Ls (.int (x ^^^ y) :: rest))) : Owe tb e below G T (mkF m pc Ls st) := Owe.by (fun t k => XS.ixor h hx rfl hd hs k) go
theorem Owe.ishl (h : At T m c below) (hx : tb.exec = Jvm.exec) {x : Int32} {y : Int32} {rest : List Value} (hd : decode c.code pc = .ok (.ishl, 1)) (hs : st = .int y :: .int x :: rest) (go : Owe tb e below G T (mkF m (pc + 1) Ls (.int (x <<< (y &&& 31)) :: rest))) : Owe tb e below G T (mkF m pc Ls st) := Owe.by (fun t k => XS.ishl h hx rfl hd hs k) go
theorem Owe.ishr (h : At T m c below) (hx : tb.exec = Jvm.exec) {x : Int32} {y : Int32} {rest : List Value} (hd : decode c.code pc = .ok (.ishr, 1)) (hs : st = .int y :: .int x :: rest) (go : Owe tb e below G T (mkF m (pc + 1) Ls (.int (x >>> (y &&& 31)) :: rest))) : Owe tb e below G T (mkF m pc Ls st) := Owe.by (fun t k => XS.ishr h hx rfl hd hs k) go
theorem Owe.iushr (h : At T m c below) (hx : tb.exec = Jvm.exec) {x : Int32} {y : Int32} {rest : List Value} (hd : decode c.code pc = .ok (.iushr, 1)) (hs : st = .int y :: .int x :: rest) (go : Owe tb e below G T (mkF m (pc + 1) Ls (.int ((x.toUInt32 >>> (y &&& 31).toUInt32).toInt32) :: rest))) : Owe tb e below G T (mkF m pc Ls st) := Owe.by (fun t k => XS.iushr h hx rfl hd hs k) go
theorem Owe.irem (h : At T m c below) (hx : tb.exec = Jvm.exec) {x y : Int32} {rest : List Value} (hd : decode c.code pc = .ok (.irem, 1)) (hs : st = .int y :: .int x :: rest) (hy : y ≠ 0) (go : Owe tb e below G T (mkF m (pc + 1) Ls (.int (x - (x / y) * y) :: rest))) : Owe tb e below G T (mkF m pc Ls st) := Owe.by (fun t k => XS.irem h hx rfl hd hs hy k) go
theorem Owe.idiv (h : At T m c below) (hx : tb.exec = Jvm.exec) {x y : Int32} {rest : List Value} (hd : decode c.code pc = .ok (.idiv, 1)) (hs : st = .int y :: .int x :: rest) (hy : y ≠ 0) (go : Owe tb e below G T (mkF m (pc + 1) Ls (.int (x / y) :: rest))) : Owe tb e below G T (mkF m pc Ls st) := Owe.by (fun t k => XS.idiv h hx rfl hd hs hy k) go
theorem Owe.ineg (h : At T m c below) (hx : tb.exec = Jvm.exec) {x : Int32} {rest : List Value} (hd : decode c.code pc = .ok (.ineg, 1)) (hs : st = .int x :: rest) (go : Owe tb e below G T (mkF m (pc + 1) Ls (.int (-x) :: rest))) : Owe tb e below G T (mkF m pc Ls st) := Owe.by (fun t k => XS.ineg h hx rfl hd hs k) go
theorem Owe.iinc (h : At T m c below) (hx : tb.exec = Jvm.exec) {k : Nat} {cst : Int} {x : Int32} {l' : Array Slot} (hd : decode c.code pc = .ok (.iinc k cst, 3)) (hl : Ls[k]? = some (.val (.int x))) (hl' : storeLocals Ls k (.int (x + Int32.ofInt cst)) = some l') (go : Owe tb e below G T (mkF m (pc + 3) l' st)) : Owe tb e below G T (mkF m pc Ls st) := Owe.by (fun t k => XS.iinc h hx rfl hd hl hl' k) go
theorem Owe.dup (h : At T m c below) (hx : tb.exec = Jvm.exec) {x : Value} {rest : List Value} (hd : decode c.code pc = .ok (.dup, 1)) (hs : st = x :: rest) (hc : x.category = 1) (go : Owe tb e below G T (mkF m (pc + 1) Ls (x :: x :: rest))) : Owe tb e below G T (mkF m pc Ls st) := Owe.by (fun t k => XS.dup h hx rfl hd hs hc k) go
theorem Owe.pop (h : At T m c below) (hx : tb.exec = Jvm.exec) {x : Value} {rest : List Value} (hd : decode c.code pc = .ok (.pop, 1)) (hs : st = x :: rest) (hc : x.category = 1) (go : Owe tb e below G T (mkF m (pc + 1) Ls rest)) : Owe tb e below G T (mkF m pc Ls st) := Owe.by (fun t k => XS.pop h hx rfl hd hs hc k) go
theorem Owe.dupX1 (h : At T m c below) (hx : tb.exec = Jvm.exec) {x y : Value} {rest : List Value} (hd : decode c.code pc = .ok (.dup_x1, 1)) (hs : st = x :: y :: rest) (hc : x.category = 1) (hc2 : y.category = 1) (go : Owe tb e below G T (mkF m (pc + 1) Ls (x :: y :: x :: rest))) : Owe tb e below G T (mkF m pc Ls st) := Owe.by (fun t k => XS.dupX1 h hx rfl hd hs hc hc2 k) go
theorem Owe.dup2 (h : At T m c below) (hx : tb.exec = Jvm.exec) {x y : Value} {rest : List Value} (hd : decode c.code pc = .ok (.dup2, 1)) (hs : st = x :: y :: rest) (hc : x.category = 1) (hc' : y.category = 1) (go : Owe tb e below G T (mkF m (pc + 1) Ls (x :: y :: x :: y :: rest))) : Owe tb e below G T (mkF m pc Ls st) := Owe.by (fun t k => Jvm.Free.XT.dup2 h hx rfl hd hs hc hc' k) go
theorem Owe.istoreN (h : At T m c below) (hx : tb.exec = Jvm.exec) {k : Fin 4} {x : Int32} {rest : List Value} {l' : Array Slot} (hd : decode c.code pc = .ok (.istore_n k, 1)) (hs : st = .int x :: rest) (hl : storeLocals Ls k.val (.int x) = some l') (go : Owe tb e below G T (mkF m (pc + 1) l' rest)) : Owe tb e below G T (mkF m pc Ls st) := Owe.by (fun t k => XS.istoreN h hx rfl hd hs hl k) go
theorem Owe.istore (h : At T m c below) (hx : tb.exec = Jvm.exec) {k : Nat} {x : Int32} {rest : List Value} {l' : Array Slot} (hd : decode c.code pc = .ok (.istore k, 2)) (hs : st = .int x :: rest) (hl : storeLocals Ls k (.int x) = some l') (go : Owe tb e below G T (mkF m (pc + 2) l' rest)) : Owe tb e below G T (mkF m pc Ls st) := Owe.by (fun t k => XS.istore h hx rfl hd hs hl k) go
theorem Owe.astoreN (h : At T m c below) (hx : tb.exec = Jvm.exec) {k : Fin 4} {x : Value} {rest : List Value} {l' : Array Slot} (hd : decode c.code pc = .ok (.astore_n k, 1)) (hs : st = x :: rest) (hv : x.isRef = true) (hl : storeLocals Ls k.val x = some l') (go : Owe tb e below G T (mkF m (pc + 1) l' rest)) : Owe tb e below G T (mkF m pc Ls st) := Owe.by (fun t k => XS.astoreN h hx rfl hd hs hv hl k) go
theorem Owe.astore (h : At T m c below) (hx : tb.exec = Jvm.exec) {k : Nat} {x : Value} {rest : List Value} {l' : Array Slot} (hd : decode c.code pc = .ok (.astore k, 2)) (hs : st = x :: rest) (hv : x.isRef = true) (hl : storeLocals Ls k x = some l') (go : Owe tb e below G T (mkF m (pc + 2) l' rest)) : Owe tb e below G T (mkF m pc Ls st) := Owe.by (fun t k => XS.astore h hx rfl hd hs hv hl k) go
theorem Owe.goto (h : At T m c below) (hx : tb.exec = Jvm.exec) {o : Int} {pc' : Nat}  (hd : decode c.code pc = .ok (.goto o, 3)) (ho : 0 ≤ (pc : Int) + o) (hp : ((pc : Int) + o).toNat = pc') (go : Owe tb e below G T (mkF m pc' Ls st)) : Owe tb e below G T (mkF m pc Ls st) := Owe.by (fun t k => XS.goto h hx rfl rfl hd ho hp k) go
theorem Owe.ifYes (h : At T m c below) (hx : tb.exec = Jvm.exec) {cd : ClassFile.Cond} {x : Int32} {rest : List Value} {o : Int} {pc' : Nat}  (hd : decode c.code pc = .ok (.ifCond cd o, 3)) (hs : st = .int x :: rest) (hc : ifCond.holds cd x = true) (ho : 0 ≤ (pc : Int) + o) (hp : ((pc : Int) + o).toNat = pc') (go : Owe tb e below G T (mkF m pc' Ls rest)) : Owe tb e below G T (mkF m pc Ls st) := Owe.by (fun t k => XS.ifYes h hx rfl rfl hd hs hc ho hp k) go
theorem Owe.ifNo (h : At T m c below) (hx : tb.exec = Jvm.exec) {cd : ClassFile.Cond} {o : Int} {x : Int32} {rest : List Value} (hd : decode c.code pc = .ok (.ifCond cd o, 3)) (hs : st = .int x :: rest) (hc : ifCond.holds cd x = false) (go : Owe tb e below G T (mkF m (pc + 3) Ls rest)) : Owe tb e below G T (mkF m pc Ls st) := Owe.by (fun t k => XS.ifNo h hx rfl hd hs hc k) go
theorem Owe.icmpYes (h : At T m c below) (hx : tb.exec = Jvm.exec) {cd : ClassFile.Cond} {x y : Int32} {rest : List Value} {o : Int} {pc' : Nat}  (hd : decode c.code pc = .ok (.if_icmp cd o, 3)) (hs : st = .int y :: .int x :: rest) (hc : if_icmp.holds cd x y = true) (ho : 0 ≤ (pc : Int) + o) (hp : ((pc : Int) + o).toNat = pc') (go : Owe tb e below G T (mkF m pc' Ls rest)) : Owe tb e below G T (mkF m pc Ls st) := Owe.by (fun t k => XS.icmpYes h hx rfl rfl hd hs hc ho hp k) go
theorem Owe.icmpNo (h : At T m c below) (hx : tb.exec = Jvm.exec) {cd : ClassFile.Cond} {o : Int} {x y : Int32} {rest : List Value} (hd : decode c.code pc = .ok (.if_icmp cd o, 3)) (hs : st = .int y :: .int x :: rest) (hc : if_icmp.holds cd x y = false) (go : Owe tb e below G T (mkF m (pc + 3) Ls rest)) : Owe tb e below G T (mkF m pc Ls st) := Owe.by (fun t k => XS.icmpNo h hx rfl hd hs hc k) go
theorem Owe.ifnullYes (h : At T m c below) (hx : tb.exec = Jvm.exec) {rest : List Value} {o : Int} {pc' : Nat}  (hd : decode c.code pc = .ok (.ifnull o, 3)) (hs : st = .null :: rest) (ho : 0 ≤ (pc : Int) + o) (hp : ((pc : Int) + o).toNat = pc') (go : Owe tb e below G T (mkF m pc' Ls rest)) : Owe tb e below G T (mkF m pc Ls st) := Owe.by (fun t k => XS.ifnullYes h hx rfl rfl hd hs ho hp k) go
theorem Owe.ifnullNo (h : At T m c below) (hx : tb.exec = Jvm.exec) {o : Int} {b : Addr} {rest : List Value} (hd : decode c.code pc = .ok (.ifnull o, 3)) (hs : st = .ref b :: rest) (go : Owe tb e below G T (mkF m (pc + 3) Ls rest)) : Owe tb e below G T (mkF m pc Ls st) := Owe.by (fun t k => XS.ifnullNo h hx rfl hd hs k) go
theorem Owe.ifnonnullYes (h : At T m c below) (hx : tb.exec = Jvm.exec) {b : Addr} {rest : List Value} {o : Int} {pc' : Nat}  (hd : decode c.code pc = .ok (.ifnonnull o, 3)) (hs : st = .ref b :: rest) (ho : 0 ≤ (pc : Int) + o) (hp : ((pc : Int) + o).toNat = pc') (go : Owe tb e below G T (mkF m pc' Ls rest)) : Owe tb e below G T (mkF m pc Ls st) := Owe.by (fun t k => XS.ifnonnullYes h hx rfl rfl hd hs ho hp k) go
theorem Owe.ifnonnullNo (h : At T m c below) (hx : tb.exec = Jvm.exec) {o : Int} {rest : List Value} (hd : decode c.code pc = .ok (.ifnonnull o, 3)) (hs : st = .null :: rest) (go : Owe tb e below G T (mkF m (pc + 3) Ls rest)) : Owe tb e below G T (mkF m pc Ls st) := Owe.by (fun t k => XS.ifnonnullNo h hx rfl hd hs k) go
theorem Owe.acmpYes (h : At T m c below) (hx : tb.exec = Jvm.exec) {cd : ClassFile.ACond} {x y : Value} {rest : List Value} {o : Int} {pc' : Nat}  (hd : decode c.code pc = .ok (.if_acmp cd o, 3)) (hs : st = y :: x :: rest) (hx' : x.isRef = true) (hy' : y.isRef = true) (hc : Jvm.Free.XT.acmp cd x y = true) (ho : 0 ≤ (pc : Int) + o) (hp : ((pc : Int) + o).toNat = pc') (go : Owe tb e below G T (mkF m pc' Ls rest)) : Owe tb e below G T (mkF m pc Ls st) := Owe.by (fun t k => Jvm.Free.XT.acmpYes h hx rfl rfl hd hs hx' hy' hc ho hp k) go
theorem Owe.acmpNo (h : At T m c below) (hx : tb.exec = Jvm.exec) {cd : ClassFile.ACond} {o : Int} {x y : Value} {rest : List Value} (hd : decode c.code pc = .ok (.if_acmp cd o, 3)) (hs : st = y :: x :: rest) (hx' : x.isRef = true) (hy' : y.isRef = true) (hc : Jvm.Free.XT.acmp cd x y = false) (go : Owe tb e below G T (mkF m (pc + 3) Ls rest)) : Owe tb e below G T (mkF m pc Ls st) := Owe.by (fun t k => Jvm.Free.XT.acmpNo h hx rfl hd hs hx' hy' hc k) go
theorem Owe.ladd (h : At T m c below) (hx : tb.exec = Jvm.exec) {x : Int64} {y : Int64} {rest : List Value} (hd : decode c.code pc = .ok (.ladd, 1)) (hs : st = .long y :: .long x :: rest) (go : Owe tb e below G T (mkF m (pc + 1) Ls (.long (x + y) :: rest))) : Owe tb e below G T (mkF m pc Ls st) := Owe.by (fun t k => XS.ladd h hx rfl hd hs k) go
theorem Owe.lsub (h : At T m c below) (hx : tb.exec = Jvm.exec) {x : Int64} {y : Int64} {rest : List Value} (hd : decode c.code pc = .ok (.lsub, 1)) (hs : st = .long y :: .long x :: rest) (go : Owe tb e below G T (mkF m (pc + 1) Ls (.long (x - y) :: rest))) : Owe tb e below G T (mkF m pc Ls st) := Owe.by (fun t k => XS.lsub h hx rfl hd hs k) go
theorem Owe.lmul (h : At T m c below) (hx : tb.exec = Jvm.exec) {x : Int64} {y : Int64} {rest : List Value} (hd : decode c.code pc = .ok (.lmul, 1)) (hs : st = .long y :: .long x :: rest) (go : Owe tb e below G T (mkF m (pc + 1) Ls (.long (x * y) :: rest))) : Owe tb e below G T (mkF m pc Ls st) := Owe.by (fun t k => XS.lmul h hx rfl hd hs k) go
theorem Owe.land (h : At T m c below) (hx : tb.exec = Jvm.exec) {x : Int64} {y : Int64} {rest : List Value} (hd : decode c.code pc = .ok (.land, 1)) (hs : st = .long y :: .long x :: rest) (go : Owe tb e below G T (mkF m (pc + 1) Ls (.long (x &&& y) :: rest))) : Owe tb e below G T (mkF m pc Ls st) := Owe.by (fun t k => XS.land h hx rfl hd hs k) go
theorem Owe.lor (h : At T m c below) (hx : tb.exec = Jvm.exec) {x : Int64} {y : Int64} {rest : List Value} (hd : decode c.code pc = .ok (.lor, 1)) (hs : st = .long y :: .long x :: rest) (go : Owe tb e below G T (mkF m (pc + 1) Ls (.long (x ||| y) :: rest))) : Owe tb e below G T (mkF m pc Ls st) := Owe.by (fun t k => XS.lor h hx rfl hd hs k) go
theorem Owe.lxor (h : At T m c below) (hx : tb.exec = Jvm.exec) {x : Int64} {y : Int64} {rest : List Value} (hd : decode c.code pc = .ok (.lxor, 1)) (hs : st = .long y :: .long x :: rest) (go : Owe tb e below G T (mkF m (pc + 1) Ls (.long (x ^^^ y) :: rest))) : Owe tb e below G T (mkF m pc Ls st) := Owe.by (fun t k => XS.lxor h hx rfl hd hs k) go
theorem Owe.lshl (h : At T m c below) (hx : tb.exec = Jvm.exec) {x : Int64} {y : Int32} {rest : List Value} (hd : decode c.code pc = .ok (.lshl, 1)) (hs : st = .int y :: .long x :: rest) (go : Owe tb e below G T (mkF m (pc + 1) Ls (.long (x <<< (y &&& 0x3f).toInt64) :: rest))) : Owe tb e below G T (mkF m pc Ls st) := Owe.by (fun t k => XS.lshl h hx rfl hd hs k) go
theorem Owe.lshr (h : At T m c below) (hx : tb.exec = Jvm.exec) {x : Int64} {y : Int32} {rest : List Value} (hd : decode c.code pc = .ok (.lshr, 1)) (hs : st = .int y :: .long x :: rest) (go : Owe tb e below G T (mkF m (pc + 1) Ls (.long (x >>> (y &&& 0x3f).toInt64) :: rest))) : Owe tb e below G T (mkF m pc Ls st) := Owe.by (fun t k => XS.lshr h hx rfl hd hs k) go
theorem Owe.lushr (h : At T m c below) (hx : tb.exec = Jvm.exec) {x : Int64} {y : Int32} {rest : List Value} (hd : decode c.code pc = .ok (.lushr, 1)) (hs : st = .int y :: .long x :: rest) (go : Owe tb e below G T (mkF m (pc + 1) Ls (.long ((x.toUInt64 >>> (y &&& 0x3f).toInt64.toUInt64).toInt64) :: rest))) : Owe tb e below G T (mkF m pc Ls st) := Owe.by (fun t k => XS.lushr h hx rfl hd hs k) go
theorem Owe.lneg (h : At T m c below) (hx : tb.exec = Jvm.exec) {v : Int64} {rest : List Value} (hd : decode c.code pc = .ok (.lneg, 1)) (hs : st = .long v :: rest) (go : Owe tb e below G T (mkF m (pc + 1) Ls (.long (-v) :: rest))) : Owe tb e below G T (mkF m pc Ls st) := Owe.by (fun t k => XS.lneg h hx rfl hd hs k) go
theorem Owe.i2l (h : At T m c below) (hx : tb.exec = Jvm.exec) {v : Int32} {rest : List Value} (hd : decode c.code pc = .ok (.i2l, 1)) (hs : st = .int v :: rest) (go : Owe tb e below G T (mkF m (pc + 1) Ls (.long (v.toInt64) :: rest))) : Owe tb e below G T (mkF m pc Ls st) := Owe.by (fun t k => XS.i2l h hx rfl hd hs k) go
theorem Owe.l2i (h : At T m c below) (hx : tb.exec = Jvm.exec) {v : Int64} {rest : List Value} (hd : decode c.code pc = .ok (.l2i, 1)) (hs : st = .long v :: rest) (go : Owe tb e below G T (mkF m (pc + 1) Ls (.int (v.toInt32) :: rest))) : Owe tb e below G T (mkF m pc Ls st) := Owe.by (fun t k => XS.l2i h hx rfl hd hs k) go
theorem Owe.i2b (h : At T m c below) (hx : tb.exec = Jvm.exec) {v : Int32} {rest : List Value} (hd : decode c.code pc = .ok (.i2b, 1)) (hs : st = .int v :: rest) (go : Owe tb e below G T (mkF m (pc + 1) Ls (.int (v.toInt8.toInt32) :: rest))) : Owe tb e below G T (mkF m pc Ls st) := Owe.by (fun t k => XS.i2b h hx rfl hd hs k) go
theorem Owe.i2c (h : At T m c below) (hx : tb.exec = Jvm.exec) {v : Int32} {rest : List Value} (hd : decode c.code pc = .ok (.i2c, 1)) (hs : st = .int v :: rest) (go : Owe tb e below G T (mkF m (pc + 1) Ls (.int (v.toUInt32.toUInt16.toUInt32.toInt32) :: rest))) : Owe tb e below G T (mkF m pc Ls st) := Owe.by (fun t k => XS.i2c h hx rfl hd hs k) go
theorem Owe.i2s (h : At T m c below) (hx : tb.exec = Jvm.exec) {v : Int32} {rest : List Value} (hd : decode c.code pc = .ok (.i2s, 1)) (hs : st = .int v :: rest) (go : Owe tb e below G T (mkF m (pc + 1) Ls (.int (v.toInt16.toInt32) :: rest))) : Owe tb e below G T (mkF m pc Ls st) := Owe.by (fun t k => XS.i2s h hx rfl hd hs k) go
theorem Owe.lloadN (h : At T m c below) (hx : tb.exec = Jvm.exec) {k : Fin 4} {v : Int64} (hd : decode c.code pc = .ok (.lload_n k, 1)) (hl : Ls[k.val]? = some (.val (.long v))) (go : Owe tb e below G T (mkF m (pc + 1) Ls (.long v :: st))) : Owe tb e below G T (mkF m pc Ls st) := Owe.by (fun t k => XS.lloadN h hx rfl hd hl k) go
theorem Owe.lload (h : At T m c below) (hx : tb.exec = Jvm.exec) {k : Nat} {v : Int64} (hd : decode c.code pc = .ok (.lload k, 2)) (hl : Ls[k]? = some (.val (.long v))) (go : Owe tb e below G T (mkF m (pc + 2) Ls (.long v :: st))) : Owe tb e below G T (mkF m pc Ls st) := Owe.by (fun t k => XS.lload h hx rfl hd hl k) go
theorem Owe.lstoreN (h : At T m c below) (hx : tb.exec = Jvm.exec) {k : Fin 4} {x : Int64} {rest : List Value} {l' : Array Slot} (hd : decode c.code pc = .ok (.lstore_n k, 1)) (hs : st = .long x :: rest) (hl : storeLocals Ls k.val (.long x) = some l') (go : Owe tb e below G T (mkF m (pc + 1) l' rest)) : Owe tb e below G T (mkF m pc Ls st) := Owe.by (fun t k => XS.lstoreN h hx rfl hd hs hl k) go
theorem Owe.lstore (h : At T m c below) (hx : tb.exec = Jvm.exec) {k : Nat} {x : Int64} {rest : List Value} {l' : Array Slot} (hd : decode c.code pc = .ok (.lstore k, 2)) (hs : st = .long x :: rest) (hl : storeLocals Ls k (.long x) = some l') (go : Owe tb e below G T (mkF m (pc + 2) l' rest)) : Owe tb e below G T (mkF m pc Ls st) := Owe.by (fun t k => XS.lstore h hx rfl hd hs hl k) go
theorem Owe.lconst (h : At T m c below) (hx : tb.exec = Jvm.exec) {k : Fin 2} (hd : decode c.code pc = .ok (.lconst k, 1)) {w : Int64} (hw : (Int64.ofNat k) = w) (go : Owe tb e below G T (mkF m (pc + 1) Ls (.long w :: st))) : Owe tb e below G T (mkF m pc Ls st) := by subst hw; exact Owe.by (fun t k => XS.lconst h hx rfl hd k) go
theorem Owe.lcmp (h : At T m c below) (hx : tb.exec = Jvm.exec) {x y : Int64} {rest : List Value} (hd : decode c.code pc = .ok (.lcmp, 1)) (hs : st = .long y :: .long x :: rest) (go : Owe tb e below G T (mkF m (pc + 1) Ls (.int (lcmpW x y) :: rest))) : Owe tb e below G T (mkF m pc Ls st) := Owe.by (fun t k => XS.lcmp h hx rfl hd hs k) go
theorem Owe.tswIn (h : At T m c below) (hx : tb.exec = Jvm.exec) {dflt low high : Int} {offs : Array Int} {len : Nat} {o : Int} {pc' : Nat}  (hd : decode c.code pc = .ok (.tableswitch dflt low high offs, len)) {i : Int32} {rest : List Value} (hs : st = .int i :: rest) (hin : ¬ (i.toInt < low ∨ i.toInt > high)) (hoff : offs[(i.toInt - low).toNat]? = some o) (ho : 0 ≤ (pc : Int) + o) (hp : ((pc : Int) + o).toNat = pc') (go : Owe tb e below G T (mkF m pc' Ls rest)) : Owe tb e below G T (mkF m pc Ls st) := Owe.by (fun t k => XS.tswIn h hx rfl rfl hd hs hin hoff ho hp k) go
theorem Owe.tswOut (h : At T m c below) (hx : tb.exec = Jvm.exec) {dflt low high : Int} {offs : Array Int} {len : Nat} {pc' : Nat}  (hd : decode c.code pc = .ok (.tableswitch dflt low high offs, len)) {i : Int32} {rest : List Value} (hs : st = .int i :: rest) (hout : i.toInt < low ∨ i.toInt > high) (ho : 0 ≤ (pc : Int) + dflt) (hp : ((pc : Int) + dflt).toNat = pc') (go : Owe tb e below G T (mkF m pc' Ls rest)) : Owe tb e below G T (mkF m pc Ls st) := Owe.by (fun t k => XS.tswOut h hx rfl rfl hd hs hout ho hp k) go
theorem Owe.dload (h : At T m c below) (hx : tb.exec = Jvm.exec) {k : Nat} {v : UInt64} (hd : decode c.code pc = .ok (.dload k, 2)) (hl : Ls[k]? = some (.val (.double v))) (go : Owe tb e below G T (mkF m (pc + 2) Ls (.double v :: st))) : Owe tb e below G T (mkF m pc Ls st) := Owe.by (fun t k => XS.dload h hx rfl hd hl k) go
theorem Owe.dloadN (h : At T m c below) (hx : tb.exec = Jvm.exec) {k : Fin 4} {v : UInt64} (hd : decode c.code pc = .ok (.dload_n k, 1)) (hl : Ls[k.val]? = some (.val (.double v))) (go : Owe tb e below G T (mkF m (pc + 1) Ls (.double v :: st))) : Owe tb e below G T (mkF m pc Ls st) := Owe.by (fun t k => XS.dloadN h hx rfl hd hl k) go
theorem Owe.dstore (h : At T m c below) (hx : tb.exec = Jvm.exec) {k : Nat} {x : UInt64} {rest : List Value} {l' : Array Slot} (hd : decode c.code pc = .ok (.dstore k, 2)) (hs : st = .double x :: rest) (hl : storeLocals Ls k (.double x) = some l') (go : Owe tb e below G T (mkF m (pc + 2) l' rest)) : Owe tb e below G T (mkF m pc Ls st) := Owe.by (fun t k => XS.dstore h hx rfl hd hs hl k) go
theorem Owe.dstoreN (h : At T m c below) (hx : tb.exec = Jvm.exec) {k : Fin 4} {x : UInt64} {rest : List Value} {l' : Array Slot} (hd : decode c.code pc = .ok (.dstore_n k, 1)) (hs : st = .double x :: rest) (hl : storeLocals Ls k.val (.double x) = some l') (go : Owe tb e below G T (mkF m (pc + 1) l' rest)) : Owe tb e below G T (mkF m pc Ls st) := Owe.by (fun t k => XS.dstoreN h hx rfl hd hs hl k) go
theorem Owe.dconst0 (h : At T m c below) (hx : tb.exec = Jvm.exec) {v : UInt64} (hd : decode c.code pc = .ok (.dconst 0, 1)) (hv : FP.dconst0 = v) (go : Owe tb e below G T (mkF m (pc + 1) Ls (.double v :: st))) : Owe tb e below G T (mkF m pc Ls st) := Owe.by (fun t k => XS.dconst0 h hx rfl hd hv k) go
theorem Owe.dconst1 (h : At T m c below) (hx : tb.exec = Jvm.exec) {v : UInt64} (hd : decode c.code pc = .ok (.dconst 1, 1)) (hv : FP.dconst1 = v) (go : Owe tb e below G T (mkF m (pc + 1) Ls (.double v :: st))) : Owe tb e below G T (mkF m pc Ls st) := Owe.by (fun t k => XS.dconst1 h hx rfl hd hv k) go
theorem Owe.i2dS (h : At T m c below) (hx : tb.exec = Jvm.exec) {x : Int32} {v : UInt64} {rest : List Value} (hd : decode c.code pc = .ok (.i2d, 1)) (hs : st = .int x :: rest) (hv : FP.i2d x = v) (go : Owe tb e below G T (mkF m (pc + 1) Ls (.double v :: rest))) : Owe tb e below G T (mkF m pc Ls st) := Owe.by (fun t k => XS.i2dS h hx rfl hd hs hv k) go
theorem Owe.l2dS (h : At T m c below) (hx : tb.exec = Jvm.exec) {x : Int64} {v : UInt64} {rest : List Value} (hd : decode c.code pc = .ok (.l2d, 1)) (hs : st = .long x :: rest) (hv : FP.l2d x = v) (go : Owe tb e below G T (mkF m (pc + 1) Ls (.double v :: rest))) : Owe tb e below G T (mkF m pc Ls st) := Owe.by (fun t k => XS.l2dS h hx rfl hd hs hv k) go
theorem Owe.dcmpS (h : At T m c below) (hx : tb.exec = Jvm.exec) {o : CmpOp} {x y : UInt64} {v : Int32} {rest : List Value} (hd : decode c.code pc = .ok (.dcmp o, 1)) (hs : st = .double y :: .double x :: rest) (hv : cmpValue (FP.dcmp x y) o = v) (go : Owe tb e below G T (mkF m (pc + 1) Ls (.int v :: rest))) : Owe tb e below G T (mkF m pc Ls st) := Owe.by (fun t k => XS.dcmpS h hx rfl hd hs hv k) go
end Plain
section Heavy
variable {p : Program} {l : Launch} {e : Env} {R : Room} {s : State} {m : MethodId} {args : Array Value} {below : List Frame} {meth : Method} {c : Code} {T : State} {locs : List Loc} {cells slots : Nat} {Z : State} {a0 : Array Value} {h : Heap} {G : Outcome → State → Prop} {pc : Nat} {Ls : Array Slot} {st : List Value}
theorem Owe.ldcI (X : Stand p l e R s m args below meth c T locs cells slots) (hx : p.tables.exec = Jvm.exec) {own : String} {index : Nat} {v : Int32} (hown : s.vm.findClass own = some m.cls) (w : (Cond.constant own index v).before args s = true) (hd : decode c.code pc = .ok (.ldc index, 2)) (go : Owe p.tables e below G T (mkF m (pc + 2) Ls (.int v :: st))) : Owe p.tables e below G T (mkF m pc Ls st) :=
  Owe.by (X.ldcInt hx hown w (g := mkF m pc Ls st) rfl hd) go
theorem Owe.new (X : Stand p l e R s m args below meth c T locs cells slots) (hx : p.tables.exec = Jvm.exec) (hZ : Z.Warmed39 s.vm) {own C : String} {index n : Nat} (hown : s.vm.findClass own = some m.cls) (w : (Cond.classLink own index C).before a0 Z = true) (wi : (Cond.instantiable C n).before a0 Z = true) (wz : (Cond.initialized C).before a0 Z = true) (eT : T.heap = h) (hd : decode c.code pc = .ok (.new index, 3)) (hc : cells + 1 ≤ R.cells) (hl : slots + n ≤ R.slots)
    (go : ∀ (T' : State) (h' : Heap) (a : Addr), a = h.size → Stand p l e R s m args below meth c T' locs (cells + 1) (slots + n) → T'.heap = h' → Ext h h' → Exa Z h' a C → (∀ {O nm d : String} {ty : FieldType}, Laid Z a0 C O nm d → parseFieldDescriptor d = some ty → Fld Z h' a O nm d (defaultValue ty)) → Owe p.tables e below G T' (mkF m (pc + 3) Ls (.ref a :: st))) : Owe p.tables e below G T (mkF m pc Ls st) := by
  obtain ⟨T', h', X', e', E', A', D', -, st'⟩ := newO X hx hZ hown w wi wz eT (g := mkF m pc Ls st) rfl hd hc hl
  exact Owe.by st' (go T' h' _ rfl X' e' E' A' D')
theorem Owe.newarr (X : Stand p l e R s m args below meth c T locs cells slots) (hx : p.tables.exec = Jvm.exec) (hZ : Z.Warmed39 s.vm) {aty : ArrayType} (w : (Cond.arrayClass (newarray.typeOf aty)).before a0 Z = true) (eT : T.heap = h) (hd : decode c.code pc = .ok (.newarray aty, 2)) {n : Int32} {rest : List Value} (hs : st = .int n :: rest) (hn : ¬ n < 0) {cap : Nat} (hcap : n.toNatClampNeg ≤ cap) (hb : cap * 8 ≤ 536870912) (hc : cells + 1 ≤ R.cells) (hl : slots + cap ≤ R.slots)
    (go : ∀ (T' : State) (h' : Heap) (a : Addr) (k : ClassId), a = h.size → Stand p l e R s m args below meth c T' locs (cells + 1) (slots + cap) → T'.heap = h' → Ext h h' → Arv Z h' a k (newarray.typeOf aty) n [] (defaultValue (newarray.typeOf aty)) → Owe p.tables e below G T' (mkF m (pc + 2) Ls (.ref a :: rest))) : Owe p.tables e below G T (mkF m pc Ls st) := by
  obtain ⟨T', h', k, X', e', E', A', st'⟩ := newP X hx hZ w eT (g := mkF m pc Ls st) rfl hd hs hn hcap hb hc hl
  exact Owe.by st' (go T' h' _ k rfl X' e' E' (Arv.new A' hn))
theorem Owe.castore (X : Stand p l e R s m args below meth c T locs cells slots) (hx : p.tables.exec = Jvm.exec) (hZ : Z.Warmed39 s.vm) (eT : T.heap = h) {a : Addr} {k : ClassId} {n : Int32} {vs : List Value} {dv : Value} (V : Arv Z h a k .char n vs dv) {j x : Int32} (i : Nat) (hj : j.toNatClampNeg = i) (hi : i < vs.length) (hin : ¬ j < 0 ∧ j < n) (hd : decode c.code pc = .ok (.castore, 1)) {rest : List Value} (hs : st = .int x :: .int j :: .ref a :: rest)
    (go : ∀ (T' : State) (h' : Heap), Stand p l e R s m args below meth c T' (locs ++ [⟨a, j.toNatClampNeg⟩]) cells slots → T'.heap = h' → Wr h h' a j.toNatClampNeg (.int (nar .char x)) → Arv Z h' a k .char n (vs.set i (.int (nar .char x))) dv → Owe p.tables e below G T' (mkF m (pc + 1) Ls rest)) : Owe p.tables e below G T (mkF m pc Ls st) := by
  obtain ⟨cl, A, q, S, M, H, U⟩ := V
  obtain ⟨T', h', X', e', W', st'⟩ := stC X hx hZ eT A (j := j) (inb_of S hin) (g := mkF m pc Ls st) rfl hs hd
  exact Owe.by st' (go T' h' X' e' W' (Arv.set A q S M H U (fits_nar_char _) W' i hj hi))
theorem Owe.bastore (X : Stand p l e R s m args below meth c T locs cells slots) (hx : p.tables.exec = Jvm.exec) (hZ : Z.Warmed39 s.vm) (eT : T.heap = h) {a : Addr} {k : ClassId} {n : Int32} {vs : List Value} {dv : Value} (V : Arv Z h a k .byte n vs dv) {j x : Int32} (i : Nat) (hj : j.toNatClampNeg = i) (hi : i < vs.length) (hin : ¬ j < 0 ∧ j < n) (hd : decode c.code pc = .ok (.bastore, 1)) {rest : List Value} (hs : st = .int x :: .int j :: .ref a :: rest)
    (go : ∀ (T' : State) (h' : Heap), Stand p l e R s m args below meth c T' (locs ++ [⟨a, j.toNatClampNeg⟩]) cells slots → T'.heap = h' → Wr h h' a j.toNatClampNeg (.int (x.toInt8.toInt32)) → Arv Z h' a k .byte n (vs.set i (.int (x.toInt8.toInt32))) dv → Owe p.tables e below G T' (mkF m (pc + 1) Ls rest)) : Owe p.tables e below G T (mkF m pc Ls st) := by
  obtain ⟨cl, A, q, S, M, H, U⟩ := V
  obtain ⟨T', h', X', e', W', st'⟩ := stB X hx hZ eT A (j := j) (inb_of S hin) (g := mkF m pc Ls st) rfl hs hd
  exact Owe.by st' (go T' h' X' e' W' (Arv.set A q S M H U (fits_nar_byte _) W' i hj hi))
theorem Owe.caload (X : Stand p l e R s m args below meth c T locs cells slots) (hx : p.tables.exec = Jvm.exec) (hZ : Z.Warmed39 s.vm) (eT : T.heap = h) {a : Addr} {k : ClassId} {n : Int32} {vs : List Value} {dv : Value} (V : Arv Z h a k .char n vs dv) {j : Int32} {v : Value} (hin : ¬ j < 0 ∧ j < n) (hv : vs.getD j.toNatClampNeg dv = v) (hd : decode c.code pc = .ok (.caload, 1)) {rest : List Value} (hs : st = .int j :: .ref a :: rest)
    (go : Owe p.tables e below G T (mkF m (pc + 1) Ls (v :: rest))) : Owe p.tables e below G T (mkF m pc Ls st) := by
  obtain ⟨cl, A, q, S, M, H, U⟩ := V
  exact Owe.by (fun t k => X.caload hx (by rw [eT]; exact A.1) (State.isArrayOf_alike hZ.alike A.2.1) A.2.2 (inb_of S hin) (H.at (inb_of S hin) hv) (g := mkF m pc Ls st) rfl hs hd t k) go
theorem Owe.arrlen (X : Stand p l e R s m args below meth c T locs cells slots) (hx : p.tables.exec = Jvm.exec) (hZ : Z.Warmed39 s.vm) (eT : T.heap = h) {a : Addr} {k : ClassId} {ty : FieldType} {n : Int32} {vs : List Value} {dv : Value} (V : Arv Z h a k ty n vs dv) (hd : decode c.code pc = .ok (.arraylength, 1)) {rest : List Value} (hs : st = .ref a :: rest)
    (go : Owe p.tables e below G T (mkF m (pc + 1) Ls (.int n :: rest))) : Owe p.tables e below G T (mkF m pc Ls st) := by
  obtain ⟨cl, A, q, S, M, H, U⟩ := V
  refine Owe.by (fun t k => X.arraylength hx (by rw [eT]; exact A.1) (State.isArrayOf_alike hZ.alike A.2.1) (g := mkF m pc Ls st) rfl hs hd t ?_) go
  rw [len_of S M]; exact k
theorem Owe.getf (X : Stand p l e R s m args below meth c T locs cells slots) (hx : p.tables.exec = Jvm.exec) (hZ : Z.Warmed39 s.vm) {own R0 O n d host : String} {index : Nat} (hown : s.vm.findClass own = some m.cls) (w : (Cond.fieldLink own index R0 n d).before a0 Z = true ∨ (Cond.fieldLinkNest own index R0 n d host).before a0 Z = true) (via : Via Z R0 O n d) (eT : T.heap = h) {a : Addr} {v : Value} (F : Fld Z h a O n d v) (hd : decode c.code pc = .ok (.getfield index, 3)) {rest : List Value} (hs : st = .ref a :: rest)
    (go : ∀ T' : State, Stand p l e R s m args below meth c T' locs cells slots → T'.heap = h → Owe p.tables e below G T' (mkF m (pc + 3) Ls (v :: rest))) : Owe p.tables e below G T (mkF m pc Ls st) := by
  obtain ⟨T', X', e', st'⟩ := getF X hx hZ hown w via eT F (g := mkF m pc Ls st) rfl hs hd
  exact Owe.by st' (go T' X' e')
theorem Owe.gets (X : Stand p l e R s m args below meth c T locs cells slots) (hx : p.tables.exec = Jvm.exec) (hZ : Z.Warmed39 s.vm) {own R0 O n d : String} {index : Nat} (hown : s.vm.findClass own = some m.cls) (w : (Cond.fieldLink own index R0 n d).before a0 Z = true) (via : Via Z R0 O n d) (eT : T.heap = h) {v : Value} (F : Sta Z h O n d v) (hd : decode c.code pc = .ok (.getstatic index, 3))
    (go : ∀ T' : State, Stand p l e R s m args below meth c T' locs cells slots → T'.heap = h → Owe p.tables e below G T' (mkF m (pc + 3) Ls (v :: st))) : Owe p.tables e below G T (mkF m pc Ls st) := by
  obtain ⟨T', X', e', st'⟩ := getS X hx hZ (host := "") hown w via eT F (g := mkF m pc Ls st) rfl hd
  exact Owe.by st' (go T' X' e')
theorem Owe.putf (X : Stand p l e R s m args below meth c T locs cells slots) (hx : p.tables.exec = Jvm.exec) (hZ : Z.Warmed39 s.vm) {own R0 O n d host C : String} {index kk : Nat} {ty : FieldType} (hown : s.vm.findClass own = some m.cls) (w : (Cond.fieldLink own index R0 n d).before a0 Z = true ∨ (Cond.fieldLinkNest own index R0 n d host).before a0 Z = true) (via : Via Z R0 O n d) (eT : T.heap = h) {a : Addr} {v old : Value} (F : Fld Z h a O n d old) (E : Exa Z h a C)
    (L : (Cond.lays C O n d).before a0 Z = true ∨ ((Cond.laysFinal C O n d).before a0 Z = true ∧ own = O ∧ meth.name = "<init>")) (wi : (Cond.instantiable C kk).before a0 Z = true) (hty : parseFieldDescriptor d = some ty) (hn : narrow ty v = v) (hf : fits ty v = true) (hd : decode c.code pc = .ok (.putfield index, 3)) {rest : List Value} (hs : st = v :: .ref a :: rest)
    (go : ∀ (T' : State) (h' : Heap), Stand p l e R s m args below meth c T' (locs ++ [⟨a, Jvm.RoadKit.slotOf Z O n d⟩]) cells slots → T'.heap = h' → Wr h h' a (Jvm.RoadKit.slotOf Z O n d) v → Owe p.tables e below G T' (mkF m (pc + 3) Ls rest)) : Owe p.tables e below G T (mkF m pc Ls st) := by
  obtain ⟨T', h', X', e', W', st'⟩ := putF X hx hZ hown w via eT F E L wi hty hn hf (g := mkF m pc Ls st) rfl hs hd
  exact Owe.by st' (go T' h' X' e' W')
theorem Owe.objinit (X : Stand p l e R s m args below meth c T locs cells slots) (hx : p.tables.exec = Jvm.exec) (hZ : Z.Warmed39 s.vm) {own : String} {idx : Nat} (hown : s.vm.findClass own = some m.cls) (w1 : (Cond.methodLink own idx Lib.objectInit).before a0 Z = true) (w2 : (Cond.instanceMethod Lib.objectInit).before a0 Z = true) (w3 : (Cond.code Lib.objectInit ⟨#[0xb1]⟩ 1 none).before a0 Z = true) (eT : T.heap = h) (hsize : Ls.size = c.maxLocals) {a : Addr} {rest : List Value} (hs : st = .ref a :: rest) (hd : decode c.code pc = .ok (.invokespecial idx, 3)) (hf : 1 ≤ R.frames) {W : Nat} (hW : (rest.map fun v => v.category).sum ≤ W) (hl : W + 12 ≤ R.locals)
    (go : ∀ T' : State, Stand p l e R s m args below meth c T' locs cells slots → T'.heap = h → Owe p.tables e below G T' (mkF m (pc + 3) Ls rest)) : Owe p.tables e below G T (mkF m pc Ls st) := by
  obtain ⟨T', X', e', st'⟩ := initO X hx hZ hown w1 w2 w3 eT (g := mkF m pc Ls st) rfl hsize hs hd hf (W := W) (by show 2 * 0 + _ ≤ W; omega) hl
  exact Owe.by st' (go T' X' e')
theorem Owe.castY (X : Stand p l e R s m args below meth c T locs cells slots) (hx : p.tables.exec = Jvm.exec) (hZ : Z.Warmed39 s.vm) {own K : String} {index : Nat} (hown : s.vm.findClass own = some m.cls) (w : (Cond.classLink own index K).before a0 Z = true) (eT : T.heap = h) {a : Addr} (F : Ins Z h a K true) (hd : decode c.code pc = .ok (.checkcast index, 3)) {rest : List Value} (hs : st = .ref a :: rest)
    (go : ∀ T' : State, Stand p l e R s m args below meth c T' locs cells slots → T'.heap = h → Owe p.tables e below G T' (mkF m (pc + 3) Ls st)) : Owe p.tables e below G T (mkF m pc Ls st) := by
  obtain ⟨T', X', e', st'⟩ := Jvm.RoadKit.castY X hx hZ hown w eT F (g := mkF m pc Ls st) rfl hs hd
  exact Owe.by st' (go T' X' e')
theorem Owe.instY (X : Stand p l e R s m args below meth c T locs cells slots) (hx : p.tables.exec = Jvm.exec) (hZ : Z.Warmed39 s.vm) {own K : String} {index : Nat} (hown : s.vm.findClass own = some m.cls) (w : (Cond.classLink own index K).before a0 Z = true) (eT : T.heap = h) {a : Addr} (F : Ins Z h a K true) (hd : decode c.code pc = .ok (.instanceof index, 3)) {rest : List Value} (hs : st = .ref a :: rest)
    (go : ∀ T' : State, Stand p l e R s m args below meth c T' locs cells slots → T'.heap = h → Owe p.tables e below G T' (mkF m (pc + 3) Ls (.int 1 :: rest))) : Owe p.tables e below G T (mkF m pc Ls st) := by
  obtain ⟨T', X', e', st'⟩ := Jvm.RoadKit.instY X hx hZ hown w eT F (g := mkF m pc Ls st) rfl hs hd
  exact Owe.by st' (go T' X' e')
theorem Owe.instNo (X : Stand p l e R s m args below meth c T locs cells slots) (hx : p.tables.exec = Jvm.exec) (hZ : Z.Warmed39 s.vm) {own K C : String} {index : Nat} (hown : s.vm.findClass own = some m.cls) (w : (Cond.classLink own index K).before a0 Z = true) (eT : T.heap = h) {a : Addr} (E : Exa Z h a C) (F : ∃ c t, Z.vm.findClass C = some c ∧ Z.vm.findClass K = some t ∧ Z.vm.assignable c t = false) (hd : decode c.code pc = .ok (.instanceof index, 3)) {rest : List Value} (hs : st = .ref a :: rest)
    (go : ∀ T' : State, Stand p l e R s m args below meth c T' locs cells slots → T'.heap = h → Owe p.tables e below G T' (mkF m (pc + 3) Ls (.int 0 :: rest))) : Owe p.tables e below G T (mkF m pc Ls st) := by
  obtain ⟨T', X', e', st'⟩ := Jvm.RoadKit.instNo X hx hZ hown w eT E F (g := mkF m pc Ls st) rfl hs hd
  exact Owe.by st' (go T' X' e')
theorem Owe.instNull (X : Stand p l e R s m args below meth c T locs cells slots) (hx : p.tables.exec = Jvm.exec) {index : Nat} (hd : decode c.code pc = .ok (.instanceof index, 3)) {rest : List Value} (hs : st = .null :: rest) (go : Owe p.tables e below G T (mkF m (pc + 3) Ls (.int 0 :: rest))) : Owe p.tables e below G T (mkF m pc Ls st) :=
  Owe.by (Jvm.Stand.instanceofNull X hx (g := mkF m pc Ls st) rfl hs hd) go
theorem Owe.aaload (X : Stand p l e R s m args below meth c T locs cells slots) (hx : p.tables.exec = Jvm.exec) (hZ : Z.Warmed39 s.vm) (eT : T.heap = h) {a : Addr} {cl : Cell} {ty : FieldType} (A : Jvm.RoadKit.Arr Z h a cl ty) (hty : ty.isReference = true) {j : Int32} {v : Value} (hin : ¬ (j < 0 ∨ cl.slots.size ≤ j.toNatClampNeg)) (hv : cl.slots[j.toNatClampNeg]? = some v) (hd : decode c.code pc = .ok (.aaload, 1)) {rest : List Value} (hs : st = .int j :: .ref a :: rest)
    (go : Owe p.tables e below G T (mkF m (pc + 1) Ls (v :: rest))) : Owe p.tables e below G T (mkF m pc Ls st) :=
  Owe.by (fun t k => X.aaload hx (by rw [eT]; exact A.1) (State.isArrayOf_alike hZ.alike A.2.1) hty A.2.2 hin hv (g := mkF m pc Ls st) rfl hs hd t k) go
/-! calls by a contract in the Back form of 'backOf' and of the pasted String laws -/
variable {y z : MethodName} {as' : Array Value} {Q : Option Value → Heap → List Loc → Prop} {W kc ks : Nat}
theorem Owe.special (X : Stand p l e R s m args below meth c T locs cells slots) (hx : p.tables.exec = Jvm.exec) {own : String} {index : Nat} (hy1 : y.name = "<init>") (hown : s.vm.findClass own = some m.cls) (hlink : (Cond.methodLink own index y).before args s = true) (hinst : (Cond.instanceMethod y).before args s = true) {bytes : ByteArray} {maxL : Nat} (hcode : (Cond.code y bytes maxL none).before args s = true) (hy : y.cls ≠ "java/lang/invoke/MethodHandle" ∧ y.cls ≠ "java/lang/invoke/VarHandle")
    (hK : Back l R p e below s args y 3 W (fun A a => a = as' ∧ A.U.heap = h ∧ A.cells + kc ≤ R.cells ∧ A.slots + ks ≤ R.slots) (fun A _ v B => ∃ L, Q v B.U.heap L ∧ B.locs = A.locs ++ L ∧ B.cells = A.cells + kc ∧ B.slots = A.slots + ks))
    (hsize : Ls.size = c.maxLocals) {a : Addr} {argsL rest : List Value} (hlen : ∀ sig, parseMethodDescriptor y.desc = some sig → argsL.length = sig.parameters.length) (hs : st = argsL.reverse ++ .ref a :: rest) (hW : (rest.map fun v => v.category).sum ≤ W) (hd : decode c.code pc = .ok (.invokespecial index, 3))
    (has : (.ref a :: argsL).toArray = as') (eT : T.heap = h) (hc : cells + kc ≤ R.cells) (hl : slots + ks ≤ R.slots)
    (go : ∀ (T' : State) (v : Option Value) (L : List Loc), Stand p l e R s m args below meth c T' (locs ++ L) (cells + kc) (slots + ks) → Q v T'.heap L → Owe p.tables e below G T' (mkF m (pc + 3) Ls (v.toList ++ rest))) : Owe p.tables e below G T (mkF m pc Ls st) := by
  obtain ⟨v, _, ⟨T', L', k', n'⟩, -, X', ⟨L, hQ, l', y', z'⟩, st'⟩ := X.specialBack hx hy1 hown hlink hinst hcode hy hK (g := mkF m pc Ls st) rfl hsize (Steps.refl _) hlen hs (by show 2 * 0 + _ ≤ W; omega) hd (fun _ _ => ⟨has, eT, hc, hl⟩)
  dsimp only [Pt.U, Pt.locs, Pt.cells, Pt.slots] at X' l' y' z' st' hQ
  subst l' y' z'
  exact Owe.by (fun t k => st'.trans k) (go T' v L X' hQ)
theorem Owe.specialRef (X : Stand p l e R s m args below meth c T locs cells slots) (hx : p.tables.exec = Jvm.exec) (hZ : Z.Warmed39 s.vm) {own : String} {index : Nat} (hy1 : y.name = "<init>") (hown : s.vm.findClass own = some m.cls) (href : (Cond.methodRef own index y).before a0 Z = true) (hinst : (Cond.instanceMethod y).before a0 Z = true) {bytes : ByteArray} {maxL : Nat} (hcode : (Cond.code y bytes maxL none).before a0 Z = true) (hy : y.cls ≠ "java/lang/invoke/MethodHandle" ∧ y.cls ≠ "java/lang/invoke/VarHandle")
    (hK : Back l R p e below s args y 3 W (fun A a => a = as' ∧ A.U.heap = h ∧ A.cells + kc ≤ R.cells ∧ A.slots + ks ≤ R.slots) (fun A _ v B => ∃ L, Q v B.U.heap L ∧ B.locs = A.locs ++ L ∧ B.cells = A.cells + kc ∧ B.slots = A.slots + ks))
    (hsize : Ls.size = c.maxLocals) {a : Addr} {argsL rest : List Value} (hlen : ∀ sig, parseMethodDescriptor y.desc = some sig → argsL.length = sig.parameters.length) (hs : st = argsL.reverse ++ .ref a :: rest) (hW : (rest.map fun v => v.category).sum ≤ W) (hd : decode c.code pc = .ok (.invokespecial index, 3))
    (has : (.ref a :: argsL).toArray = as') (eT : T.heap = h) (hc : cells + kc ≤ R.cells) (hl : slots + ks ≤ R.slots)
    (go : ∀ (T' : State) (v : Option Value) (L : List Loc), Stand p l e R s m args below meth c T' (locs ++ L) (cells + kc) (slots + ks) → Q v T'.heap L → Owe p.tables e below G T' (mkF m (pc + 3) Ls (v.toList ++ rest))) : Owe p.tables e below G T (mkF m pc Ls st) := by
  have hU : Z.Warmed39 T.vm := wtrans hZ X.warmed
  obtain ⟨obj, methO, hnO, hmO, hstO, habO⟩ := Cond.instanceMethod_spec hinst
  obtain ⟨methO', cO, hmO', hcO, hbO, hlO, -, hlockO, -, hsigO⟩ := Cond.code_spec hnO hcode
  cases hmO.symm.trans hmO'
  obtain ⟨kO, hkO, hnameO⟩ := className_of_methodNamed hnO
  obtain ⟨hnameMO, hdescO⟩ := name_of_methodNamed hnO hmO
  have href' := Cond.methodRef_warmed39 (vm' := T.vm) hU hnO hy href
  have hownT : (Z.setVm T.vm).vm.findClass own = some m.cls := by show T.vm.findClass own = _; rw [X.warmed.alike.findClass]; exact hown
  have hnT : (Z.setVm T.vm).methodNamed? y = some obj := by rw [State.methodNamed?_setVm hU.alike]; exact hnO
  obtain ⟨m', c', hf, hready, hfind, hnr⟩ := Cond.methodRef_named e hownT href'
  have hfo := State.methodFound?_of_named hnT hy
  cases hfo.symm.trans hf
  cases (findClass_of_methodNamed hnT).symm.trans hfind
  obtain ⟨kO₂, hkO₂, heO₂⟩ := hU.alike.2.2 _ _ hkO
  have hmO₂ : T.vm.method? obj = some methO := by rw [hU.alike.method?]; exact hmO
  have hfound : lookupSpecial T.vm obj.cls "<init>" methO.desc = .method obj := by
    rw [hU.alike.lookupSpecial, hdescO, ← hy1]; exact lookupSpecial_of_named hnO hmO hstO
  obtain ⟨v, ⟨T', L', k', n'⟩, X', ⟨L, hQ, l', y', z'⟩, st'⟩ := hK m meth c ⟨T, locs, cells, slots⟩ (mkF m pc Ls rest) (.invokespecial index) obj (.ref a :: argsL).toArray X rfl hsize hd (by show 2 * 0 + (rest.map fun v => v.category).sum ≤ W; omega) hnT ⟨has, eT, hc, hl⟩
  dsimp only [Pt.U, Pt.locs, Pt.cells, Pt.slots] at X' l' y' z' st' hQ
  subst l' y' z'
  refine Owe.by (fun t k => ?_) (go T' v L X' hQ)
  have hstep : ∀ target, (∀ acts, Steps p.tables e below (doInvoke e (T.setTop (mkF m pc Ls rest)) acts obj (.ref a :: argsL).toArray).1 target) → Steps p.tables e below (T.setTop (mkF m pc Ls st)) target := fun target hrest => by
    jvm_step X.here [hx, hd, invokespecial.wp_init (e := e) (s := T) (k := kO₂) (meth := methO) (m := obj) (a := a) (args := argsL) (rest := rest) (f := mkF m pc Ls st)
      X.here.top hnr hready hkO₂ hmO₂ (by rw [hnameMO]; exact hy1) hstO habO hfound (hlen _ hsigO) hs]
    exact hrest
  exact hstep _ fun acts => by rw [doInvoke_state]; exact st'.trans k
theorem Owe.virt (X : Stand p l e R s m args below meth c T locs cells slots) (hx : p.tables.exec = Jvm.exec) (hZ : Z.Warmed39 s.vm) {own C : String} {index : Nat} (hown : s.vm.findClass own = some m.cls) (hlink : (Cond.methodLink own index y).before args s = true) (hdecl : (Cond.declares y).before args s = true) (hsel : (Cond.selects C y z).before args s = true) (hinst : (Cond.instanceMethod z).before args s = true) (hnf : NotFace s y) (hy : y.cls ≠ "java/lang/invoke/MethodHandle" ∧ y.cls ≠ "java/lang/invoke/VarHandle")
    (hK : Back l R p e below s args z 3 W (fun A a => a = as' ∧ A.U.heap = h ∧ A.cells + kc ≤ R.cells ∧ A.slots + ks ≤ R.slots) (fun A _ v B => ∃ L, Q v B.U.heap L ∧ B.locs = A.locs ++ L ∧ B.cells = A.cells + kc ∧ B.slots = A.slots + ks))
    (hsize : Ls.size = c.maxLocals) {a : Addr} {argsL rest : List Value} (E : Exa Z h a C) (hlen : ∀ sig, parseMethodDescriptor y.desc = some sig → argsL.length = sig.parameters.length) (hs : st = argsL.reverse ++ .ref a :: rest) (hW : (rest.map fun v => v.category).sum ≤ W) (hd : decode c.code pc = .ok (.invokevirtual index, 3))
    (has : (.ref a :: argsL).toArray = as') (eT : T.heap = h) (hc : cells + kc ≤ R.cells) (hl : slots + ks ≤ R.slots)
    (go : ∀ (T' : State) (v : Option Value) (L : List Loc), Stand p l e R s m args below meth c T' (locs ++ L) (cells + kc) (slots + ks) → Q v T'.heap L → Owe p.tables e below G T' (mkF m (pc + 3) Ls (v.toList ++ rest))) : Owe p.tables e below G T (mkF m pc Ls st) := by
  obtain ⟨cq, kq, qa, qb, qc⟩ := isOf hZ eT E
  obtain ⟨v, _, ⟨T', L', k', n'⟩, -, X', ⟨L, hQ, l', y', z'⟩, st'⟩ := X.virtualBack hx hown hlink hdecl hnf hsel hinst hy hK qa qc (g := mkF m pc Ls st) rfl hsize (Steps.refl _) hlen hs (by show 2 * 0 + _ ≤ W; omega) hd (fun _ _ => ⟨has, eT, hc, hl⟩)
  dsimp only [Pt.U, Pt.locs, Pt.cells, Pt.slots] at X' l' y' z' st' hQ
  subst l' y' z'
  exact Owe.by (fun t k => st'.trans k) (go T' v L X' hQ)
theorem Owe.virtUp (X : Stand p l e R s m args below meth c T locs cells slots) (hx : p.tables.exec = Jvm.exec) (hZ : Z.Warmed39 s.vm) {own C owner : String} {index : Nat} (hown : s.vm.findClass own = some m.cls) (hlink : (Cond.methodLink own index y).before args s = true) (hsame : (Cond.sameMethod y.cls owner y.name y.desc).before args s = true) (hdecl : (Cond.declares ⟨owner, y.name, y.desc⟩).before args s = true) (howner : owner ≠ "java/lang/invoke/MethodHandle" ∧ owner ≠ "java/lang/invoke/VarHandle") (hsel : (Cond.selects C y z).before args s = true) (hinst : (Cond.instanceMethod z).before args s = true)
    (hK : Back l R p e below s args z 3 W (fun A a => a = as' ∧ A.U.heap = h ∧ A.cells + kc ≤ R.cells ∧ A.slots + ks ≤ R.slots) (fun A _ v B => ∃ L, Q v B.U.heap L ∧ B.locs = A.locs ++ L ∧ B.cells = A.cells + kc ∧ B.slots = A.slots + ks))
    (hsize : Ls.size = c.maxLocals) {a : Addr} {argsL rest : List Value} (E : Exa Z h a C) (hlen : ∀ sig, parseMethodDescriptor y.desc = some sig → argsL.length = sig.parameters.length) (hs : st = argsL.reverse ++ .ref a :: rest) (hW : (rest.map fun v => v.category).sum ≤ W) (hd : decode c.code pc = .ok (.invokevirtual index, 3))
    (has : (.ref a :: argsL).toArray = as') (eT : T.heap = h) (hc : cells + kc ≤ R.cells) (hl : slots + ks ≤ R.slots)
    (go : ∀ (T' : State) (v : Option Value) (L : List Loc), Stand p l e R s m args below meth c T' (locs ++ L) (cells + kc) (slots + ks) → Q v T'.heap L → Owe p.tables e below G T' (mkF m (pc + 3) Ls (v.toList ++ rest))) : Owe p.tables e below G T (mkF m pc Ls st) := by
  obtain ⟨cq, kq, qa, qb, qc⟩ := isOf hZ eT E
  obtain ⟨v, _, ⟨T', L', k', n'⟩, -, X', ⟨L, hQ, l', y', z'⟩, st'⟩ := X.virtualBackUp hx hown hlink hsame hdecl howner hsel hinst hK qa qc (g := mkF m pc Ls st) rfl hsize (Steps.refl _) hlen hs (by show 2 * 0 + _ ≤ W; omega) hd (fun _ _ => ⟨has, eT, hc, hl⟩)
  dsimp only [Pt.U, Pt.locs, Pt.cells, Pt.slots] at X' l' y' z' st' hQ
  subst l' y' z'
  exact Owe.by (fun t k => st'.trans k) (go T' v L X' hQ)
theorem Owe.stat (X : Stand p l e R s m args below meth c T locs cells slots) (hx : p.tables.exec = Jvm.exec) {own : String} {index : Nat} {bytes : ByteArray} {maxL : Nat} {ret : Option FieldType} (hown : s.vm.findClass own = some m.cls) (hlink : (Cond.methodLink own index y).before args s = true) (hstat : (Cond.static y).before args s = true) (hinit : (Cond.initialized y.cls).before args s = true) (hcode : (Cond.code y bytes maxL ret).before args s = true) (hy : y.cls ≠ "java/lang/invoke/MethodHandle" ∧ y.cls ≠ "java/lang/invoke/VarHandle")
    (hK : Back l R p e below s args y 3 W (fun A a => a = as' ∧ A.U.heap = h ∧ A.cells + kc ≤ R.cells ∧ A.slots + ks ≤ R.slots) (fun A _ v B => ∃ L, Q v B.U.heap L ∧ B.locs = A.locs ++ L ∧ B.cells = A.cells + kc ∧ B.slots = A.slots + ks))
    (hsize : Ls.size = c.maxLocals) {argsL rest : List Value} (hlen : ∀ sig, parseMethodDescriptor y.desc = some sig → argsL.length = sig.parameters.length) (hs : st = argsL.reverse ++ rest) (hW : (rest.map fun v => v.category).sum ≤ W) (hd : decode c.code pc = .ok (.invokestatic index, 3))
    (has : argsL.toArray = as') (eT : T.heap = h) (hc : cells + kc ≤ R.cells) (hl : slots + ks ≤ R.slots)
    (go : ∀ (T' : State) (v : Option Value) (L : List Loc), Stand p l e R s m args below meth c T' (locs ++ L) (cells + kc) (slots + ks) → Q v T'.heap L → Owe p.tables e below G T' (mkF m (pc + 3) Ls (v.toList ++ rest))) : Owe p.tables e below G T (mkF m pc Ls st) := by
  obtain ⟨v, _, ⟨T', L', k', n'⟩, -, X', ⟨L, hQ, l', y', z'⟩, st'⟩ := Jvm.LawKit.callS X hx hown hlink hstat hinit hcode hy hK (g := mkF m pc Ls st) rfl hsize hlen hs (by show 2 * 0 + _ ≤ W; omega) hd (fun _ _ => ⟨has, eT, hc, hl⟩)
  dsimp only [Pt.U, Pt.locs, Pt.cells, Pt.slots] at X' l' y' z' st' hQ
  subst l' y' z'
  exact Owe.by st' (go T' v L X' hQ)
/-! the end: it returns -/
theorem Owe.retN (X : Stand p l e R s m args below meth c T locs cells slots) (hx : p.tables.exec = Jvm.exec) (hlk : meth.locks = false) {z : Int32} {t : FieldType} {rest : List Value} (hret : meth.sig.returnType = some t) (ht : t = .boolean ∨ t = .byte ∨ t = .char ∨ t = .short) (hd : decode c.code pc = .ok (.ireturn, 1)) (hs : st = .int z :: rest)
    (go : ∀ fs : List Frame, FrameEnd s (.returned (some (.int (nar t z)))) (T.setFrames fs) locs cells slots → G (.returned (some (.int (nar t z)))) (T.setFrames fs)) : Owe p.tables e below G T (mkF m pc Ls st) := by
  subst hs
  obtain ⟨fs, hr, hrun, hended, hW, hsame⟩ := X.leave (v := some (.int (nar t z))) (fun h => by rw [hret] at h; cases h) hlk
  exact ⟨_, _, Jvm.RoadKit.retN X hx hret ht hd hr, hrun, hended, go fs ⟨⟨_, rfl⟩, hW, hsame⟩⟩
theorem Owe.retI (X : Stand p l e R s m args below meth c T locs cells slots) (hx : p.tables.exec = Jvm.exec) (hlk : meth.locks = false) {z : Int32} {rest : List Value} (hret : meth.sig.returnType = some .int) (hd : decode c.code pc = .ok (.ireturn, 1)) (hs : st = .int z :: rest)
    (go : ∀ fs : List Frame, FrameEnd s (.returned (some (.int z))) (T.setFrames fs) locs cells slots → G (.returned (some (.int z))) (T.setFrames fs)) : Owe p.tables e below G T (mkF m pc Ls st) := by
  subst hs
  obtain ⟨fs, hr, hrun, hended, hW, hsame⟩ := X.leave (v := some (.int z)) (fun h => by rw [hret] at h; cases h) hlk
  have hm' : T.vm.method? m = some meth := X.method'
  have hn : narrow .int (.int z) = .int z := rfl
  refine ⟨_, _, ?_, hrun, hended, go fs ⟨⟨_, rfl⟩, hW, hsame⟩⟩
  show Steps p.tables e below (T.setTop { method := m, pc := pc, locals := Ls, stack := _ :: rest, locked := none }) _
  jvm_step X.here [X.here.top, hx, hd, hm', hret, hn]
  first | (intro acts; rw [hr _ acts rfl rfl rfl]) | rw [hr _ _ rfl rfl rfl]
  exact Steps.refl _
theorem Owe.retR (X : Stand p l e R s m args below meth c T locs cells slots) (hx : p.tables.exec = Jvm.exec) (hlk : meth.locks = false) {w : Value} {t : FieldType} {rest : List Value} (hret : meth.sig.returnType = some t) (hn : narrow t w = w) (ht : t.isReference = true) (hw : w.isRef = true) (hd : decode c.code pc = .ok (.areturn, 1)) (hs : st = w :: rest)
    (go : ∀ fs : List Frame, FrameEnd s (.returned (some w)) (T.setFrames fs) locs cells slots → G (.returned (some w)) (T.setFrames fs)) : Owe p.tables e below G T (mkF m pc Ls st) := by
  subst hs
  obtain ⟨fs, hr, hrun, hended, hW, hsame⟩ := X.leave (v := some w) (fun h => by rw [hret] at h; cases h) hlk
  have hm' : T.vm.method? m = some meth := X.method'
  refine ⟨_, _, ?_, hrun, hended, go fs ⟨⟨_, rfl⟩, hW, hsame⟩⟩
  show Steps p.tables e below (T.setTop { method := m, pc := pc, locals := Ls, stack := _ :: rest, locked := none }) _
  jvm_step X.here [X.here.top, hx, hd, hm', hret, hn, hw]
  try (refine ⟨ht, ?_⟩)
  first | (intro acts; rw [hr _ acts rfl rfl rfl]) | rw [hr _ _ rfl rfl rfl]
  exact Steps.refl _
theorem Owe.ret0 (X : Stand p l e R s m args below meth c T locs cells slots) (hx : p.tables.exec = Jvm.exec) (hlk : meth.locks = false) (hret : meth.sig.returnType = none) (hd : decode c.code pc = .ok (.return_, 1)) (hs : st = [])
    (go : ∀ fs : List Frame, FrameEnd s (.returned none) (T.setFrames fs) locs cells slots → G (.returned none) (T.setFrames fs)) : Owe p.tables e below G T (mkF m pc Ls st) := by
  subst hs
  obtain ⟨fs, hr, hrun, hended, hW, hsame⟩ := X.leave (v := none) (fun _ => rfl) hlk
  exact ⟨_, _, X.returnOut hx hret hd hr, hrun, hended, go fs ⟨⟨_, rfl⟩, hW, hsame⟩⟩
end Heavy
theorem frameMono {s t : State} {o : Outcome} {L : List Loc} {k n k' n' : Nat} (h : FrameEnd s o t L k n) (hk : k ≤ k') (hn : n ≤ n') : FrameEnd s o t L k' n' := ⟨h.1, h.2.1, h.2.2.mono hk hn⟩
end Own
end Jvm.Pilot.@@N@@
namespace Jvm.Pilot.@@N@@
open Jvm Jvm.ClassFile Sem Op Lib Jvm.Free Jvm.Stand Jvm.LawKit Jvm.RoadKit Bundle Jvm.Pilot.@@N@@.Jvm.D Jvm.Pilot.@@N@@.Own
theorem and255_chars (x : Int32) : ¬ nar .char ((x &&& (255 : Int32)).toUInt32.toUInt16.toUInt32.toInt32) < 0 ∧ ¬ (255 : Int32) < nar .char ((x &&& (255 : Int32)).toUInt32.toUInt16.toUInt32.toInt32) := by
  have t : ∀ k : Fin 256, ¬ nar .char ((Int32.ofNat k.val).toUInt32.toUInt16.toUInt32.toInt32) < 0 ∧ ¬ (255 : Int32) < nar .char ((Int32.ofNat k.val).toUInt32.toUInt16.toUInt32.toInt32) := by decide +kernel
  have h : (x &&& 255).toBitVec.toNat < 256 := by
    simp only [Int32.toBitVec_and, BitVec.toNat_and]
    exact Nat.lt_succ_of_le Nat.and_le_right
  have e : (x &&& 255) = Int32.ofNat (x &&& 255).toBitVec.toNat := by
    apply Int32.toBitVec_inj.mp
    show _ = BitVec.ofNat 32 _
    rw [BitVec.ofNat_toNat]; simp
  rw [e]
  exact t ⟨_, h⟩
theorem own_narrow_ref {v : Value} {t : FieldType} (h : v.isRef = true) (ht : t.isReference = true) : narrow t v = v := by cases t <;> first | (cases ht; done) | (cases v <;> first | rfl | (cases h; done))
theorem own_fits_ref {v : Value} {t : FieldType} (h : v.isRef = true) (ht : t.isReference = true) : fits t v = true := by cases t <;> first | (cases ht; done) | (cases v <;> first | rfl | (cases h; done))
theorem own_cat_ref {v : Value} (h : v.isRef = true) : v.category = 1 := by cases v <;> first | rfl | (cases h; done)
theorem own_eq_int {args : Array Value} {Z : State} {t : Term} {j : Int32} (h : (Jvm.Cond.eq t (Term.int j)).value args Z none Z [] = some true) : t.eval args Z none [] Z = some (.int j) := by
  obtain ⟨x, y, ha, hb, hk, -⟩ := cmp_v (Or.inl h)
  have hj : (Term.int j).eval args Z none [] Z = some (.int j) := Term.int_eval j
  cases x with
  | int z => rw [ha, gotT (Cond.eq_ints ha hj) h]
  | _ => simp [Cond.value, ha, hj] at h
theorem own_eq_ref {args : Array Value} {Z : State} {t u : Term} {b : Addr} (eu : u.eval args Z none [] Z = some (.ref b)) (h : (Jvm.Cond.eq t u).value args Z none Z [] = some true) : t.eval args Z none [] Z = some (.ref b) := by
  obtain ⟨x, y, ha, hb, hk, -⟩ := cmp_v (Or.inl h)
  cases x with
  | ref z => simp [Cond.value, ha, eu] at h; rw [ha, h]
  | _ => simp [Cond.value, ha, eu] at h
theorem own_fld_int {Z : State} {args : Array Value} {t : Term} {a : Addr} {C n d : String} {j : Int32} (ev : t.eval args Z none [] Z = some (.ref a)) (h : (Jvm.Cond.eq (Term.field t C n d) (Term.int j)).value args Z none Z [] = some true) : Fld Z Z.heap a C n d (.int j) := Fld.start ((fld_at ev).symm.trans (own_eq_int h))
theorem own_fld_ref {Z : State} {args : Array Value} {t u : Term} {a b : Addr} {C n d : String} (ev : t.eval args Z none [] Z = some (.ref a)) (eu : u.eval args Z none [] Z = some (.ref b)) (h : (Jvm.Cond.eq (Term.field t C n d) u).value args Z none Z [] = some true) : Fld Z Z.heap a C n d (.ref b) := Fld.start ((fld_at ev).symm.trans (own_eq_ref eu h))
theorem own_rem6 (x : Int32) : ((x &&& (2147483647 : Int32)) - ((x &&& (2147483647 : Int32)) / (6 : Int32)) * (6 : Int32)) = (0 : Int32) ∨ ((x &&& (2147483647 : Int32)) - ((x &&& (2147483647 : Int32)) / (6 : Int32)) * (6 : Int32)) = (1 : Int32) ∨ ((x &&& (2147483647 : Int32)) - ((x &&& (2147483647 : Int32)) / (6 : Int32)) * (6 : Int32)) = (2 : Int32) ∨ ((x &&& (2147483647 : Int32)) - ((x &&& (2147483647 : Int32)) / (6 : Int32)) * (6 : Int32)) = (3 : Int32) ∨ ((x &&& (2147483647 : Int32)) - ((x &&& (2147483647 : Int32)) / (6 : Int32)) * (6 : Int32)) = (4 : Int32) ∨ ((x &&& (2147483647 : Int32)) - ((x &&& (2147483647 : Int32)) / (6 : Int32)) * (6 : Int32)) = (5 : Int32) := by
  have h0 := c_and x (2147483647 : Int32) (by decide)
  generalize (x &&& (2147483647 : Int32)) = k at h0 ⊢
  have h1 := (c_idiv k (6 : Int32) 6 (by decide) (by decide)).1 h0.1
  have h2 := c_imul (k / (6 : Int32)) (6 : Int32)
  have h3 := c_isub k (k / (6 : Int32) * (6 : Int32))
  have r1 := rng32 (k / (6 : Int32) * (6 : Int32)); have r2 := rng32 (k - k / (6 : Int32) * (6 : Int32)); have r3 := rng32 k
  rw [h1, show ((6 : Int32)).toInt = 6 from rfl] at h2
  have e : (k - k / (6 : Int32) * (6 : Int32)).toInt = 0 ∨ (k - k / (6 : Int32) * (6 : Int32)).toInt = 1 ∨ (k - k / (6 : Int32) * (6 : Int32)).toInt = 2 ∨ (k - k / (6 : Int32) * (6 : Int32)).toInt = 3 ∨ (k - k / (6 : Int32) * (6 : Int32)).toInt = 4 ∨ (k - k / (6 : Int32) * (6 : Int32)).toInt = 5 := by omega
  simp only [← Int32.toInt_inj]
  exact e
theorem own_idx (p : Int32) (h1 : ¬ p < (-128 : Int32)) (h2 : ¬ (127 : Int32) < p) : ¬ ((p + (128 : Int32)) < 0 ∨ 256 ≤ (p + (128 : Int32)).toNatClampNeg) := by
  rw [Int32.lt_iff_toInt_lt] at h1 h2 ⊢
  have e1 : (-128 : Int32).toInt = -128 := rfl
  have e2 : (127 : Int32).toInt = 127 := rfl
  have e3 : (128 : Int32).toInt = 128 := rfl
  have e4 : (0 : Int32).toInt = 0 := rfl
  have a := c_iadd p (128 : Int32)
  have r := rng32 (p + (128 : Int32))
  have q : (p + (128 : Int32)).toNatClampNeg = (p + (128 : Int32)).toInt.toNat := rfl
  omega
theorem own_idx_lt {j : Int32} (h : ¬ (j < 0 ∨ 256 ≤ j.toNatClampNeg)) : j.toNatClampNeg < 256 := by omega
theorem own_len256 {args : Array Value} {Z : State} {t : Term} {a : Addr} {cl : Cell} (ht : t.eval args Z none [] Z = some (.ref a)) (hc : Z.arrayAt? a = some cl) (h : (Term.length t).eval args Z none [] Z = some (.int (256 : Int32))) : cl.slots.size = 256 := by
  by_cases hl : cl.slots.size < 2 ^ 31
  · rw [len_f ht hc hl] at h
    have e : cl.slots.size.toInt32 = (256 : Int32) := by simpa using h
    have e2 := congrArg Int32.toInt e
    rw [len_toInt hl] at e2
    have e3 : (256 : Int32).toInt = 256 := rfl
    omega
  · simp [Term.eval, ht, hc, hl] at h
theorem own_elem {args : Array Value} {Z : State} {t : Term} {a : Addr} {cl : Cell} {i : Nat} {v : Value} (ht : t.eval args Z none [i] Z = some (.ref a)) (hc : Z.arrayAt? a = some cl) (h : (Term.elem t (Term.index 0)).eval args Z none [i] Z = some v) (hi : i < 256) : cl.slots[i]? = some v := by
  have hj : (Term.index 0).eval args Z none [i] Z = some (.int i.toInt32) := Term.index_eval _
  have q := elem_f (o := none) (first := Z) (idx := [i]) (ht : t.eval args Z none [i] Z = some (.ref a)) hj hc (by
    rw [Int32.lt_iff_toInt_lt, len_toInt (by omega)]; show ¬ ((i : Int) < 0); omega)
  rw [h] at q
  have e : i.toInt32.toNatClampNeg = i := by show i.toInt32.toInt.toNat = i; rw [len_toInt (by omega)]; rfl
  rw [e] at q
  exact q.symm
theorem own_ns_root {Z : State} {a0 : Array Value} {O K : String} {n : Nat} (w : (Jvm.Cond.noSuperclass O).before a0 Z = true) (wi : (Jvm.Cond.instantiable K n).before a0 Z = true) (hn : O ≠ K) : NS Z O K := by
  obtain ⟨c, k, h1, h2, h3, -, -⟩ := Cond.noSuperclass_spec w
  obtain ⟨t, kt, g1, -⟩ := Cond.instantiable_spec wi
  have ne := ids_ne h1 g1 hn
  refine ⟨c, t, h1, g1, fun fuel => ?_⟩
  cases fuel with
  | zero => rfl
  | succ f => simp [Vm.isSubclassAux, ne, h2, h3]
theorem own_ns_no {Z : State} {a0 : Array Value} {C S K : String} {n : Nat} (w : (Jvm.Cond.superclass C S).before a0 Z = true) (wi : (Jvm.Cond.instantiable K n).before a0 Z = true) (ns : NS Z C K) (hn : C ≠ K) : ∃ c t, Z.vm.findClass C = some c ∧ Z.vm.findClass K = some t ∧ Z.vm.assignable c t = false := by
  obtain ⟨c, t, h0, g0, n3⟩ := ns
  obtain ⟨p, k, kp, h1, h2, h3, h4, h5, -, h7⟩ := Cond.superclass_spec h0 w
  obtain ⟨t', kt, g1, g2, g3, g4, -⟩ := Cond.instantiable_spec wi
  cases g0.symm.trans g1
  have ne := ids_ne h0 g0 hn
  have hi : kt.isInterface = false := (Bool.or_eq_false_iff.mp g4).1
  refine ⟨c, t, h0, g0, ?_⟩
  show Z.vm.assignableAux (255 + 1) c t = false
  simp [Vm.assignableAux, ne, h2, g2, h5, g3, hi, Vm.isSubclass, n3]
theorem own_no_0 {Z : State} {a0 : Array Value} (hw : ∀ d ∈ tables_1, d.before a0 Z = true) : ∃ c t, Z.vm.findClass "java/lang/String" = some c ∧ Z.vm.findClass "com/example/gatemark/gatemark/model/AttributeValue$Unread" = some t ∧ Z.vm.assignable c t = false := own_ns_no (hw _ (List.mem_of_getElem? (i := 75) rfl)) (hw _ (List.mem_of_getElem? (i := 44) rfl)) (NS.step (hw _ (List.mem_of_getElem? (i := 75) rfl)) (own_ns_root (hw _ (List.mem_of_getElem? (i := 76) rfl)) (hw _ (List.mem_of_getElem? (i := 44) rfl)) (by decide)) (by decide)) (by decide)
theorem own_no_1 {Z : State} {a0 : Array Value} (hw : ∀ d ∈ tables_1, d.before a0 Z = true) : ∃ c t, Z.vm.findClass "com/example/gatemark/gatemark/model/AttributeValue" = some c ∧ Z.vm.findClass "com/example/gatemark/gatemark/model/AttributeValue$Unread" = some t ∧ Z.vm.assignable c t = false := own_ns_no (hw _ (List.mem_of_getElem? (i := 79) rfl)) (hw _ (List.mem_of_getElem? (i := 44) rfl)) (NS.step (hw _ (List.mem_of_getElem? (i := 79) rfl)) (NS.step (hw _ (List.mem_of_getElem? (i := 80) rfl)) (own_ns_root (hw _ (List.mem_of_getElem? (i := 76) rfl)) (hw _ (List.mem_of_getElem? (i := 44) rfl)) (by decide)) (by decide)) (by decide)) (by decide)
theorem own_no_2 {Z : State} {a0 : Array Value} (hw : ∀ d ∈ tables_1, d.before a0 Z = true) : ∃ c t, Z.vm.findClass "java/lang/Integer" = some c ∧ Z.vm.findClass "com/example/gatemark/gatemark/model/AttributeValue$Unread" = some t ∧ Z.vm.assignable c t = false := own_ns_no (hw _ (List.mem_of_getElem? (i := 98) rfl)) (hw _ (List.mem_of_getElem? (i := 44) rfl)) (NS.step (hw _ (List.mem_of_getElem? (i := 98) rfl)) (NS.step (hw _ (List.mem_of_getElem? (i := 99) rfl)) (own_ns_root (hw _ (List.mem_of_getElem? (i := 76) rfl)) (hw _ (List.mem_of_getElem? (i := 44) rfl)) (by decide)) (by decide)) (by decide)) (by decide)
theorem own_words : ∀ d ∈ StrChars.Road.words, d ∈ tables_1 := by decide +kernel
theorem pd_0 : parseMethodDescriptor "()V" = some ⟨[], none⟩ := by decide +kernel
theorem pd_1 : parseMethodDescriptor "(Ljava/lang/String;Ljava/lang/String;)V" = some ⟨[(.object "java/lang/String"), (.object "java/lang/String")], none⟩ := by decide +kernel
theorem pd_2 : parseMethodDescriptor "(Lcom/example/gatemark/gatemark/model/DataType;Ljava/lang/Object;)V" = some ⟨[(.object "com/example/gatemark/gatemark/model/DataType"), (.object "java/lang/Object")], none⟩ := by decide +kernel
theorem pd_3 : parseMethodDescriptor "(I)V" = some ⟨[.int], none⟩ := by decide +kernel
theorem pd_4 : parseMethodDescriptor "(I)Lcom/example/gatemark/gatemark/model/DataType;" = some ⟨[.int], some (.object "com/example/gatemark/gatemark/model/DataType")⟩ := by decide +kernel
theorem pd_5 : parseMethodDescriptor "([C)V" = some ⟨[(.array .char)], none⟩ := by decide +kernel
theorem pd_6 : parseMethodDescriptor "(Lcom/example/gatemark/gatemark/model/DataType;Ljava/lang/String;Ljava/lang/String;)Lcom/example/gatemark/gatemark/model/AttributeValue;" = some ⟨[(.object "com/example/gatemark/gatemark/model/DataType"), (.object "java/lang/String"), (.object "java/lang/String")], some (.object "com/example/gatemark/gatemark/model/AttributeValue")⟩ := by decide +kernel
theorem pd_7 : parseMethodDescriptor "()Z" = some ⟨[], some .boolean⟩ := by decide +kernel
theorem pd_8 : parseMethodDescriptor "(I)Ljava/lang/Integer;" = some ⟨[.int], some (.object "java/lang/Integer")⟩ := by decide +kernel
theorem pd_9 : parseMethodDescriptor "()Ljava/lang/Object;" = some ⟨[], some (.object "java/lang/Object")⟩ := by decide +kernel
theorem d0_0 : decode jdk_30_method_1_code 0 = .ok (.aload_n 0, 1) := by decide +kernel
theorem d0_1 : decode jdk_30_method_1_code 1 = .ok (.invokespecial 1, 3) := by decide +kernel
theorem d0_4 : decode jdk_30_method_1_code 4 = .ok (.return_, 1) := by decide +kernel
theorem pn_rec : plainName "java/lang/Record" = true := by first | (simp [plainName, overriddenIn]; done) | decide +kernel
theorem ef_rec (m : MethodId) (x0 : Addr)  : entryFrame m #[(.ref x0)] 1 = mkF m 0 #[.val (.ref x0)] [] := by first | (simp [entryFrame, mkF, argsToLocals, Value.category]; done) | rfl
def Qrec (Z : State) (a1 : Addr) (h0 : Heap) (n0 : Nat) (v : Option Value) (h : Heap) (L : List Loc) : Prop := v = none ∧ Fr n0 L ∧ h = h0
set_option maxRecDepth 65536 in
set_option maxHeartbeats 40000000 in
theorem rmrec (l : Launch) (Z : State) (a0 : Array Value) (hw : ∀ d ∈ tables_1, d.before a0 Z = true) (ws : List Jvm.Cond) (a1 : Addr) (h0 : Heap) (n0 : Nat) (Z0 : n0 ≤ h0.size)  :
    MetFree l (⟨"java/lang/Record", "<init>", "()V"⟩ : MethodName) (head1 (Jvm.Cond.code (⟨"java/lang/Record", "<init>", "()V"⟩ : MethodName) jdk_30_method_1_code 1 none :: ws) ({ frames := 1, cells := 0, slots := 0, locals := 12 } : Room)) (fun a U => a = #[(.ref a1)] ∧ Z.Warmed39 U.vm ∧ U.heap = h0) (fun _ _ _ _ _ => True) (fun _ U o U' => ∃ v L, o = .returned v ∧ Qrec Z a1 h0 n0 v U'.heap L ∧ FrameEnd U o U' L ({ frames := 1, cells := 0, slots := 0, locals := 12 } : Room).cells ({ frames := 1, cells := 0, slots := 0, locals := 12 } : Room).slots) := by
  refine MetFree.of_bodySF (plainFor_of_name pn_rec) hisR ?_
  intro p e s m args below meth c s₁ Bd hml0 hP hK
  obtain ⟨rfl, hZ, hh⟩ := hP
  have hx := Bd.exec
  have hby := Bd.bytes
  have hml : c.maxLocals = 1 := hml0
  have hown : s.vm.findClass "java/lang/Record" = some m.cls := findClass_of_methodNamed Bd.named
  have hnm := (name_of_methodNamed Bd.named Bd.method).1
  have hlk : meth.locks = false := BodyLoose.notSynchronized Bd
  have X0 : Stand p l e ({ frames := 1, cells := 0, slots := 0, locals := 12 } : Room) s m #[(.ref a1)] below meth c s₁ [] 0 0 := Stand.of_body Bd
  have e0 : s₁.heap = h0 := by rw [← hh, Bd.state]; rfl
  have N0 := Fr.nil n0
  obtain ⟨G, hG⟩ : ∃ G : Outcome → State → Prop, G = fun o u => ∃ v L, o = .returned v ∧ Qrec Z a1 h0 n0 v u.heap L ∧ FrameEnd s o u L ({ frames := 1, cells := 0, slots := 0, locals := 12 } : Room).cells ({ frames := 1, cells := 0, slots := 0, locals := 12 } : Room).slots := ⟨_, rfl⟩
  suffices hgo : Owe p.tables e below G s₁ (mkF m 0 #[.val (.ref a1)] []) by
    obtain ⟨u, o, h1, h2, h3, h4⟩ := hgo
    exact ⟨u, o, castTop (ef_rec m a1) h1, h2, h3, by rw [hG] at h4; exact h4⟩
  refine Owe.aloadN X0.here hx (hb hby d0_0) rfl rfl ?_
  refine Owe.objinit X0 hx hZ hown (hw _ (List.mem_of_getElem? (i := 54) rfl)) (hw _ (List.mem_of_getElem? (i := 19) rfl)) (hw _ (List.mem_of_getElem? (i := 20) rfl)) e0 (by rw [hml]; rfl) rfl (hb hby d0_1) (by decide) (W := 0) (Nat.le_of_ble_eq_true rfl) (by decide) fun T1 X1 e1 => ?_
  refine Owe.ret0 X1 hx hlk Bd.returns (hb hby d0_4) rfl fun fs hE => ?_
  rw [hG]
  refine ⟨_, _, rfl, ?_, frameMono hE (by decide) (by decide)⟩
  show Qrec Z a1 h0 n0 _ T1.heap _
  rw [e1]
  exact ⟨rfl, N0, rfl⟩
theorem d1_0 : decode method_2_code 0 = .ok (.iload_n 0, 1) := by decide +kernel
theorem d1_1 : decode method_2_code 1 = .ok (.iconst 3, 1) := by decide +kernel
theorem d1_2 : decode method_2_code 2 = .ok (.iand, 1) := by decide +kernel
theorem d1_3 : decode method_2_code 3 = .ok (.istore_n 1, 1) := by decide +kernel
theorem d1_4 : decode method_2_code 4 = .ok (.iload_n 1, 1) := by decide +kernel
theorem d1_5 : decode method_2_code 5 = .ok (.ifCond .ne 7, 3) := by decide +kernel
theorem d1_8 : decode method_2_code 8 = .ok (.getstatic 7, 3) := by decide +kernel
theorem d1_11 : decode method_2_code 11 = .ok (.areturn, 1) := by decide +kernel
theorem d1_12 : decode method_2_code 12 = .ok (.iload_n 1, 1) := by decide +kernel
theorem d1_13 : decode method_2_code 13 = .ok (.iconst 1, 1) := by decide +kernel
theorem d1_14 : decode method_2_code 14 = .ok (.if_icmp .ne 7, 3) := by decide +kernel
theorem d1_17 : decode method_2_code 17 = .ok (.getstatic 13, 3) := by decide +kernel
theorem d1_20 : decode method_2_code 20 = .ok (.areturn, 1) := by decide +kernel
theorem d1_21 : decode method_2_code 21 = .ok (.iload_n 1, 1) := by decide +kernel
theorem d1_22 : decode method_2_code 22 = .ok (.iconst 2, 1) := by decide +kernel
theorem d1_23 : decode method_2_code 23 = .ok (.if_icmp .ne 7, 3) := by decide +kernel
theorem d1_26 : decode method_2_code 26 = .ok (.getstatic 16, 3) := by decide +kernel
theorem d1_29 : decode method_2_code 29 = .ok (.areturn, 1) := by decide +kernel
theorem d1_30 : decode method_2_code 30 = .ok (.getstatic 19, 3) := by decide +kernel
theorem d1_33 : decode method_2_code 33 = .ok (.areturn, 1) := by decide +kernel
theorem pn_pic : plainName "com/example/gatemark/gatemark/model/AttributeValueIsReadPinLaw" = true := by first | (simp [plainName, overriddenIn]; done) | decide +kernel
theorem ef_pic (m : MethodId) (x0 : Int32)  : entryFrame m #[(.int x0)] 2 = mkF m 0 #[.val (.int x0), .unset] [] := by first | (simp [entryFrame, mkF, argsToLocals, Value.category]; done) | rfl
def Qpic (Z : State) (p1 : Int32) (d0 : Addr) (d1 : Addr) (d2 : Addr) (d3 : Addr) (h0 : Heap) (n0 : Nat) (v : Option Value) (h : Heap) (L : List Loc) : Prop := ∃ (x1 : Addr), v = some (.ref x1) ∧ Fr n0 L ∧ h = h0
set_option maxRecDepth 65536 in
set_option maxHeartbeats 40000000 in
theorem rmpic (l : Launch) (Z : State) (a0 : Array Value) (hw : ∀ d ∈ tables_1, d.before a0 Z = true) (ws : List Jvm.Cond) (p1 : Int32) (d0 : Addr) (d1 : Addr) (d2 : Addr) (d3 : Addr) (h0 : Heap) (n0 : Nat) (Z0 : n0 ≤ h0.size) (S_INTEGER : Sta Z Z.heap "com/example/gatemark/gatemark/model/DataType" "INTEGER" "Lcom/example/gatemark/gatemark/model/DataType;" (.ref d1)) (S_XPATH_EXPRESSION : Sta Z Z.heap "com/example/gatemark/gatemark/model/DataType" "XPATH_EXPRESSION" "Lcom/example/gatemark/gatemark/model/DataType;" (.ref d3)) (S_STRING : Sta Z Z.heap "com/example/gatemark/gatemark/model/DataType" "STRING" "Lcom/example/gatemark/gatemark/model/DataType;" (.ref d0)) (S_DOUBLE : Sta Z Z.heap "com/example/gatemark/gatemark/model/DataType" "DOUBLE" "Lcom/example/gatemark/gatemark/model/DataType;" (.ref d2)) (Ol : Old Z n0 h0) :
    MetFree l (⟨"com/example/gatemark/gatemark/model/AttributeValueIsReadPinLaw", "pickType", "(I)Lcom/example/gatemark/gatemark/model/DataType;"⟩ : MethodName) (head1 (Jvm.Cond.code (⟨"com/example/gatemark/gatemark/model/AttributeValueIsReadPinLaw", "pickType", "(I)Lcom/example/gatemark/gatemark/model/DataType;"⟩ : MethodName) method_2_code 2 (some (.object "com/example/gatemark/gatemark/model/DataType")) :: ws) ({ frames := 0, cells := 0, slots := 0, locals := 0 } : Room)) (fun a U => a = #[(.int p1)] ∧ Z.Warmed39 U.vm ∧ U.heap = h0) (fun _ _ _ _ _ => True) (fun _ U o U' => ∃ v L, o = .returned v ∧ Qpic Z p1 d0 d1 d2 d3 h0 n0 v U'.heap L ∧ FrameEnd U o U' L ({ frames := 0, cells := 0, slots := 0, locals := 0 } : Room).cells ({ frames := 0, cells := 0, slots := 0, locals := 0 } : Room).slots) := by
  refine MetFree.of_bodySF (plainFor_of_name pn_pic) hisR ?_
  intro p e s m args below meth c s₁ Bd hml0 hP hK
  obtain ⟨rfl, hZ, hh⟩ := hP
  have hx := Bd.exec
  have hby := Bd.bytes
  have hml : c.maxLocals = 2 := hml0
  have hown : s.vm.findClass "com/example/gatemark/gatemark/model/AttributeValueIsReadPinLaw" = some m.cls := findClass_of_methodNamed Bd.named
  have hnm := (name_of_methodNamed Bd.named Bd.method).1
  have hlk : meth.locks = false := BodyLoose.notSynchronized Bd
  have X0 : Stand p l e ({ frames := 0, cells := 0, slots := 0, locals := 0 } : Room) s m #[(.int p1)] below meth c s₁ [] 0 0 := Stand.of_body Bd
  have e0 : s₁.heap = h0 := by rw [← hh, Bd.state]; rfl
  have N0 := Fr.nil n0
  obtain ⟨G, hG⟩ : ∃ G : Outcome → State → Prop, G = fun o u => ∃ v L, o = .returned v ∧ Qpic Z p1 d0 d1 d2 d3 h0 n0 v u.heap L ∧ FrameEnd s o u L ({ frames := 0, cells := 0, slots := 0, locals := 0 } : Room).cells ({ frames := 0, cells := 0, slots := 0, locals := 0 } : Room).slots := ⟨_, rfl⟩
  suffices hgo : Owe p.tables e below G s₁ (mkF m 0 #[.val (.int p1), .unset] []) by
    obtain ⟨u, o, h1, h2, h3, h4⟩ := hgo
    exact ⟨u, o, castTop (ef_pic m p1) h1, h2, h3, by rw [hG] at h4; exact h4⟩
  refine Owe.iloadN X0.here hx (hb hby d1_0) rfl ?_
  refine Owe.iconst X0.here hx (hb hby d1_1) (w := (3 : Int32)) rfl ?_
  refine Owe.iand X0.here hx (hb hby d1_2) rfl ?_
  refine Owe.istoreN X0.here hx (hb hby d1_3) rfl (l' := #[.val (.int p1), .val (.int (p1 &&& (3 : Int32)))]) rfl ?_
  refine Owe.iloadN X0.here hx (hb hby d1_4) rfl ?_
  by_cases hc5_2 : (p1 &&& (3 : Int32)) = (0 : Int32)
  · skip
    refine Owe.ifNo X0.here hx (hb hby d1_5) rfl ((if0 _ _).trans (teq hc5_2).2) ?_
    refine Owe.gets X0 hx hZ hown (hw _ (List.mem_of_getElem? (i := 81) rfl)) Via.refl e0 (S_STRING.ext Ol.2) (hb hby d1_8) fun T3 X3 e3 => ?_
    refine Owe.retR X3 hx hlk (t := (.object "com/example/gatemark/gatemark/model/DataType")) Bd.returns rfl rfl rfl (hb hby d1_11) rfl fun fs hE => ?_
    rw [hG]
    refine ⟨_, _, rfl, ?_, frameMono hE (by decide) (by decide)⟩
    show Qpic Z p1 d0 d1 d2 d3 h0 n0 _ T3.heap _
    rw [e3]
    exact ⟨d0, rfl, N0, rfl⟩
  · skip
    refine Owe.ifYes X0.here hx (hb hby d1_5) rfl ((if0 _ _).trans (feq hc5_2).2) (pc' := 12) (by decide) (by decide) ?_
    refine Owe.iloadN X0.here hx (hb hby d1_12) rfl ?_
    refine Owe.iconst X0.here hx (hb hby d1_13) (w := (1 : Int32)) rfl ?_
    by_cases hc14_4 : (p1 &&& (3 : Int32)) = (1 : Int32)
    · skip
      refine Owe.icmpNo X0.here hx (hb hby d1_14) rfl (teq hc14_4).2 ?_
      refine Owe.gets X0 hx hZ hown (hw _ (List.mem_of_getElem? (i := 4) rfl)) Via.refl e0 (S_INTEGER.ext Ol.2) (hb hby d1_17) fun T5 X5 e5 => ?_
      refine Owe.retR X5 hx hlk (t := (.object "com/example/gatemark/gatemark/model/DataType")) Bd.returns rfl rfl rfl (hb hby d1_20) rfl fun fs hE => ?_
      rw [hG]
      refine ⟨_, _, rfl, ?_, frameMono hE (by decide) (by decide)⟩
      show Qpic Z p1 d0 d1 d2 d3 h0 n0 _ T5.heap _
      rw [e5]
      exact ⟨d1, rfl, N0, rfl⟩
    · skip
      refine Owe.icmpYes X0.here hx (hb hby d1_14) rfl (feq hc14_4).2 (pc' := 21) (by decide) (by decide) ?_
      refine Owe.iloadN X0.here hx (hb hby d1_21) rfl ?_
      refine Owe.iconst X0.here hx (hb hby d1_22) (w := (2 : Int32)) rfl ?_
      by_cases hc23_6 : (p1 &&& (3 : Int32)) = (2 : Int32)
      · skip
        refine Owe.icmpNo X0.here hx (hb hby d1_23) rfl (teq hc23_6).2 ?_
        refine Owe.gets X0 hx hZ hown (hw _ (List.mem_of_getElem? (i := 89) rfl)) Via.refl e0 (S_DOUBLE.ext Ol.2) (hb hby d1_26) fun T7 X7 e7 => ?_
        refine Owe.retR X7 hx hlk (t := (.object "com/example/gatemark/gatemark/model/DataType")) Bd.returns rfl rfl rfl (hb hby d1_29) rfl fun fs hE => ?_
        rw [hG]
        refine ⟨_, _, rfl, ?_, frameMono hE (by decide) (by decide)⟩
        show Qpic Z p1 d0 d1 d2 d3 h0 n0 _ T7.heap _
        rw [e7]
        exact ⟨d2, rfl, N0, rfl⟩
      · skip
        refine Owe.icmpYes X0.here hx (hb hby d1_23) rfl (feq hc23_6).2 (pc' := 30) (by decide) (by decide) ?_
        refine Owe.gets X0 hx hZ hown (hw _ (List.mem_of_getElem? (i := 77) rfl)) Via.refl e0 (S_XPATH_EXPRESSION.ext Ol.2) (hb hby d1_30) fun T8 X8 e8 => ?_
        refine Owe.retR X8 hx hlk (t := (.object "com/example/gatemark/gatemark/model/DataType")) Bd.returns rfl rfl rfl (hb hby d1_33) rfl fun fs hE => ?_
        rw [hG]
        refine ⟨_, _, rfl, ?_, frameMono hE (by decide) (by decide)⟩
        show Qpic Z p1 d0 d1 d2 d3 h0 n0 _ T8.heap _
        rw [e8]
        exact ⟨d3, rfl, N0, rfl⟩
theorem d2_0 : decode prog_182_method_1_code 0 = .ok (.aload_n 0, 1) := by decide +kernel
theorem d2_1 : decode prog_182_method_1_code 1 = .ok (.invokespecial 1, 3) := by decide +kernel
theorem d2_4 : decode prog_182_method_1_code 4 = .ok (.aload_n 0, 1) := by decide +kernel
theorem d2_5 : decode prog_182_method_1_code 5 = .ok (.aload_n 1, 1) := by decide +kernel
theorem d2_6 : decode prog_182_method_1_code 6 = .ok (.putfield 7, 3) := by decide +kernel
theorem d2_9 : decode prog_182_method_1_code 9 = .ok (.aload_n 0, 1) := by decide +kernel
theorem d2_10 : decode prog_182_method_1_code 10 = .ok (.aload_n 2, 1) := by decide +kernel
theorem d2_11 : decode prog_182_method_1_code 11 = .ok (.putfield 13, 3) := by decide +kernel
theorem d2_14 : decode prog_182_method_1_code 14 = .ok (.return_, 1) := by decide +kernel
theorem pn_unr : plainName "com/example/gatemark/gatemark/model/AttributeValue$Unread" = true := by first | (simp [plainName, overriddenIn]; done) | decide +kernel
theorem ef_unr (m : MethodId) (x0 : Addr) (x1 : Addr) (x2 : Addr)  : entryFrame m #[(.ref x0), (.ref x1), (.ref x2)] 3 = mkF m 0 #[.val (.ref x0), .val (.ref x1), .val (.ref x2)] [] := by first | (simp [entryFrame, mkF, argsToLocals, Value.category]; done) | rfl
def Qunr (Z : State) (a1 : Addr) (a2 : Addr) (a3 : Addr) (u_t : Value) (u_r : Value) (h0 : Heap) (n0 : Nat) (v : Option Value) (h : Heap) (L : List Loc) : Prop := v = none ∧ Fr n0 L ∧ Keep h0 h [a1] ∧ Exa Z h a1 "com/example/gatemark/gatemark/model/AttributeValue$Unread"
set_option maxRecDepth 65536 in
set_option maxHeartbeats 40000000 in
theorem rmunr (l : Launch) (Z : State) (a0 : Array Value) (hw : ∀ d ∈ tables_1, d.before a0 Z = true) (ws : List Jvm.Cond) (a1 : Addr) (a2 : Addr) (a3 : Addr) (u_t : Value) (u_r : Value) (h0 : Heap) (n0 : Nat) (Z0 : n0 ≤ h0.size) (E_a1 : Exa Z h0 a1 "com/example/gatemark/gatemark/model/AttributeValue$Unread") (Ftext_a1 : Fld Z h0 a1 "com/example/gatemark/gatemark/model/AttributeValue$Unread" "text" "Ljava/lang/String;" u_t) (Freason_a1 : Fld Z h0 a1 "com/example/gatemark/gatemark/model/AttributeValue$Unread" "reason" "Ljava/lang/String;" u_r) (ge_a1 : n0 ≤ a1) :
    MetFree l (⟨"com/example/gatemark/gatemark/model/AttributeValue$Unread", "<init>", "(Ljava/lang/String;Ljava/lang/String;)V"⟩ : MethodName) (head1 (Jvm.Cond.code (⟨"com/example/gatemark/gatemark/model/AttributeValue$Unread", "<init>", "(Ljava/lang/String;Ljava/lang/String;)V"⟩ : MethodName) prog_182_method_1_code 3 none :: ws) ({ frames := 2, cells := 0, slots := 0, locals := 24 } : Room)) (fun a U => a = #[(.ref a1), (.ref a2), (.ref a3)] ∧ Z.Warmed39 U.vm ∧ U.heap = h0) (fun _ _ _ _ _ => True) (fun _ U o U' => ∃ v L, o = .returned v ∧ Qunr Z a1 a2 a3 u_t u_r h0 n0 v U'.heap L ∧ FrameEnd U o U' L ({ frames := 2, cells := 0, slots := 0, locals := 24 } : Room).cells ({ frames := 2, cells := 0, slots := 0, locals := 24 } : Room).slots) := by
  refine MetFree.of_bodySF (plainFor_of_name pn_unr) hisR ?_
  intro p e s m args below meth c s₁ Bd hml0 hP hK
  obtain ⟨rfl, hZ, hh⟩ := hP
  have hx := Bd.exec
  have hby := Bd.bytes
  have hml : c.maxLocals = 3 := hml0
  have hown : s.vm.findClass "com/example/gatemark/gatemark/model/AttributeValue$Unread" = some m.cls := findClass_of_methodNamed Bd.named
  have hnm := (name_of_methodNamed Bd.named Bd.method).1
  have hlk : meth.locks = false := BodyLoose.notSynchronized Bd
  have X0 : Stand p l e ({ frames := 2, cells := 0, slots := 0, locals := 24 } : Room) s m #[(.ref a1), (.ref a2), (.ref a3)] below meth c s₁ [] 0 0 := Stand.of_body Bd
  have e0 : s₁.heap = h0 := by rw [← hh, Bd.state]; rfl
  have N0 := Fr.nil n0
  have K0 := Keep.refl h0 [a1]
  obtain ⟨G, hG⟩ : ∃ G : Outcome → State → Prop, G = fun o u => ∃ v L, o = .returned v ∧ Qunr Z a1 a2 a3 u_t u_r h0 n0 v u.heap L ∧ FrameEnd s o u L ({ frames := 2, cells := 0, slots := 0, locals := 24 } : Room).cells ({ frames := 2, cells := 0, slots := 0, locals := 24 } : Room).slots := ⟨_, rfl⟩
  suffices hgo : Owe p.tables e below G s₁ (mkF m 0 #[.val (.ref a1), .val (.ref a2), .val (.ref a3)] []) by
    obtain ⟨u, o, h1, h2, h3, h4⟩ := hgo
    exact ⟨u, o, castTop (ef_unr m a1 a2 a3) h1, h2, h3, by rw [hG] at h4; exact h4⟩
  refine Owe.aloadN X0.here hx (hb hby d2_0) rfl rfl ?_
  refine Owe.special X0 hx (y := (⟨"java/lang/Record", "<init>", "()V"⟩ : MethodName)) rfl hown (mvT hZ (hw _ (List.mem_of_getElem? (i := 49) rfl))) (mvT hZ (hw _ (List.mem_of_getElem? (i := 50) rfl))) (mvT hZ (hw _ (List.mem_of_getElem? (i := 53) rfl))) (by decide) (backOf (W := 0) (rmrec l Z a0 hw [] a1 h0 n0 Z0 ) hZ (hw _ (List.mem_of_getElem? (i := 53) rfl)) (hw _ (List.mem_of_getElem? (i := 52) rfl)) (by decide) (by decide)) (by rw [hml]; rfl) (a := a1) (argsL := []) (rest := []) (lenOf pd_0 rfl) rfl (Nat.le_of_ble_eq_true rfl) (hb hby d2_1) rfl e0 (by decide) (by decide) fun T9 v9 L9 X9 hQ9 => ?_
  obtain ⟨rfl, Nq9, e9⟩ := hQ9
  have N9 := Fr.app N0 Nq9
  refine Owe.aloadN X9.here hx (hb hby d2_4) rfl rfl ?_
  refine Owe.aloadN X9.here hx (hb hby d2_5) rfl rfl ?_
  refine Owe.putf X9 hx hZ (host := "") hown (Or.inl (hw _ (List.mem_of_getElem? (i := 55) rfl))) Via.refl e9 Ftext_a1 E_a1 (Or.inr ⟨(hw _ (List.mem_of_getElem? (i := 56) rfl)), rfl, hnm⟩) (hw _ (List.mem_of_getElem? (i := 44) rfl)) (ty := (.object "java/lang/String")) (by decide) rfl rfl (hb hby d2_6) rfl fun T10 h10 X10 e10 W10 => ?_
  have K_11 := K0.wr W10 (Or.inl (List.mem_of_getElem? (i := 0) rfl))
  have E_a1_12 := E_a1.wr W10
  have Ftext_a1_13 := Ftext_a1.same W10
  have Freason_a1_14 := Freason_a1.other W10 (Or.inr (slot_ne (Or.inr (hw _ (List.mem_of_getElem? (i := 58) rfl))) (Or.inr (hw _ (List.mem_of_getElem? (i := 56) rfl))) (by decide) (t := (.object "java/lang/String")) (t' := (.object "java/lang/String")) (by decide) (by decide)))
  have Z_15 := Nat.le_trans Z0 (Keep.of_wr W10).1
  have N10 := Fr.snoc X10 N9 ge_a1
  refine Owe.aloadN X10.here hx (hb hby d2_9) rfl rfl ?_
  refine Owe.aloadN X10.here hx (hb hby d2_10) rfl rfl ?_
  refine Owe.putf X10 hx hZ (host := "") hown (Or.inl (hw _ (List.mem_of_getElem? (i := 57) rfl))) Via.refl e10 Freason_a1_14 E_a1_12 (Or.inr ⟨(hw _ (List.mem_of_getElem? (i := 58) rfl)), rfl, hnm⟩) (hw _ (List.mem_of_getElem? (i := 44) rfl)) (ty := (.object "java/lang/String")) (by decide) rfl rfl (hb hby d2_11) rfl fun T16 h16 X16 e16 W16 => ?_
  have K_17 := K_11.wr W16 (Or.inl (List.mem_of_getElem? (i := 0) rfl))
  have E_a1_18 := E_a1_12.wr W16
  have Ftext_a1_19 := Ftext_a1_13.other W16 (Or.inr (slot_ne (Or.inr (hw _ (List.mem_of_getElem? (i := 56) rfl))) (Or.inr (hw _ (List.mem_of_getElem? (i := 58) rfl))) (by decide) (t := (.object "java/lang/String")) (t' := (.object "java/lang/String")) (by decide) (by decide)))
  have Freason_a1_20 := Freason_a1_14.same W16
  have Z_21 := Nat.le_trans Z_15 (Keep.of_wr W16).1
  have N16 := Fr.snoc X16 N10 ge_a1
  refine Owe.ret0 X16 hx hlk Bd.returns (hb hby d2_14) rfl fun fs hE => ?_
  rw [hG]
  refine ⟨_, _, rfl, ?_, frameMono hE (by decide) (by decide)⟩
  show Qunr Z a1 a2 a3 u_t u_r h0 n0 _ T16.heap _
  rw [e16]
  exact ⟨rfl, N16, K_17, E_a1_18⟩
theorem pn_unn : plainName "com/example/gatemark/gatemark/model/AttributeValue$Unread" = true := by first | (simp [plainName, overriddenIn]; done) | decide +kernel
theorem ef_unn (m : MethodId) (x0 : Addr) (x1 : Addr)  : entryFrame m #[(.ref x0), (.ref x1), .null] 3 = mkF m 0 #[.val (.ref x0), .val (.ref x1), .val .null] [] := by first | (simp [entryFrame, mkF, argsToLocals, Value.category]; done) | rfl
def Qunn (Z : State) (a1 : Addr) (a2 : Addr) (u_t : Value) (u_r : Value) (h0 : Heap) (n0 : Nat) (v : Option Value) (h : Heap) (L : List Loc) : Prop := v = none ∧ Fr n0 L ∧ Keep h0 h [a1] ∧ Exa Z h a1 "com/example/gatemark/gatemark/model/AttributeValue$Unread"
set_option maxRecDepth 65536 in
set_option maxHeartbeats 40000000 in
theorem rmunn (l : Launch) (Z : State) (a0 : Array Value) (hw : ∀ d ∈ tables_1, d.before a0 Z = true) (ws : List Jvm.Cond) (a1 : Addr) (a2 : Addr) (u_t : Value) (u_r : Value) (h0 : Heap) (n0 : Nat) (Z0 : n0 ≤ h0.size) (E_a1 : Exa Z h0 a1 "com/example/gatemark/gatemark/model/AttributeValue$Unread") (Ftext_a1 : Fld Z h0 a1 "com/example/gatemark/gatemark/model/AttributeValue$Unread" "text" "Ljava/lang/String;" u_t) (Freason_a1 : Fld Z h0 a1 "com/example/gatemark/gatemark/model/AttributeValue$Unread" "reason" "Ljava/lang/String;" u_r) (ge_a1 : n0 ≤ a1) :
    MetFree l (⟨"com/example/gatemark/gatemark/model/AttributeValue$Unread", "<init>", "(Ljava/lang/String;Ljava/lang/String;)V"⟩ : MethodName) (head1 (Jvm.Cond.code (⟨"com/example/gatemark/gatemark/model/AttributeValue$Unread", "<init>", "(Ljava/lang/String;Ljava/lang/String;)V"⟩ : MethodName) prog_182_method_1_code 3 none :: ws) ({ frames := 2, cells := 0, slots := 0, locals := 24 } : Room)) (fun a U => a = #[(.ref a1), (.ref a2), .null] ∧ Z.Warmed39 U.vm ∧ U.heap = h0) (fun _ _ _ _ _ => True) (fun _ U o U' => ∃ v L, o = .returned v ∧ Qunn Z a1 a2 u_t u_r h0 n0 v U'.heap L ∧ FrameEnd U o U' L ({ frames := 2, cells := 0, slots := 0, locals := 24 } : Room).cells ({ frames := 2, cells := 0, slots := 0, locals := 24 } : Room).slots) := by
  refine MetFree.of_bodySF (plainFor_of_name pn_unn) hisR ?_
  intro p e s m args below meth c s₁ Bd hml0 hP hK
  obtain ⟨rfl, hZ, hh⟩ := hP
  have hx := Bd.exec
  have hby := Bd.bytes
  have hml : c.maxLocals = 3 := hml0
  have hown : s.vm.findClass "com/example/gatemark/gatemark/model/AttributeValue$Unread" = some m.cls := findClass_of_methodNamed Bd.named
  have hnm := (name_of_methodNamed Bd.named Bd.method).1
  have hlk : meth.locks = false := BodyLoose.notSynchronized Bd
  have X0 : Stand p l e ({ frames := 2, cells := 0, slots := 0, locals := 24 } : Room) s m #[(.ref a1), (.ref a2), .null] below meth c s₁ [] 0 0 := Stand.of_body Bd
  have e0 : s₁.heap = h0 := by rw [← hh, Bd.state]; rfl
  have N0 := Fr.nil n0
  have K0 := Keep.refl h0 [a1]
  obtain ⟨G, hG⟩ : ∃ G : Outcome → State → Prop, G = fun o u => ∃ v L, o = .returned v ∧ Qunn Z a1 a2 u_t u_r h0 n0 v u.heap L ∧ FrameEnd s o u L ({ frames := 2, cells := 0, slots := 0, locals := 24 } : Room).cells ({ frames := 2, cells := 0, slots := 0, locals := 24 } : Room).slots := ⟨_, rfl⟩
  suffices hgo : Owe p.tables e below G s₁ (mkF m 0 #[.val (.ref a1), .val (.ref a2), .val .null] []) by
    obtain ⟨u, o, h1, h2, h3, h4⟩ := hgo
    exact ⟨u, o, castTop (ef_unn m a1 a2) h1, h2, h3, by rw [hG] at h4; exact h4⟩
  refine Owe.aloadN X0.here hx (hb hby d2_0) rfl rfl ?_
  refine Owe.special X0 hx (y := (⟨"java/lang/Record", "<init>", "()V"⟩ : MethodName)) rfl hown (mvT hZ (hw _ (List.mem_of_getElem? (i := 49) rfl))) (mvT hZ (hw _ (List.mem_of_getElem? (i := 50) rfl))) (mvT hZ (hw _ (List.mem_of_getElem? (i := 53) rfl))) (by decide) (backOf (W := 0) (rmrec l Z a0 hw [] a1 h0 n0 Z0 ) hZ (hw _ (List.mem_of_getElem? (i := 53) rfl)) (hw _ (List.mem_of_getElem? (i := 52) rfl)) (by decide) (by decide)) (by rw [hml]; rfl) (a := a1) (argsL := []) (rest := []) (lenOf pd_0 rfl) rfl (Nat.le_of_ble_eq_true rfl) (hb hby d2_1) rfl e0 (by decide) (by decide) fun T22 v22 L22 X22 hQ22 => ?_
  obtain ⟨rfl, Nq22, e22⟩ := hQ22
  have N22 := Fr.app N0 Nq22
  refine Owe.aloadN X22.here hx (hb hby d2_4) rfl rfl ?_
  refine Owe.aloadN X22.here hx (hb hby d2_5) rfl rfl ?_
  refine Owe.putf X22 hx hZ (host := "") hown (Or.inl (hw _ (List.mem_of_getElem? (i := 55) rfl))) Via.refl e22 Ftext_a1 E_a1 (Or.inr ⟨(hw _ (List.mem_of_getElem? (i := 56) rfl)), rfl, hnm⟩) (hw _ (List.mem_of_getElem? (i := 44) rfl)) (ty := (.object "java/lang/String")) (by decide) rfl rfl (hb hby d2_6) rfl fun T23 h23 X23 e23 W23 => ?_
  have K_24 := K0.wr W23 (Or.inl (List.mem_of_getElem? (i := 0) rfl))
  have E_a1_25 := E_a1.wr W23
  have Ftext_a1_26 := Ftext_a1.same W23
  have Freason_a1_27 := Freason_a1.other W23 (Or.inr (slot_ne (Or.inr (hw _ (List.mem_of_getElem? (i := 58) rfl))) (Or.inr (hw _ (List.mem_of_getElem? (i := 56) rfl))) (by decide) (t := (.object "java/lang/String")) (t' := (.object "java/lang/String")) (by decide) (by decide)))
  have Z_28 := Nat.le_trans Z0 (Keep.of_wr W23).1
  have N23 := Fr.snoc X23 N22 ge_a1
  refine Owe.aloadN X23.here hx (hb hby d2_9) rfl rfl ?_
  refine Owe.aloadN X23.here hx (hb hby d2_10) rfl rfl ?_
  refine Owe.putf X23 hx hZ (host := "") hown (Or.inl (hw _ (List.mem_of_getElem? (i := 57) rfl))) Via.refl e23 Freason_a1_27 E_a1_25 (Or.inr ⟨(hw _ (List.mem_of_getElem? (i := 58) rfl)), rfl, hnm⟩) (hw _ (List.mem_of_getElem? (i := 44) rfl)) (ty := (.object "java/lang/String")) (by decide) rfl rfl (hb hby d2_11) rfl fun T29 h29 X29 e29 W29 => ?_
  have K_30 := K_24.wr W29 (Or.inl (List.mem_of_getElem? (i := 0) rfl))
  have E_a1_31 := E_a1_25.wr W29
  have Ftext_a1_32 := Ftext_a1_26.other W29 (Or.inr (slot_ne (Or.inr (hw _ (List.mem_of_getElem? (i := 56) rfl))) (Or.inr (hw _ (List.mem_of_getElem? (i := 58) rfl))) (by decide) (t := (.object "java/lang/String")) (t' := (.object "java/lang/String")) (by decide) (by decide)))
  have Freason_a1_33 := Freason_a1_27.same W29
  have Z_34 := Nat.le_trans Z_28 (Keep.of_wr W29).1
  have N29 := Fr.snoc X29 N23 ge_a1
  refine Owe.ret0 X29 hx hlk Bd.returns (hb hby d2_14) rfl fun fs hE => ?_
  rw [hG]
  refine ⟨_, _, rfl, ?_, frameMono hE (by decide) (by decide)⟩
  show Qunn Z a1 a2 u_t u_r h0 n0 _ T29.heap _
  rw [e29]
  exact ⟨rfl, N29, K_30, E_a1_31⟩
theorem d3_0 : decode prog_181_method_1_code 0 = .ok (.aload_n 0, 1) := by decide +kernel
theorem d3_1 : decode prog_181_method_1_code 1 = .ok (.invokespecial 1, 3) := by decide +kernel
theorem d3_4 : decode prog_181_method_1_code 4 = .ok (.aload_n 0, 1) := by decide +kernel
theorem d3_5 : decode prog_181_method_1_code 5 = .ok (.aload_n 1, 1) := by decide +kernel
theorem d3_6 : decode prog_181_method_1_code 6 = .ok (.putfield 7, 3) := by decide +kernel
theorem d3_9 : decode prog_181_method_1_code 9 = .ok (.aload_n 0, 1) := by decide +kernel
theorem d3_10 : decode prog_181_method_1_code 10 = .ok (.aload_n 2, 1) := by decide +kernel
theorem d3_11 : decode prog_181_method_1_code 11 = .ok (.putfield 13, 3) := by decide +kernel
theorem d3_14 : decode prog_181_method_1_code 14 = .ok (.return_, 1) := by decide +kernel
theorem pn_avr : plainName "com/example/gatemark/gatemark/model/AttributeValue" = true := by first | (simp [plainName, overriddenIn]; done) | decide +kernel
theorem ef_avr (m : MethodId) (x0 : Addr) (x1 : Addr) (x2 : Addr)  : entryFrame m #[(.ref x0), (.ref x1), (.ref x2)] 3 = mkF m 0 #[.val (.ref x0), .val (.ref x1), .val (.ref x2)] [] := by first | (simp [entryFrame, mkF, argsToLocals, Value.category]; done) | rfl
def Qavr (Z : State) (a1 : Addr) (a2 : Addr) (a3 : Addr) (u_t : Value) (u_v : Value) (h0 : Heap) (n0 : Nat) (v : Option Value) (h : Heap) (L : List Loc) : Prop := v = none ∧ Fr n0 L ∧ Keep h0 h [a1] ∧ Exa Z h a1 "com/example/gatemark/gatemark/model/AttributeValue" ∧ Fld Z h a1 "com/example/gatemark/gatemark/model/AttributeValue" "value" "Ljava/lang/Object;" (.ref a3)
set_option maxRecDepth 65536 in
set_option maxHeartbeats 40000000 in
theorem rmavr (l : Launch) (Z : State) (a0 : Array Value) (hw : ∀ d ∈ tables_1, d.before a0 Z = true) (ws : List Jvm.Cond) (a1 : Addr) (a2 : Addr) (a3 : Addr) (u_t : Value) (u_v : Value) (h0 : Heap) (n0 : Nat) (Z0 : n0 ≤ h0.size) (E_a1 : Exa Z h0 a1 "com/example/gatemark/gatemark/model/AttributeValue") (Ftype_a1 : Fld Z h0 a1 "com/example/gatemark/gatemark/model/AttributeValue" "type" "Lcom/example/gatemark/gatemark/model/DataType;" u_t) (Fvalue_a1 : Fld Z h0 a1 "com/example/gatemark/gatemark/model/AttributeValue" "value" "Ljava/lang/Object;" u_v) (ge_a1 : n0 ≤ a1) :
    MetFree l (⟨"com/example/gatemark/gatemark/model/AttributeValue", "<init>", "(Lcom/example/gatemark/gatemark/model/DataType;Ljava/lang/Object;)V"⟩ : MethodName) (head1 (Jvm.Cond.code (⟨"com/example/gatemark/gatemark/model/AttributeValue", "<init>", "(Lcom/example/gatemark/gatemark/model/DataType;Ljava/lang/Object;)V"⟩ : MethodName) prog_181_method_1_code 3 none :: ws) ({ frames := 2, cells := 0, slots := 0, locals := 24 } : Room)) (fun a U => a = #[(.ref a1), (.ref a2), (.ref a3)] ∧ Z.Warmed39 U.vm ∧ U.heap = h0) (fun _ _ _ _ _ => True) (fun _ U o U' => ∃ v L, o = .returned v ∧ Qavr Z a1 a2 a3 u_t u_v h0 n0 v U'.heap L ∧ FrameEnd U o U' L ({ frames := 2, cells := 0, slots := 0, locals := 24 } : Room).cells ({ frames := 2, cells := 0, slots := 0, locals := 24 } : Room).slots) := by
  refine MetFree.of_bodySF (plainFor_of_name pn_avr) hisR ?_
  intro p e s m args below meth c s₁ Bd hml0 hP hK
  obtain ⟨rfl, hZ, hh⟩ := hP
  have hx := Bd.exec
  have hby := Bd.bytes
  have hml : c.maxLocals = 3 := hml0
  have hown : s.vm.findClass "com/example/gatemark/gatemark/model/AttributeValue" = some m.cls := findClass_of_methodNamed Bd.named
  have hnm := (name_of_methodNamed Bd.named Bd.method).1
  have hlk : meth.locks = false := BodyLoose.notSynchronized Bd
  have X0 : Stand p l e ({ frames := 2, cells := 0, slots := 0, locals := 24 } : Room) s m #[(.ref a1), (.ref a2), (.ref a3)] below meth c s₁ [] 0 0 := Stand.of_body Bd
  have e0 : s₁.heap = h0 := by rw [← hh, Bd.state]; rfl
  have N0 := Fr.nil n0
  have K0 := Keep.refl h0 [a1]
  obtain ⟨G, hG⟩ : ∃ G : Outcome → State → Prop, G = fun o u => ∃ v L, o = .returned v ∧ Qavr Z a1 a2 a3 u_t u_v h0 n0 v u.heap L ∧ FrameEnd s o u L ({ frames := 2, cells := 0, slots := 0, locals := 24 } : Room).cells ({ frames := 2, cells := 0, slots := 0, locals := 24 } : Room).slots := ⟨_, rfl⟩
  suffices hgo : Owe p.tables e below G s₁ (mkF m 0 #[.val (.ref a1), .val (.ref a2), .val (.ref a3)] []) by
    obtain ⟨u, o, h1, h2, h3, h4⟩ := hgo
    exact ⟨u, o, castTop (ef_avr m a1 a2 a3) h1, h2, h3, by rw [hG] at h4; exact h4⟩
  refine Owe.aloadN X0.here hx (hb hby d3_0) rfl rfl ?_
  refine Owe.special X0 hx (y := (⟨"java/lang/Record", "<init>", "()V"⟩ : MethodName)) rfl hown (mvT hZ (hw _ (List.mem_of_getElem? (i := 62) rfl))) (mvT hZ (hw _ (List.mem_of_getElem? (i := 50) rfl))) (mvT hZ (hw _ (List.mem_of_getElem? (i := 53) rfl))) (by decide) (backOf (W := 0) (rmrec l Z a0 hw [] a1 h0 n0 Z0 ) hZ (hw _ (List.mem_of_getElem? (i := 53) rfl)) (hw _ (List.mem_of_getElem? (i := 52) rfl)) (by decide) (by decide)) (by rw [hml]; rfl) (a := a1) (argsL := []) (rest := []) (lenOf pd_0 rfl) rfl (Nat.le_of_ble_eq_true rfl) (hb hby d3_1) rfl e0 (by decide) (by decide) fun T35 v35 L35 X35 hQ35 => ?_
  obtain ⟨rfl, Nq35, e35⟩ := hQ35
  have N35 := Fr.app N0 Nq35
  refine Owe.aloadN X35.here hx (hb hby d3_4) rfl rfl ?_
  refine Owe.aloadN X35.here hx (hb hby d3_5) rfl rfl ?_
  refine Owe.putf X35 hx hZ (host := "") hown (Or.inl (hw _ (List.mem_of_getElem? (i := 63) rfl))) Via.refl e35 Ftype_a1 E_a1 (Or.inr ⟨(hw _ (List.mem_of_getElem? (i := 64) rfl)), rfl, hnm⟩) (hw _ (List.mem_of_getElem? (i := 42) rfl)) (ty := (.object "com/example/gatemark/gatemark/model/DataType")) (by decide) rfl rfl (hb hby d3_6) rfl fun T36 h36 X36 e36 W36 => ?_
  have K_37 := K0.wr W36 (Or.inl (List.mem_of_getElem? (i := 0) rfl))
  have E_a1_38 := E_a1.wr W36
  have Ftype_a1_39 := Ftype_a1.same W36
  have Fvalue_a1_40 := Fvalue_a1.other W36 (Or.inr (slot_ne (Or.inr (hw _ (List.mem_of_getElem? (i := 66) rfl))) (Or.inr (hw _ (List.mem_of_getElem? (i := 64) rfl))) (by decide) (t := (.object "java/lang/Object")) (t' := (.object "com/example/gatemark/gatemark/model/DataType")) (by decide) (by decide)))
  have Z_41 := Nat.le_trans Z0 (Keep.of_wr W36).1
  have N36 := Fr.snoc X36 N35 ge_a1
  refine Owe.aloadN X36.here hx (hb hby d3_9) rfl rfl ?_
  refine Owe.aloadN X36.here hx (hb hby d3_10) rfl rfl ?_
  refine Owe.putf X36 hx hZ (host := "") hown (Or.inl (hw _ (List.mem_of_getElem? (i := 65) rfl))) Via.refl e36 Fvalue_a1_40 E_a1_38 (Or.inr ⟨(hw _ (List.mem_of_getElem? (i := 66) rfl)), rfl, hnm⟩) (hw _ (List.mem_of_getElem? (i := 42) rfl)) (ty := (.object "java/lang/Object")) (by decide) rfl rfl (hb hby d3_11) rfl fun T42 h42 X42 e42 W42 => ?_
  have K_43 := K_37.wr W42 (Or.inl (List.mem_of_getElem? (i := 0) rfl))
  have E_a1_44 := E_a1_38.wr W42
  have Ftype_a1_45 := Ftype_a1_39.other W42 (Or.inr (slot_ne (Or.inr (hw _ (List.mem_of_getElem? (i := 64) rfl))) (Or.inr (hw _ (List.mem_of_getElem? (i := 66) rfl))) (by decide) (t := (.object "com/example/gatemark/gatemark/model/DataType")) (t' := (.object "java/lang/Object")) (by decide) (by decide)))
  have Fvalue_a1_46 := Fvalue_a1_40.same W42
  have Z_47 := Nat.le_trans Z_41 (Keep.of_wr W42).1
  have N42 := Fr.snoc X42 N36 ge_a1
  refine Owe.ret0 X42 hx hlk Bd.returns (hb hby d3_14) rfl fun fs hE => ?_
  rw [hG]
  refine ⟨_, _, rfl, ?_, frameMono hE (by decide) (by decide)⟩
  show Qavr Z a1 a2 a3 u_t u_v h0 n0 _ T42.heap _
  rw [e42]
  exact ⟨rfl, N42, K_43, E_a1_44, Fvalue_a1_46⟩
theorem pn_avn : plainName "com/example/gatemark/gatemark/model/AttributeValue" = true := by first | (simp [plainName, overriddenIn]; done) | decide +kernel
theorem ef_avn (m : MethodId) (x0 : Addr) (x1 : Addr)  : entryFrame m #[(.ref x0), (.ref x1), .null] 3 = mkF m 0 #[.val (.ref x0), .val (.ref x1), .val .null] [] := by first | (simp [entryFrame, mkF, argsToLocals, Value.category]; done) | rfl
def Qavn (Z : State) (a1 : Addr) (a2 : Addr) (u_t : Value) (u_v : Value) (h0 : Heap) (n0 : Nat) (v : Option Value) (h : Heap) (L : List Loc) : Prop := v = none ∧ Fr n0 L ∧ Keep h0 h [a1] ∧ Exa Z h a1 "com/example/gatemark/gatemark/model/AttributeValue" ∧ Fld Z h a1 "com/example/gatemark/gatemark/model/AttributeValue" "value" "Ljava/lang/Object;" .null
set_option maxRecDepth 65536 in
set_option maxHeartbeats 40000000 in
theorem rmavn (l : Launch) (Z : State) (a0 : Array Value) (hw : ∀ d ∈ tables_1, d.before a0 Z = true) (ws : List Jvm.Cond) (a1 : Addr) (a2 : Addr) (u_t : Value) (u_v : Value) (h0 : Heap) (n0 : Nat) (Z0 : n0 ≤ h0.size) (E_a1 : Exa Z h0 a1 "com/example/gatemark/gatemark/model/AttributeValue") (Ftype_a1 : Fld Z h0 a1 "com/example/gatemark/gatemark/model/AttributeValue" "type" "Lcom/example/gatemark/gatemark/model/DataType;" u_t) (Fvalue_a1 : Fld Z h0 a1 "com/example/gatemark/gatemark/model/AttributeValue" "value" "Ljava/lang/Object;" u_v) (ge_a1 : n0 ≤ a1) :
    MetFree l (⟨"com/example/gatemark/gatemark/model/AttributeValue", "<init>", "(Lcom/example/gatemark/gatemark/model/DataType;Ljava/lang/Object;)V"⟩ : MethodName) (head1 (Jvm.Cond.code (⟨"com/example/gatemark/gatemark/model/AttributeValue", "<init>", "(Lcom/example/gatemark/gatemark/model/DataType;Ljava/lang/Object;)V"⟩ : MethodName) prog_181_method_1_code 3 none :: ws) ({ frames := 2, cells := 0, slots := 0, locals := 24 } : Room)) (fun a U => a = #[(.ref a1), (.ref a2), .null] ∧ Z.Warmed39 U.vm ∧ U.heap = h0) (fun _ _ _ _ _ => True) (fun _ U o U' => ∃ v L, o = .returned v ∧ Qavn Z a1 a2 u_t u_v h0 n0 v U'.heap L ∧ FrameEnd U o U' L ({ frames := 2, cells := 0, slots := 0, locals := 24 } : Room).cells ({ frames := 2, cells := 0, slots := 0, locals := 24 } : Room).slots) := by
  refine MetFree.of_bodySF (plainFor_of_name pn_avn) hisR ?_
  intro p e s m args below meth c s₁ Bd hml0 hP hK
  obtain ⟨rfl, hZ, hh⟩ := hP
  have hx := Bd.exec
  have hby := Bd.bytes
  have hml : c.maxLocals = 3 := hml0
  have hown : s.vm.findClass "com/example/gatemark/gatemark/model/AttributeValue" = some m.cls := findClass_of_methodNamed Bd.named
  have hnm := (name_of_methodNamed Bd.named Bd.method).1
  have hlk : meth.locks = false := BodyLoose.notSynchronized Bd
  have X0 : Stand p l e ({ frames := 2, cells := 0, slots := 0, locals := 24 } : Room) s m #[(.ref a1), (.ref a2), .null] below meth c s₁ [] 0 0 := Stand.of_body Bd
  have e0 : s₁.heap = h0 := by rw [← hh, Bd.state]; rfl
  have N0 := Fr.nil n0
  have K0 := Keep.refl h0 [a1]
  obtain ⟨G, hG⟩ : ∃ G : Outcome → State → Prop, G = fun o u => ∃ v L, o = .returned v ∧ Qavn Z a1 a2 u_t u_v h0 n0 v u.heap L ∧ FrameEnd s o u L ({ frames := 2, cells := 0, slots := 0, locals := 24 } : Room).cells ({ frames := 2, cells := 0, slots := 0, locals := 24 } : Room).slots := ⟨_, rfl⟩
  suffices hgo : Owe p.tables e below G s₁ (mkF m 0 #[.val (.ref a1), .val (.ref a2), .val .null] []) by
    obtain ⟨u, o, h1, h2, h3, h4⟩ := hgo
    exact ⟨u, o, castTop (ef_avn m a1 a2) h1, h2, h3, by rw [hG] at h4; exact h4⟩
  refine Owe.aloadN X0.here hx (hb hby d3_0) rfl rfl ?_
  refine Owe.special X0 hx (y := (⟨"java/lang/Record", "<init>", "()V"⟩ : MethodName)) rfl hown (mvT hZ (hw _ (List.mem_of_getElem? (i := 62) rfl))) (mvT hZ (hw _ (List.mem_of_getElem? (i := 50) rfl))) (mvT hZ (hw _ (List.mem_of_getElem? (i := 53) rfl))) (by decide) (backOf (W := 0) (rmrec l Z a0 hw [] a1 h0 n0 Z0 ) hZ (hw _ (List.mem_of_getElem? (i := 53) rfl)) (hw _ (List.mem_of_getElem? (i := 52) rfl)) (by decide) (by decide)) (by rw [hml]; rfl) (a := a1) (argsL := []) (rest := []) (lenOf pd_0 rfl) rfl (Nat.le_of_ble_eq_true rfl) (hb hby d3_1) rfl e0 (by decide) (by decide) fun T48 v48 L48 X48 hQ48 => ?_
  obtain ⟨rfl, Nq48, e48⟩ := hQ48
  have N48 := Fr.app N0 Nq48
  refine Owe.aloadN X48.here hx (hb hby d3_4) rfl rfl ?_
  refine Owe.aloadN X48.here hx (hb hby d3_5) rfl rfl ?_
  refine Owe.putf X48 hx hZ (host := "") hown (Or.inl (hw _ (List.mem_of_getElem? (i := 63) rfl))) Via.refl e48 Ftype_a1 E_a1 (Or.inr ⟨(hw _ (List.mem_of_getElem? (i := 64) rfl)), rfl, hnm⟩) (hw _ (List.mem_of_getElem? (i := 42) rfl)) (ty := (.object "com/example/gatemark/gatemark/model/DataType")) (by decide) rfl rfl (hb hby d3_6) rfl fun T49 h49 X49 e49 W49 => ?_
  have K_50 := K0.wr W49 (Or.inl (List.mem_of_getElem? (i := 0) rfl))
  have E_a1_51 := E_a1.wr W49
  have Ftype_a1_52 := Ftype_a1.same W49
  have Fvalue_a1_53 := Fvalue_a1.other W49 (Or.inr (slot_ne (Or.inr (hw _ (List.mem_of_getElem? (i := 66) rfl))) (Or.inr (hw _ (List.mem_of_getElem? (i := 64) rfl))) (by decide) (t := (.object "java/lang/Object")) (t' := (.object "com/example/gatemark/gatemark/model/DataType")) (by decide) (by decide)))
  have Z_54 := Nat.le_trans Z0 (Keep.of_wr W49).1
  have N49 := Fr.snoc X49 N48 ge_a1
  refine Owe.aloadN X49.here hx (hb hby d3_9) rfl rfl ?_
  refine Owe.aloadN X49.here hx (hb hby d3_10) rfl rfl ?_
  refine Owe.putf X49 hx hZ (host := "") hown (Or.inl (hw _ (List.mem_of_getElem? (i := 65) rfl))) Via.refl e49 Fvalue_a1_53 E_a1_51 (Or.inr ⟨(hw _ (List.mem_of_getElem? (i := 66) rfl)), rfl, hnm⟩) (hw _ (List.mem_of_getElem? (i := 42) rfl)) (ty := (.object "java/lang/Object")) (by decide) rfl rfl (hb hby d3_11) rfl fun T55 h55 X55 e55 W55 => ?_
  have K_56 := K_50.wr W55 (Or.inl (List.mem_of_getElem? (i := 0) rfl))
  have E_a1_57 := E_a1_51.wr W55
  have Ftype_a1_58 := Ftype_a1_52.other W55 (Or.inr (slot_ne (Or.inr (hw _ (List.mem_of_getElem? (i := 64) rfl))) (Or.inr (hw _ (List.mem_of_getElem? (i := 66) rfl))) (by decide) (t := (.object "com/example/gatemark/gatemark/model/DataType")) (t' := (.object "java/lang/Object")) (by decide) (by decide)))
  have Fvalue_a1_59 := Fvalue_a1_53.same W55
  have Z_60 := Nat.le_trans Z_54 (Keep.of_wr W55).1
  have N55 := Fr.snoc X55 N49 ge_a1
  refine Owe.ret0 X55 hx hlk Bd.returns (hb hby d3_14) rfl fun fs hE => ?_
  rw [hG]
  refine ⟨_, _, rfl, ?_, frameMono hE (by decide) (by decide)⟩
  show Qavn Z a1 a2 u_t u_v h0 n0 _ T55.heap _
  rw [e55]
  exact ⟨rfl, N55, K_56, E_a1_57, Fvalue_a1_59⟩
theorem d4_0 : decode prog_181_method_2_code 0 = .ok (.new 8, 3) := by decide +kernel
theorem d4_3 : decode prog_181_method_2_code 3 = .ok (.dup, 1) := by decide +kernel
theorem d4_4 : decode prog_181_method_2_code 4 = .ok (.aload_n 0, 1) := by decide +kernel
theorem d4_5 : decode prog_181_method_2_code 5 = .ok (.new 17, 3) := by decide +kernel
theorem d4_8 : decode prog_181_method_2_code 8 = .ok (.dup, 1) := by decide +kernel
theorem d4_9 : decode prog_181_method_2_code 9 = .ok (.aload_n 1, 1) := by decide +kernel
theorem d4_10 : decode prog_181_method_2_code 10 = .ok (.aload_n 2, 1) := by decide +kernel
theorem d4_11 : decode prog_181_method_2_code 11 = .ok (.invokespecial 19, 3) := by decide +kernel
theorem d4_14 : decode prog_181_method_2_code 14 = .ok (.invokespecial 22, 3) := by decide +kernel
theorem d4_17 : decode prog_181_method_2_code 17 = .ok (.areturn, 1) := by decide +kernel
theorem pn_urr : plainName "com/example/gatemark/gatemark/model/AttributeValue" = true := by first | (simp [plainName, overriddenIn]; done) | decide +kernel
theorem ef_urr (m : MethodId) (x0 : Addr) (x1 : Addr) (x2 : Addr)  : entryFrame m #[(.ref x0), (.ref x1), (.ref x2)] 3 = mkF m 0 #[.val (.ref x0), .val (.ref x1), .val (.ref x2)] [] := by first | (simp [entryFrame, mkF, argsToLocals, Value.category]; done) | rfl
def Qurr (Z : State) (a1 : Addr) (a2 : Addr) (a3 : Addr) (h0 : Heap) (n0 : Nat) (v : Option Value) (h : Heap) (L : List Loc) : Prop := ∃ (x1 : Addr), ∃ (y1 : Addr), v = some (.ref x1) ∧ Fr n0 L ∧ Keep h0 h [] ∧ n0 ≤ x1 ∧ h0.size ≤ x1 ∧ n0 ≤ y1 ∧ h0.size ≤ y1 ∧ Exa Z h x1 "com/example/gatemark/gatemark/model/AttributeValue" ∧ Exa Z h y1 "com/example/gatemark/gatemark/model/AttributeValue$Unread" ∧ Fld Z h x1 "com/example/gatemark/gatemark/model/AttributeValue" "value" "Ljava/lang/Object;" (.ref y1)
set_option maxRecDepth 65536 in
set_option maxHeartbeats 40000000 in
theorem rmurr (l : Launch) (Z : State) (a0 : Array Value) (hw : ∀ d ∈ tables_1, d.before a0 Z = true) (ws : List Jvm.Cond) (a1 : Addr) (a2 : Addr) (a3 : Addr) (h0 : Heap) (n0 : Nat) (Z0 : n0 ≤ h0.size)  :
    MetFree l (⟨"com/example/gatemark/gatemark/model/AttributeValue", "unread", "(Lcom/example/gatemark/gatemark/model/DataType;Ljava/lang/String;Ljava/lang/String;)Lcom/example/gatemark/gatemark/model/AttributeValue;"⟩ : MethodName) (head1 (Jvm.Cond.code (⟨"com/example/gatemark/gatemark/model/AttributeValue", "unread", "(Lcom/example/gatemark/gatemark/model/DataType;Ljava/lang/String;Ljava/lang/String;)Lcom/example/gatemark/gatemark/model/AttributeValue;"⟩ : MethodName) prog_181_method_2_code 3 (some (.object "com/example/gatemark/gatemark/model/AttributeValue")) :: ws) ({ frames := 3, cells := 2, slots := 4, locals := 48 } : Room)) (fun a U => a = #[(.ref a1), (.ref a2), (.ref a3)] ∧ Z.Warmed39 U.vm ∧ U.heap = h0) (fun _ _ _ _ _ => True) (fun _ U o U' => ∃ v L, o = .returned v ∧ Qurr Z a1 a2 a3 h0 n0 v U'.heap L ∧ FrameEnd U o U' L ({ frames := 3, cells := 2, slots := 4, locals := 48 } : Room).cells ({ frames := 3, cells := 2, slots := 4, locals := 48 } : Room).slots) := by
  refine MetFree.of_bodySF (plainFor_of_name pn_urr) hisR ?_
  intro p e s m args below meth c s₁ Bd hml0 hP hK
  obtain ⟨rfl, hZ, hh⟩ := hP
  have hx := Bd.exec
  have hby := Bd.bytes
  have hml : c.maxLocals = 3 := hml0
  have hown : s.vm.findClass "com/example/gatemark/gatemark/model/AttributeValue" = some m.cls := findClass_of_methodNamed Bd.named
  have hnm := (name_of_methodNamed Bd.named Bd.method).1
  have hlk : meth.locks = false := BodyLoose.notSynchronized Bd
  have X0 : Stand p l e ({ frames := 3, cells := 2, slots := 4, locals := 48 } : Room) s m #[(.ref a1), (.ref a2), (.ref a3)] below meth c s₁ [] 0 0 := Stand.of_body Bd
  have e0 : s₁.heap = h0 := by rw [← hh, Bd.state]; rfl
  have N0 := Fr.nil n0
  have K0 := Keep.refl h0 []
  obtain ⟨G, hG⟩ : ∃ G : Outcome → State → Prop, G = fun o u => ∃ v L, o = .returned v ∧ Qurr Z a1 a2 a3 h0 n0 v u.heap L ∧ FrameEnd s o u L ({ frames := 3, cells := 2, slots := 4, locals := 48 } : Room).cells ({ frames := 3, cells := 2, slots := 4, locals := 48 } : Room).slots := ⟨_, rfl⟩
  suffices hgo : Owe p.tables e below G s₁ (mkF m 0 #[.val (.ref a1), .val (.ref a2), .val (.ref a3)] []) by
    obtain ⟨u, o, h1, h2, h3, h4⟩ := hgo
    exact ⟨u, o, castTop (ef_urr m a1 a2 a3) h1, h2, h3, by rw [hG] at h4; exact h4⟩
  refine Owe.new X0 hx hZ hown (hw _ (List.mem_of_getElem? (i := 41) rfl)) (hw _ (List.mem_of_getElem? (i := 42) rfl)) (hw _ (List.mem_of_getElem? (i := 39) rfl)) e0 (hb hby d4_0) (by decide) (by decide) fun T61 h61 b61 g61 X61 e61 E61 A61 D61 => ?_
  have sz_b61 := Nat.le_trans K0.1 (Nat.le_of_eq g61.symm)
  have ge_b61 := Nat.le_trans Z0 (Nat.le_of_eq g61.symm)
  have K_62 := K0.ext E61
  have Z_63 := Nat.le_trans Z0 E61.1
  have Ftype_b61 : Fld Z h61 b61 "com/example/gatemark/gatemark/model/AttributeValue" "type" "Lcom/example/gatemark/gatemark/model/DataType;" .null := D61 (Or.inr (hw _ (List.mem_of_getElem? (i := 64) rfl))) (ty := (.object "com/example/gatemark/gatemark/model/DataType")) (by decide)
  have Fvalue_b61 : Fld Z h61 b61 "com/example/gatemark/gatemark/model/AttributeValue" "value" "Ljava/lang/Object;" .null := D61 (Or.inr (hw _ (List.mem_of_getElem? (i := 66) rfl))) (ty := (.object "java/lang/Object")) (by decide)
  refine Owe.dup X61.here hx (hb hby d4_3) rfl rfl ?_
  refine Owe.aloadN X61.here hx (hb hby d4_4) rfl rfl ?_
  refine Owe.new X61 hx hZ hown (hw _ (List.mem_of_getElem? (i := 43) rfl)) (hw _ (List.mem_of_getElem? (i := 44) rfl)) (hw _ (List.mem_of_getElem? (i := 45) rfl)) e61 (hb hby d4_5) (by decide) (by decide) fun T64 h64 b64 g64 X64 e64 E64 A64 D64 => ?_
  have ne_b61_b64 : b61 ≠ b64 := Nat.ne_of_lt (Nat.lt_of_lt_of_le A61.lt (Nat.le_of_eq g64.symm))
  have sz_b64 := Nat.le_trans K_62.1 (Nat.le_of_eq g64.symm)
  have ge_b64 := Nat.le_trans Z_63 (Nat.le_of_eq g64.symm)
  have K_65 := K_62.ext E64
  have A61_66 := A61.ext E64
  have Ftype_b61_67 := Ftype_b61.ext E64
  have Fvalue_b61_68 := Fvalue_b61.ext E64
  have Z_69 := Nat.le_trans Z_63 E64.1
  have Ftext_b64 : Fld Z h64 b64 "com/example/gatemark/gatemark/model/AttributeValue$Unread" "text" "Ljava/lang/String;" .null := D64 (Or.inr (hw _ (List.mem_of_getElem? (i := 56) rfl))) (ty := (.object "java/lang/String")) (by decide)
  have Freason_b64 : Fld Z h64 b64 "com/example/gatemark/gatemark/model/AttributeValue$Unread" "reason" "Ljava/lang/String;" .null := D64 (Or.inr (hw _ (List.mem_of_getElem? (i := 58) rfl))) (ty := (.object "java/lang/String")) (by decide)
  refine Owe.dup X64.here hx (hb hby d4_8) rfl rfl ?_
  refine Owe.aloadN X64.here hx (hb hby d4_9) rfl rfl ?_
  refine Owe.aloadN X64.here hx (hb hby d4_10) rfl rfl ?_
  refine Owe.specialRef X64 hx hZ (y := (⟨"com/example/gatemark/gatemark/model/AttributeValue$Unread", "<init>", "(Ljava/lang/String;Ljava/lang/String;)V"⟩ : MethodName)) rfl hown (hw _ (List.mem_of_getElem? (i := 46) rfl)) (hw _ (List.mem_of_getElem? (i := 47) rfl)) (hw _ (List.mem_of_getElem? (i := 48) rfl)) (by decide) (backOf (W := 4) (rmunr l Z a0 hw [] b64 a2 a3 .null .null h64 n0 Z_69 A64 Ftext_b64 Freason_b64 ge_b64) hZ (hw _ (List.mem_of_getElem? (i := 48) rfl)) (hw _ (List.mem_of_getElem? (i := 45) rfl)) (by decide) (by decide)) (by rw [hml]; rfl) (a := b64) (argsL := [(.ref a2), (.ref a3)]) (rest := [(.ref b64), (.ref a1), (.ref b61), (.ref b61)]) (lenOf pd_1 rfl) rfl (Nat.le_of_ble_eq_true rfl) (hb hby d4_11) rfl e64 (by decide) (by decide) fun T70 v70 L70 X70 hQ70 => ?_
  obtain ⟨rfl, Nq70, K70, E_a1_70⟩ := hQ70
  have N70 := Fr.app N0 Nq70
  have K_71 := K_65.trans K70 (allS (Or.inr sz_b64) all0)
  have A61_72 := A61_66.keep K70
  have Ftype_b61_73 := Ftype_b61_67.keep K70 (ninS ne_b61_b64 nin0)
  have Fvalue_b61_74 := Fvalue_b61_68.keep K70 (ninS ne_b61_b64 nin0)
  have A64_75 := A64.keep K70
  have Z_76 := Nat.le_trans Z_69 K70.1
  refine Owe.special X70 hx (y := (⟨"com/example/gatemark/gatemark/model/AttributeValue", "<init>", "(Lcom/example/gatemark/gatemark/model/DataType;Ljava/lang/Object;)V"⟩ : MethodName)) rfl hown (mvT hZ (hw _ (List.mem_of_getElem? (i := 59) rfl))) (mvT hZ (hw _ (List.mem_of_getElem? (i := 60) rfl))) (mvT hZ (hw _ (List.mem_of_getElem? (i := 61) rfl))) (by decide) (backOf (W := 1) (rmavr l Z a0 hw [] b61 a1 b64 .null .null T70.heap n0 Z_76 A61_72 Ftype_b61_73 Fvalue_b61_74 ge_b61) hZ (hw _ (List.mem_of_getElem? (i := 61) rfl)) (hw _ (List.mem_of_getElem? (i := 39) rfl)) (by decide) (by decide)) (by rw [hml]; rfl) (a := b61) (argsL := [(.ref a1), (.ref b64)]) (rest := [(.ref b61)]) (lenOf pd_2 rfl) rfl (Nat.le_of_ble_eq_true rfl) (hb hby d4_14) rfl rfl (by decide) (by decide) fun T77 v77 L77 X77 hQ77 => ?_
  obtain ⟨rfl, Nq77, K77, E_a1_77, Fvalue_a1_77⟩ := hQ77
  have N77 := Fr.app N70 Nq77
  have K_78 := K_71.trans K77 (allS (Or.inr sz_b61) all0)
  have A61_79 := A61_72.keep K77
  have E_a1_80 := E_a1_70.keep K77
  have Z_81 := Nat.le_trans Z_76 K77.1
  refine Owe.retR X77 hx hlk (t := (.object "com/example/gatemark/gatemark/model/AttributeValue")) Bd.returns rfl rfl rfl (hb hby d4_17) rfl fun fs hE => ?_
  rw [hG]
  refine ⟨_, _, rfl, ?_, frameMono hE (by decide) (by decide)⟩
  show Qurr Z a1 a2 a3 h0 n0 _ T77.heap _
  exact ⟨b61, b64, rfl, N77, K_78, ge_b61, sz_b61, ge_b64, sz_b64, E_a1_77, E_a1_80, Fvalue_a1_77⟩
theorem pn_urn : plainName "com/example/gatemark/gatemark/model/AttributeValue" = true := by first | (simp [plainName, overriddenIn]; done) | decide +kernel
theorem ef_urn (m : MethodId) (x0 : Addr) (x1 : Addr)  : entryFrame m #[(.ref x0), (.ref x1), .null] 3 = mkF m 0 #[.val (.ref x0), .val (.ref x1), .val .null] [] := by first | (simp [entryFrame, mkF, argsToLocals, Value.category]; done) | rfl
def Qurn (Z : State) (a1 : Addr) (a2 : Addr) (h0 : Heap) (n0 : Nat) (v : Option Value) (h : Heap) (L : List Loc) : Prop := ∃ (x1 : Addr), ∃ (y1 : Addr), v = some (.ref x1) ∧ Fr n0 L ∧ Keep h0 h [] ∧ n0 ≤ x1 ∧ h0.size ≤ x1 ∧ n0 ≤ y1 ∧ h0.size ≤ y1 ∧ Exa Z h x1 "com/example/gatemark/gatemark/model/AttributeValue" ∧ Exa Z h y1 "com/example/gatemark/gatemark/model/AttributeValue$Unread" ∧ Fld Z h x1 "com/example/gatemark/gatemark/model/AttributeValue" "value" "Ljava/lang/Object;" (.ref y1)
set_option maxRecDepth 65536 in
set_option maxHeartbeats 40000000 in
theorem rmurn (l : Launch) (Z : State) (a0 : Array Value) (hw : ∀ d ∈ tables_1, d.before a0 Z = true) (ws : List Jvm.Cond) (a1 : Addr) (a2 : Addr) (h0 : Heap) (n0 : Nat) (Z0 : n0 ≤ h0.size)  :
    MetFree l (⟨"com/example/gatemark/gatemark/model/AttributeValue", "unread", "(Lcom/example/gatemark/gatemark/model/DataType;Ljava/lang/String;Ljava/lang/String;)Lcom/example/gatemark/gatemark/model/AttributeValue;"⟩ : MethodName) (head1 (Jvm.Cond.code (⟨"com/example/gatemark/gatemark/model/AttributeValue", "unread", "(Lcom/example/gatemark/gatemark/model/DataType;Ljava/lang/String;Ljava/lang/String;)Lcom/example/gatemark/gatemark/model/AttributeValue;"⟩ : MethodName) prog_181_method_2_code 3 (some (.object "com/example/gatemark/gatemark/model/AttributeValue")) :: ws) ({ frames := 3, cells := 2, slots := 4, locals := 48 } : Room)) (fun a U => a = #[(.ref a1), (.ref a2), .null] ∧ Z.Warmed39 U.vm ∧ U.heap = h0) (fun _ _ _ _ _ => True) (fun _ U o U' => ∃ v L, o = .returned v ∧ Qurn Z a1 a2 h0 n0 v U'.heap L ∧ FrameEnd U o U' L ({ frames := 3, cells := 2, slots := 4, locals := 48 } : Room).cells ({ frames := 3, cells := 2, slots := 4, locals := 48 } : Room).slots) := by
  refine MetFree.of_bodySF (plainFor_of_name pn_urn) hisR ?_
  intro p e s m args below meth c s₁ Bd hml0 hP hK
  obtain ⟨rfl, hZ, hh⟩ := hP
  have hx := Bd.exec
  have hby := Bd.bytes
  have hml : c.maxLocals = 3 := hml0
  have hown : s.vm.findClass "com/example/gatemark/gatemark/model/AttributeValue" = some m.cls := findClass_of_methodNamed Bd.named
  have hnm := (name_of_methodNamed Bd.named Bd.method).1
  have hlk : meth.locks = false := BodyLoose.notSynchronized Bd
  have X0 : Stand p l e ({ frames := 3, cells := 2, slots := 4, locals := 48 } : Room) s m #[(.ref a1), (.ref a2), .null] below meth c s₁ [] 0 0 := Stand.of_body Bd
  have e0 : s₁.heap = h0 := by rw [← hh, Bd.state]; rfl
  have N0 := Fr.nil n0
  have K0 := Keep.refl h0 []
  obtain ⟨G, hG⟩ : ∃ G : Outcome → State → Prop, G = fun o u => ∃ v L, o = .returned v ∧ Qurn Z a1 a2 h0 n0 v u.heap L ∧ FrameEnd s o u L ({ frames := 3, cells := 2, slots := 4, locals := 48 } : Room).cells ({ frames := 3, cells := 2, slots := 4, locals := 48 } : Room).slots := ⟨_, rfl⟩
  suffices hgo : Owe p.tables e below G s₁ (mkF m 0 #[.val (.ref a1), .val (.ref a2), .val .null] []) by
    obtain ⟨u, o, h1, h2, h3, h4⟩ := hgo
    exact ⟨u, o, castTop (ef_urn m a1 a2) h1, h2, h3, by rw [hG] at h4; exact h4⟩
  refine Owe.new X0 hx hZ hown (hw _ (List.mem_of_getElem? (i := 41) rfl)) (hw _ (List.mem_of_getElem? (i := 42) rfl)) (hw _ (List.mem_of_getElem? (i := 39) rfl)) e0 (hb hby d4_0) (by decide) (by decide) fun T82 h82 b82 g82 X82 e82 E82 A82 D82 => ?_
  have sz_b82 := Nat.le_trans K0.1 (Nat.le_of_eq g82.symm)
  have ge_b82 := Nat.le_trans Z0 (Nat.le_of_eq g82.symm)
  have K_83 := K0.ext E82
  have Z_84 := Nat.le_trans Z0 E82.1
  have Ftype_b82 : Fld Z h82 b82 "com/example/gatemark/gatemark/model/AttributeValue" "type" "Lcom/example/gatemark/gatemark/model/DataType;" .null := D82 (Or.inr (hw _ (List.mem_of_getElem? (i := 64) rfl))) (ty := (.object "com/example/gatemark/gatemark/model/DataType")) (by decide)
  have Fvalue_b82 : Fld Z h82 b82 "com/example/gatemark/gatemark/model/AttributeValue" "value" "Ljava/lang/Object;" .null := D82 (Or.inr (hw _ (List.mem_of_getElem? (i := 66) rfl))) (ty := (.object "java/lang/Object")) (by decide)
  refine Owe.dup X82.here hx (hb hby d4_3) rfl rfl ?_
  refine Owe.aloadN X82.here hx (hb hby d4_4) rfl rfl ?_
  refine Owe.new X82 hx hZ hown (hw _ (List.mem_of_getElem? (i := 43) rfl)) (hw _ (List.mem_of_getElem? (i := 44) rfl)) (hw _ (List.mem_of_getElem? (i := 45) rfl)) e82 (hb hby d4_5) (by decide) (by decide) fun T85 h85 b85 g85 X85 e85 E85 A85 D85 => ?_
  have ne_b82_b85 : b82 ≠ b85 := Nat.ne_of_lt (Nat.lt_of_lt_of_le A82.lt (Nat.le_of_eq g85.symm))
  have sz_b85 := Nat.le_trans K_83.1 (Nat.le_of_eq g85.symm)
  have ge_b85 := Nat.le_trans Z_84 (Nat.le_of_eq g85.symm)
  have K_86 := K_83.ext E85
  have A82_87 := A82.ext E85
  have Ftype_b82_88 := Ftype_b82.ext E85
  have Fvalue_b82_89 := Fvalue_b82.ext E85
  have Z_90 := Nat.le_trans Z_84 E85.1
  have Ftext_b85 : Fld Z h85 b85 "com/example/gatemark/gatemark/model/AttributeValue$Unread" "text" "Ljava/lang/String;" .null := D85 (Or.inr (hw _ (List.mem_of_getElem? (i := 56) rfl))) (ty := (.object "java/lang/String")) (by decide)
  have Freason_b85 : Fld Z h85 b85 "com/example/gatemark/gatemark/model/AttributeValue$Unread" "reason" "Ljava/lang/String;" .null := D85 (Or.inr (hw _ (List.mem_of_getElem? (i := 58) rfl))) (ty := (.object "java/lang/String")) (by decide)
  refine Owe.dup X85.here hx (hb hby d4_8) rfl rfl ?_
  refine Owe.aloadN X85.here hx (hb hby d4_9) rfl rfl ?_
  refine Owe.aloadN X85.here hx (hb hby d4_10) rfl rfl ?_
  refine Owe.specialRef X85 hx hZ (y := (⟨"com/example/gatemark/gatemark/model/AttributeValue$Unread", "<init>", "(Ljava/lang/String;Ljava/lang/String;)V"⟩ : MethodName)) rfl hown (hw _ (List.mem_of_getElem? (i := 46) rfl)) (hw _ (List.mem_of_getElem? (i := 47) rfl)) (hw _ (List.mem_of_getElem? (i := 48) rfl)) (by decide) (backOf (W := 4) (rmunn l Z a0 hw [] b85 a2 .null .null h85 n0 Z_90 A85 Ftext_b85 Freason_b85 ge_b85) hZ (hw _ (List.mem_of_getElem? (i := 48) rfl)) (hw _ (List.mem_of_getElem? (i := 45) rfl)) (by decide) (by decide)) (by rw [hml]; rfl) (a := b85) (argsL := [(.ref a2), .null]) (rest := [(.ref b85), (.ref a1), (.ref b82), (.ref b82)]) (lenOf pd_1 rfl) rfl (Nat.le_of_ble_eq_true rfl) (hb hby d4_11) rfl e85 (by decide) (by decide) fun T91 v91 L91 X91 hQ91 => ?_
  obtain ⟨rfl, Nq91, K91, E_a1_91⟩ := hQ91
  have N91 := Fr.app N0 Nq91
  have K_92 := K_86.trans K91 (allS (Or.inr sz_b85) all0)
  have A82_93 := A82_87.keep K91
  have Ftype_b82_94 := Ftype_b82_88.keep K91 (ninS ne_b82_b85 nin0)
  have Fvalue_b82_95 := Fvalue_b82_89.keep K91 (ninS ne_b82_b85 nin0)
  have A85_96 := A85.keep K91
  have Z_97 := Nat.le_trans Z_90 K91.1
  refine Owe.special X91 hx (y := (⟨"com/example/gatemark/gatemark/model/AttributeValue", "<init>", "(Lcom/example/gatemark/gatemark/model/DataType;Ljava/lang/Object;)V"⟩ : MethodName)) rfl hown (mvT hZ (hw _ (List.mem_of_getElem? (i := 59) rfl))) (mvT hZ (hw _ (List.mem_of_getElem? (i := 60) rfl))) (mvT hZ (hw _ (List.mem_of_getElem? (i := 61) rfl))) (by decide) (backOf (W := 1) (rmavr l Z a0 hw [] b82 a1 b85 .null .null T91.heap n0 Z_97 A82_93 Ftype_b82_94 Fvalue_b82_95 ge_b82) hZ (hw _ (List.mem_of_getElem? (i := 61) rfl)) (hw _ (List.mem_of_getElem? (i := 39) rfl)) (by decide) (by decide)) (by rw [hml]; rfl) (a := b82) (argsL := [(.ref a1), (.ref b85)]) (rest := [(.ref b82)]) (lenOf pd_2 rfl) rfl (Nat.le_of_ble_eq_true rfl) (hb hby d4_14) rfl rfl (by decide) (by decide) fun T98 v98 L98 X98 hQ98 => ?_
  obtain ⟨rfl, Nq98, K98, E_a1_98, Fvalue_a1_98⟩ := hQ98
  have N98 := Fr.app N91 Nq98
  have K_99 := K_92.trans K98 (allS (Or.inr sz_b82) all0)
  have A82_100 := A82_93.keep K98
  have E_a1_101 := E_a1_91.keep K98
  have Z_102 := Nat.le_trans Z_97 K98.1
  refine Owe.retR X98 hx hlk (t := (.object "com/example/gatemark/gatemark/model/AttributeValue")) Bd.returns rfl rfl rfl (hb hby d4_17) rfl fun fs hE => ?_
  rw [hG]
  refine ⟨_, _, rfl, ?_, frameMono hE (by decide) (by decide)⟩
  show Qurn Z a1 a2 h0 n0 _ T98.heap _
  exact ⟨b82, b85, rfl, N98, K_99, ge_b82, sz_b82, ge_b85, sz_b85, E_a1_98, E_a1_101, Fvalue_a1_98⟩
theorem d5_0 : decode prog_181_method_3_code 0 = .ok (.aload_n 0, 1) := by decide +kernel
theorem d5_1 : decode prog_181_method_3_code 1 = .ok (.getfield 13, 3) := by decide +kernel
theorem d5_4 : decode prog_181_method_3_code 4 = .ok (.instanceof 17, 3) := by decide +kernel
theorem d5_7 : decode prog_181_method_3_code 7 = .ok (.ifCond .ne 7, 3) := by decide +kernel
theorem d5_10 : decode prog_181_method_3_code 10 = .ok (.iconst 1, 1) := by decide +kernel
theorem d5_11 : decode prog_181_method_3_code 11 = .ok (.goto 4, 3) := by decide +kernel
theorem d5_14 : decode prog_181_method_3_code 14 = .ok (.iconst 0, 1) := by decide +kernel
theorem d5_15 : decode prog_181_method_3_code 15 = .ok (.ireturn, 1) := by decide +kernel
theorem pn_irs : plainName "com/example/gatemark/gatemark/model/AttributeValue" = true := by first | (simp [plainName, overriddenIn]; done) | decide +kernel
theorem ef_irs (m : MethodId) (x0 : Addr)  : entryFrame m #[(.ref x0)] 1 = mkF m 0 #[.val (.ref x0)] [] := by first | (simp [entryFrame, mkF, argsToLocals, Value.category]; done) | rfl
def Qirs (Z : State) (a1 : Addr) (w2 : Addr) (h0 : Heap) (n0 : Nat) (v : Option Value) (h : Heap) (L : List Loc) : Prop := v = some (.int (1 : Int32)) ∧ Fr n0 L ∧ h = h0
set_option maxRecDepth 65536 in
set_option maxHeartbeats 40000000 in
theorem rmirs (l : Launch) (Z : State) (a0 : Array Value) (hw : ∀ d ∈ tables_1, d.before a0 Z = true) (ws : List Jvm.Cond) (a1 : Addr) (w2 : Addr) (h0 : Heap) (n0 : Nat) (Z0 : n0 ≤ h0.size) (Fvalue_a1 : Fld Z h0 a1 "com/example/gatemark/gatemark/model/AttributeValue" "value" "Ljava/lang/Object;" (.ref w2)) (E_w2 : Exa Z h0 w2 "java/lang/String") :
    MetFree l (⟨"com/example/gatemark/gatemark/model/AttributeValue", "isRead", "()Z"⟩ : MethodName) (head1 (Jvm.Cond.code (⟨"com/example/gatemark/gatemark/model/AttributeValue", "isRead", "()Z"⟩ : MethodName) prog_181_method_3_code 1 (some .boolean) :: ws) ({ frames := 0, cells := 0, slots := 0, locals := 0 } : Room)) (fun a U => a = #[(.ref a1)] ∧ Z.Warmed39 U.vm ∧ U.heap = h0) (fun _ _ _ _ _ => True) (fun _ U o U' => ∃ v L, o = .returned v ∧ Qirs Z a1 w2 h0 n0 v U'.heap L ∧ FrameEnd U o U' L ({ frames := 0, cells := 0, slots := 0, locals := 0 } : Room).cells ({ frames := 0, cells := 0, slots := 0, locals := 0 } : Room).slots) := by
  refine MetFree.of_bodySF (plainFor_of_name pn_irs) hisR ?_
  intro p e s m args below meth c s₁ Bd hml0 hP hK
  obtain ⟨rfl, hZ, hh⟩ := hP
  have hx := Bd.exec
  have hby := Bd.bytes
  have hml : c.maxLocals = 1 := hml0
  have hown : s.vm.findClass "com/example/gatemark/gatemark/model/AttributeValue" = some m.cls := findClass_of_methodNamed Bd.named
  have hnm := (name_of_methodNamed Bd.named Bd.method).1
  have hlk : meth.locks = false := BodyLoose.notSynchronized Bd
  have X0 : Stand p l e ({ frames := 0, cells := 0, slots := 0, locals := 0 } : Room) s m #[(.ref a1)] below meth c s₁ [] 0 0 := Stand.of_body Bd
  have e0 : s₁.heap = h0 := by rw [← hh, Bd.state]; rfl
  have N0 := Fr.nil n0
  obtain ⟨G, hG⟩ : ∃ G : Outcome → State → Prop, G = fun o u => ∃ v L, o = .returned v ∧ Qirs Z a1 w2 h0 n0 v u.heap L ∧ FrameEnd s o u L ({ frames := 0, cells := 0, slots := 0, locals := 0 } : Room).cells ({ frames := 0, cells := 0, slots := 0, locals := 0 } : Room).slots := ⟨_, rfl⟩
  suffices hgo : Owe p.tables e below G s₁ (mkF m 0 #[.val (.ref a1)] []) by
    obtain ⟨u, o, h1, h2, h3, h4⟩ := hgo
    exact ⟨u, o, castTop (ef_irs m a1) h1, h2, h3, by rw [hG] at h4; exact h4⟩
  refine Owe.aloadN X0.here hx (hb hby d5_0) rfl rfl ?_
  refine Owe.getf X0 hx hZ (host := "") hown (Or.inl (hw _ (List.mem_of_getElem? (i := 65) rfl))) Via.refl e0 Fvalue_a1 (hb hby d5_1) rfl fun T103 X103 e103 => ?_
  refine Owe.instNo X103 hx hZ hown (hw _ (List.mem_of_getElem? (i := 43) rfl)) e103 E_w2 (own_no_0 hw) (hb hby d5_4) rfl fun T104 X104 e104 => ?_
  refine Owe.ifNo X104.here hx (hb hby d5_7) rfl ((if0 _ _).trans (teq (by decide)).2) ?_
  refine Owe.iconst X104.here hx (hb hby d5_10) (w := (1 : Int32)) rfl ?_
  refine Owe.goto X104.here hx (hb hby d5_11) (pc' := 15) (by decide) (by decide) ?_
  refine Owe.retN X104 hx hlk (t := .boolean) Bd.returns (by simp) (hb hby d5_15) rfl fun fs hE => ?_
  rw [hG]
  refine ⟨_, _, rfl, ?_, frameMono hE (by decide) (by decide)⟩
  show Qirs Z a1 w2 h0 n0 _ T104.heap _
  rw [e104]
  exact ⟨rfl, N0, rfl⟩
theorem pn_iri : plainName "com/example/gatemark/gatemark/model/AttributeValue" = true := by first | (simp [plainName, overriddenIn]; done) | decide +kernel
theorem ef_iri (m : MethodId) (x0 : Addr)  : entryFrame m #[(.ref x0)] 1 = mkF m 0 #[.val (.ref x0)] [] := by first | (simp [entryFrame, mkF, argsToLocals, Value.category]; done) | rfl
def Qiri (Z : State) (a1 : Addr) (w2 : Addr) (h0 : Heap) (n0 : Nat) (v : Option Value) (h : Heap) (L : List Loc) : Prop := v = some (.int (1 : Int32)) ∧ Fr n0 L ∧ h = h0
set_option maxRecDepth 65536 in
set_option maxHeartbeats 40000000 in
theorem rmiri (l : Launch) (Z : State) (a0 : Array Value) (hw : ∀ d ∈ tables_1, d.before a0 Z = true) (ws : List Jvm.Cond) (a1 : Addr) (w2 : Addr) (h0 : Heap) (n0 : Nat) (Z0 : n0 ≤ h0.size) (Fvalue_a1 : Fld Z h0 a1 "com/example/gatemark/gatemark/model/AttributeValue" "value" "Ljava/lang/Object;" (.ref w2)) (E_w2 : Exa Z h0 w2 "java/lang/Integer") :
    MetFree l (⟨"com/example/gatemark/gatemark/model/AttributeValue", "isRead", "()Z"⟩ : MethodName) (head1 (Jvm.Cond.code (⟨"com/example/gatemark/gatemark/model/AttributeValue", "isRead", "()Z"⟩ : MethodName) prog_181_method_3_code 1 (some .boolean) :: ws) ({ frames := 0, cells := 0, slots := 0, locals := 0 } : Room)) (fun a U => a = #[(.ref a1)] ∧ Z.Warmed39 U.vm ∧ U.heap = h0) (fun _ _ _ _ _ => True) (fun _ U o U' => ∃ v L, o = .returned v ∧ Qiri Z a1 w2 h0 n0 v U'.heap L ∧ FrameEnd U o U' L ({ frames := 0, cells := 0, slots := 0, locals := 0 } : Room).cells ({ frames := 0, cells := 0, slots := 0, locals := 0 } : Room).slots) := by
  refine MetFree.of_bodySF (plainFor_of_name pn_iri) hisR ?_
  intro p e s m args below meth c s₁ Bd hml0 hP hK
  obtain ⟨rfl, hZ, hh⟩ := hP
  have hx := Bd.exec
  have hby := Bd.bytes
  have hml : c.maxLocals = 1 := hml0
  have hown : s.vm.findClass "com/example/gatemark/gatemark/model/AttributeValue" = some m.cls := findClass_of_methodNamed Bd.named
  have hnm := (name_of_methodNamed Bd.named Bd.method).1
  have hlk : meth.locks = false := BodyLoose.notSynchronized Bd
  have X0 : Stand p l e ({ frames := 0, cells := 0, slots := 0, locals := 0 } : Room) s m #[(.ref a1)] below meth c s₁ [] 0 0 := Stand.of_body Bd
  have e0 : s₁.heap = h0 := by rw [← hh, Bd.state]; rfl
  have N0 := Fr.nil n0
  obtain ⟨G, hG⟩ : ∃ G : Outcome → State → Prop, G = fun o u => ∃ v L, o = .returned v ∧ Qiri Z a1 w2 h0 n0 v u.heap L ∧ FrameEnd s o u L ({ frames := 0, cells := 0, slots := 0, locals := 0 } : Room).cells ({ frames := 0, cells := 0, slots := 0, locals := 0 } : Room).slots := ⟨_, rfl⟩
  suffices hgo : Owe p.tables e below G s₁ (mkF m 0 #[.val (.ref a1)] []) by
    obtain ⟨u, o, h1, h2, h3, h4⟩ := hgo
    exact ⟨u, o, castTop (ef_iri m a1) h1, h2, h3, by rw [hG] at h4; exact h4⟩
  refine Owe.aloadN X0.here hx (hb hby d5_0) rfl rfl ?_
  refine Owe.getf X0 hx hZ (host := "") hown (Or.inl (hw _ (List.mem_of_getElem? (i := 65) rfl))) Via.refl e0 Fvalue_a1 (hb hby d5_1) rfl fun T105 X105 e105 => ?_
  refine Owe.instNo X105 hx hZ hown (hw _ (List.mem_of_getElem? (i := 43) rfl)) e105 E_w2 (own_no_2 hw) (hb hby d5_4) rfl fun T106 X106 e106 => ?_
  refine Owe.ifNo X106.here hx (hb hby d5_7) rfl ((if0 _ _).trans (teq (by decide)).2) ?_
  refine Owe.iconst X106.here hx (hb hby d5_10) (w := (1 : Int32)) rfl ?_
  refine Owe.goto X106.here hx (hb hby d5_11) (pc' := 15) (by decide) (by decide) ?_
  refine Owe.retN X106 hx hlk (t := .boolean) Bd.returns (by simp) (hb hby d5_15) rfl fun fs hE => ?_
  rw [hG]
  refine ⟨_, _, rfl, ?_, frameMono hE (by decide) (by decide)⟩
  show Qiri Z a1 w2 h0 n0 _ T106.heap _
  rw [e106]
  exact ⟨rfl, N0, rfl⟩
theorem pn_ira : plainName "com/example/gatemark/gatemark/model/AttributeValue" = true := by first | (simp [plainName, overriddenIn]; done) | decide +kernel
theorem ef_ira (m : MethodId) (x0 : Addr)  : entryFrame m #[(.ref x0)] 1 = mkF m 0 #[.val (.ref x0)] [] := by first | (simp [entryFrame, mkF, argsToLocals, Value.category]; done) | rfl
def Qira (Z : State) (a1 : Addr) (w2 : Addr) (h0 : Heap) (n0 : Nat) (v : Option Value) (h : Heap) (L : List Loc) : Prop := v = some (.int (1 : Int32)) ∧ Fr n0 L ∧ h = h0
set_option maxRecDepth 65536 in
set_option maxHeartbeats 40000000 in
theorem rmira (l : Launch) (Z : State) (a0 : Array Value) (hw : ∀ d ∈ tables_1, d.before a0 Z = true) (ws : List Jvm.Cond) (a1 : Addr) (w2 : Addr) (h0 : Heap) (n0 : Nat) (Z0 : n0 ≤ h0.size) (Fvalue_a1 : Fld Z h0 a1 "com/example/gatemark/gatemark/model/AttributeValue" "value" "Ljava/lang/Object;" (.ref w2)) (E_w2 : Exa Z h0 w2 "com/example/gatemark/gatemark/model/AttributeValue") :
    MetFree l (⟨"com/example/gatemark/gatemark/model/AttributeValue", "isRead", "()Z"⟩ : MethodName) (head1 (Jvm.Cond.code (⟨"com/example/gatemark/gatemark/model/AttributeValue", "isRead", "()Z"⟩ : MethodName) prog_181_method_3_code 1 (some .boolean) :: ws) ({ frames := 0, cells := 0, slots := 0, locals := 0 } : Room)) (fun a U => a = #[(.ref a1)] ∧ Z.Warmed39 U.vm ∧ U.heap = h0) (fun _ _ _ _ _ => True) (fun _ U o U' => ∃ v L, o = .returned v ∧ Qira Z a1 w2 h0 n0 v U'.heap L ∧ FrameEnd U o U' L ({ frames := 0, cells := 0, slots := 0, locals := 0 } : Room).cells ({ frames := 0, cells := 0, slots := 0, locals := 0 } : Room).slots) := by
  refine MetFree.of_bodySF (plainFor_of_name pn_ira) hisR ?_
  intro p e s m args below meth c s₁ Bd hml0 hP hK
  obtain ⟨rfl, hZ, hh⟩ := hP
  have hx := Bd.exec
  have hby := Bd.bytes
  have hml : c.maxLocals = 1 := hml0
  have hown : s.vm.findClass "com/example/gatemark/gatemark/model/AttributeValue" = some m.cls := findClass_of_methodNamed Bd.named
  have hnm := (name_of_methodNamed Bd.named Bd.method).1
  have hlk : meth.locks = false := BodyLoose.notSynchronized Bd
  have X0 : Stand p l e ({ frames := 0, cells := 0, slots := 0, locals := 0 } : Room) s m #[(.ref a1)] below meth c s₁ [] 0 0 := Stand.of_body Bd
  have e0 : s₁.heap = h0 := by rw [← hh, Bd.state]; rfl
  have N0 := Fr.nil n0
  obtain ⟨G, hG⟩ : ∃ G : Outcome → State → Prop, G = fun o u => ∃ v L, o = .returned v ∧ Qira Z a1 w2 h0 n0 v u.heap L ∧ FrameEnd s o u L ({ frames := 0, cells := 0, slots := 0, locals := 0 } : Room).cells ({ frames := 0, cells := 0, slots := 0, locals := 0 } : Room).slots := ⟨_, rfl⟩
  suffices hgo : Owe p.tables e below G s₁ (mkF m 0 #[.val (.ref a1)] []) by
    obtain ⟨u, o, h1, h2, h3, h4⟩ := hgo
    exact ⟨u, o, castTop (ef_ira m a1) h1, h2, h3, by rw [hG] at h4; exact h4⟩
  refine Owe.aloadN X0.here hx (hb hby d5_0) rfl rfl ?_
  refine Owe.getf X0 hx hZ (host := "") hown (Or.inl (hw _ (List.mem_of_getElem? (i := 65) rfl))) Via.refl e0 Fvalue_a1 (hb hby d5_1) rfl fun T107 X107 e107 => ?_
  refine Owe.instNo X107 hx hZ hown (hw _ (List.mem_of_getElem? (i := 43) rfl)) e107 E_w2 (own_no_1 hw) (hb hby d5_4) rfl fun T108 X108 e108 => ?_
  refine Owe.ifNo X108.here hx (hb hby d5_7) rfl ((if0 _ _).trans (teq (by decide)).2) ?_
  refine Owe.iconst X108.here hx (hb hby d5_10) (w := (1 : Int32)) rfl ?_
  refine Owe.goto X108.here hx (hb hby d5_11) (pc' := 15) (by decide) (by decide) ?_
  refine Owe.retN X108 hx hlk (t := .boolean) Bd.returns (by simp) (hb hby d5_15) rfl fun fs hE => ?_
  rw [hG]
  refine ⟨_, _, rfl, ?_, frameMono hE (by decide) (by decide)⟩
  show Qira Z a1 w2 h0 n0 _ T108.heap _
  rw [e108]
  exact ⟨rfl, N0, rfl⟩
theorem pn_iru : plainName "com/example/gatemark/gatemark/model/AttributeValue" = true := by first | (simp [plainName, overriddenIn]; done) | decide +kernel
theorem ef_iru (m : MethodId) (x0 : Addr)  : entryFrame m #[(.ref x0)] 1 = mkF m 0 #[.val (.ref x0)] [] := by first | (simp [entryFrame, mkF, argsToLocals, Value.category]; done) | rfl
def Qiru (Z : State) (a1 : Addr) (w2 : Addr) (h0 : Heap) (n0 : Nat) (v : Option Value) (h : Heap) (L : List Loc) : Prop := v = some (.int (0 : Int32)) ∧ Fr n0 L ∧ h = h0
set_option maxRecDepth 65536 in
set_option maxHeartbeats 40000000 in
theorem rmiru (l : Launch) (Z : State) (a0 : Array Value) (hw : ∀ d ∈ tables_1, d.before a0 Z = true) (ws : List Jvm.Cond) (a1 : Addr) (w2 : Addr) (h0 : Heap) (n0 : Nat) (Z0 : n0 ≤ h0.size) (Fvalue_a1 : Fld Z h0 a1 "com/example/gatemark/gatemark/model/AttributeValue" "value" "Ljava/lang/Object;" (.ref w2)) (E_w2 : Exa Z h0 w2 "com/example/gatemark/gatemark/model/AttributeValue$Unread") :
    MetFree l (⟨"com/example/gatemark/gatemark/model/AttributeValue", "isRead", "()Z"⟩ : MethodName) (head1 (Jvm.Cond.code (⟨"com/example/gatemark/gatemark/model/AttributeValue", "isRead", "()Z"⟩ : MethodName) prog_181_method_3_code 1 (some .boolean) :: ws) ({ frames := 0, cells := 0, slots := 0, locals := 0 } : Room)) (fun a U => a = #[(.ref a1)] ∧ Z.Warmed39 U.vm ∧ U.heap = h0) (fun _ _ _ _ _ => True) (fun _ U o U' => ∃ v L, o = .returned v ∧ Qiru Z a1 w2 h0 n0 v U'.heap L ∧ FrameEnd U o U' L ({ frames := 0, cells := 0, slots := 0, locals := 0 } : Room).cells ({ frames := 0, cells := 0, slots := 0, locals := 0 } : Room).slots) := by
  refine MetFree.of_bodySF (plainFor_of_name pn_iru) hisR ?_
  intro p e s m args below meth c s₁ Bd hml0 hP hK
  obtain ⟨rfl, hZ, hh⟩ := hP
  have hx := Bd.exec
  have hby := Bd.bytes
  have hml : c.maxLocals = 1 := hml0
  have hown : s.vm.findClass "com/example/gatemark/gatemark/model/AttributeValue" = some m.cls := findClass_of_methodNamed Bd.named
  have hnm := (name_of_methodNamed Bd.named Bd.method).1
  have hlk : meth.locks = false := BodyLoose.notSynchronized Bd
  have X0 : Stand p l e ({ frames := 0, cells := 0, slots := 0, locals := 0 } : Room) s m #[(.ref a1)] below meth c s₁ [] 0 0 := Stand.of_body Bd
  have e0 : s₁.heap = h0 := by rw [← hh, Bd.state]; rfl
  have N0 := Fr.nil n0
  obtain ⟨G, hG⟩ : ∃ G : Outcome → State → Prop, G = fun o u => ∃ v L, o = .returned v ∧ Qiru Z a1 w2 h0 n0 v u.heap L ∧ FrameEnd s o u L ({ frames := 0, cells := 0, slots := 0, locals := 0 } : Room).cells ({ frames := 0, cells := 0, slots := 0, locals := 0 } : Room).slots := ⟨_, rfl⟩
  suffices hgo : Owe p.tables e below G s₁ (mkF m 0 #[.val (.ref a1)] []) by
    obtain ⟨u, o, h1, h2, h3, h4⟩ := hgo
    exact ⟨u, o, castTop (ef_iru m a1) h1, h2, h3, by rw [hG] at h4; exact h4⟩
  refine Owe.aloadN X0.here hx (hb hby d5_0) rfl rfl ?_
  refine Owe.getf X0 hx hZ (host := "") hown (Or.inl (hw _ (List.mem_of_getElem? (i := 65) rfl))) Via.refl e0 Fvalue_a1 (hb hby d5_1) rfl fun T109 X109 e109 => ?_
  refine Owe.instY X109 hx hZ hown (hw _ (List.mem_of_getElem? (i := 43) rfl)) e109 (Ins.self E_w2) (hb hby d5_4) rfl fun T110 X110 e110 => ?_
  refine Owe.ifYes X110.here hx (hb hby d5_7) rfl ((if0 _ _).trans (feq (by decide)).2) (pc' := 14) (by decide) (by decide) ?_
  refine Owe.iconst X110.here hx (hb hby d5_14) (w := (0 : Int32)) rfl ?_
  refine Owe.retN X110 hx hlk (t := .boolean) Bd.returns (by simp) (hb hby d5_15) rfl fun fs hE => ?_
  rw [hG]
  refine ⟨_, _, rfl, ?_, frameMono hE (by decide) (by decide)⟩
  show Qiru Z a1 w2 h0 n0 _ T110.heap _
  rw [e110]
  exact ⟨rfl, N0, rfl⟩
theorem pn_irn : plainName "com/example/gatemark/gatemark/model/AttributeValue" = true := by first | (simp [plainName, overriddenIn]; done) | decide +kernel
theorem ef_irn (m : MethodId) (x0 : Addr)  : entryFrame m #[(.ref x0)] 1 = mkF m 0 #[.val (.ref x0)] [] := by first | (simp [entryFrame, mkF, argsToLocals, Value.category]; done) | rfl
def Qirn (Z : State) (a1 : Addr) (h0 : Heap) (n0 : Nat) (v : Option Value) (h : Heap) (L : List Loc) : Prop := v = some (.int (1 : Int32)) ∧ Fr n0 L ∧ h = h0
set_option maxRecDepth 65536 in
set_option maxHeartbeats 40000000 in
theorem rmirn (l : Launch) (Z : State) (a0 : Array Value) (hw : ∀ d ∈ tables_1, d.before a0 Z = true) (ws : List Jvm.Cond) (a1 : Addr) (h0 : Heap) (n0 : Nat) (Z0 : n0 ≤ h0.size) (Fvalue_a1 : Fld Z h0 a1 "com/example/gatemark/gatemark/model/AttributeValue" "value" "Ljava/lang/Object;" .null) :
    MetFree l (⟨"com/example/gatemark/gatemark/model/AttributeValue", "isRead", "()Z"⟩ : MethodName) (head1 (Jvm.Cond.code (⟨"com/example/gatemark/gatemark/model/AttributeValue", "isRead", "()Z"⟩ : MethodName) prog_181_method_3_code 1 (some .boolean) :: ws) ({ frames := 0, cells := 0, slots := 0, locals := 0 } : Room)) (fun a U => a = #[(.ref a1)] ∧ Z.Warmed39 U.vm ∧ U.heap = h0) (fun _ _ _ _ _ => True) (fun _ U o U' => ∃ v L, o = .returned v ∧ Qirn Z a1 h0 n0 v U'.heap L ∧ FrameEnd U o U' L ({ frames := 0, cells := 0, slots := 0, locals := 0 } : Room).cells ({ frames := 0, cells := 0, slots := 0, locals := 0 } : Room).slots) := by
  refine MetFree.of_bodySF (plainFor_of_name pn_irn) hisR ?_
  intro p e s m args below meth c s₁ Bd hml0 hP hK
  obtain ⟨rfl, hZ, hh⟩ := hP
  have hx := Bd.exec
  have hby := Bd.bytes
  have hml : c.maxLocals = 1 := hml0
  have hown : s.vm.findClass "com/example/gatemark/gatemark/model/AttributeValue" = some m.cls := findClass_of_methodNamed Bd.named
  have hnm := (name_of_methodNamed Bd.named Bd.method).1
  have hlk : meth.locks = false := BodyLoose.notSynchronized Bd
  have X0 : Stand p l e ({ frames := 0, cells := 0, slots := 0, locals := 0 } : Room) s m #[(.ref a1)] below meth c s₁ [] 0 0 := Stand.of_body Bd
  have e0 : s₁.heap = h0 := by rw [← hh, Bd.state]; rfl
  have N0 := Fr.nil n0
  obtain ⟨G, hG⟩ : ∃ G : Outcome → State → Prop, G = fun o u => ∃ v L, o = .returned v ∧ Qirn Z a1 h0 n0 v u.heap L ∧ FrameEnd s o u L ({ frames := 0, cells := 0, slots := 0, locals := 0 } : Room).cells ({ frames := 0, cells := 0, slots := 0, locals := 0 } : Room).slots := ⟨_, rfl⟩
  suffices hgo : Owe p.tables e below G s₁ (mkF m 0 #[.val (.ref a1)] []) by
    obtain ⟨u, o, h1, h2, h3, h4⟩ := hgo
    exact ⟨u, o, castTop (ef_irn m a1) h1, h2, h3, by rw [hG] at h4; exact h4⟩
  refine Owe.aloadN X0.here hx (hb hby d5_0) rfl rfl ?_
  refine Owe.getf X0 hx hZ (host := "") hown (Or.inl (hw _ (List.mem_of_getElem? (i := 65) rfl))) Via.refl e0 Fvalue_a1 (hb hby d5_1) rfl fun T111 X111 e111 => ?_
  refine Owe.instNull X111 hx (hb hby d5_4) rfl ?_
  refine Owe.ifNo X111.here hx (hb hby d5_7) rfl ((if0 _ _).trans (teq (by decide)).2) ?_
  refine Owe.iconst X111.here hx (hb hby d5_10) (w := (1 : Int32)) rfl ?_
  refine Owe.goto X111.here hx (hb hby d5_11) (pc' := 15) (by decide) (by decide) ?_
  refine Owe.retN X111 hx hlk (t := .boolean) Bd.returns (by simp) (hb hby d5_15) rfl fun fs hE => ?_
  rw [hG]
  refine ⟨_, _, rfl, ?_, frameMono hE (by decide) (by decide)⟩
  show Qirn Z a1 h0 n0 _ T111.heap _
  rw [e111]
  exact ⟨rfl, N0, rfl⟩
theorem d6_0 : decode prog_181_method_16_code 0 = .ok (.aload_n 0, 1) := by decide +kernel
theorem d6_1 : decode prog_181_method_16_code 1 = .ok (.getfield 13, 3) := by decide +kernel
theorem d6_4 : decode prog_181_method_16_code 4 = .ok (.areturn, 1) := by decide +kernel
theorem pn_gva : plainName "com/example/gatemark/gatemark/model/AttributeValue" = true := by first | (simp [plainName, overriddenIn]; done) | decide +kernel
theorem ef_gva (m : MethodId) (x0 : Addr)  : entryFrame m #[(.ref x0)] 1 = mkF m 0 #[.val (.ref x0)] [] := by first | (simp [entryFrame, mkF, argsToLocals, Value.category]; done) | rfl
def Qgva (Z : State) (a1 : Addr) (w2 : Addr) (h0 : Heap) (n0 : Nat) (v : Option Value) (h : Heap) (L : List Loc) : Prop := v = some (.ref w2) ∧ Fr n0 L ∧ h = h0
set_option maxRecDepth 65536 in
set_option maxHeartbeats 40000000 in
theorem rmgva (l : Launch) (Z : State) (a0 : Array Value) (hw : ∀ d ∈ tables_1, d.before a0 Z = true) (ws : List Jvm.Cond) (a1 : Addr) (w2 : Addr) (h0 : Heap) (n0 : Nat) (Z0 : n0 ≤ h0.size) (Fvalue_a1 : Fld Z h0 a1 "com/example/gatemark/gatemark/model/AttributeValue" "value" "Ljava/lang/Object;" (.ref w2)) :
    MetFree l (⟨"com/example/gatemark/gatemark/model/AttributeValue", "value", "()Ljava/lang/Object;"⟩ : MethodName) (head1 (Jvm.Cond.code (⟨"com/example/gatemark/gatemark/model/AttributeValue", "value", "()Ljava/lang/Object;"⟩ : MethodName) prog_181_method_16_code 1 (some (.object "java/lang/Object")) :: ws) ({ frames := 0, cells := 0, slots := 0, locals := 0 } : Room)) (fun a U => a = #[(.ref a1)] ∧ Z.Warmed39 U.vm ∧ U.heap = h0) (fun _ _ _ _ _ => True) (fun _ U o U' => ∃ v L, o = .returned v ∧ Qgva Z a1 w2 h0 n0 v U'.heap L ∧ FrameEnd U o U' L ({ frames := 0, cells := 0, slots := 0, locals := 0 } : Room).cells ({ frames := 0, cells := 0, slots := 0, locals := 0 } : Room).slots) := by
  refine MetFree.of_bodySF (plainFor_of_name pn_gva) hisR ?_
  intro p e s m args below meth c s₁ Bd hml0 hP hK
  obtain ⟨rfl, hZ, hh⟩ := hP
  have hx := Bd.exec
  have hby := Bd.bytes
  have hml : c.maxLocals = 1 := hml0
  have hown : s.vm.findClass "com/example/gatemark/gatemark/model/AttributeValue" = some m.cls := findClass_of_methodNamed Bd.named
  have hnm := (name_of_methodNamed Bd.named Bd.method).1
  have hlk : meth.locks = false := BodyLoose.notSynchronized Bd
  have X0 : Stand p l e ({ frames := 0, cells := 0, slots := 0, locals := 0 } : Room) s m #[(.ref a1)] below meth c s₁ [] 0 0 := Stand.of_body Bd
  have e0 : s₁.heap = h0 := by rw [← hh, Bd.state]; rfl
  have N0 := Fr.nil n0
  obtain ⟨G, hG⟩ : ∃ G : Outcome → State → Prop, G = fun o u => ∃ v L, o = .returned v ∧ Qgva Z a1 w2 h0 n0 v u.heap L ∧ FrameEnd s o u L ({ frames := 0, cells := 0, slots := 0, locals := 0 } : Room).cells ({ frames := 0, cells := 0, slots := 0, locals := 0 } : Room).slots := ⟨_, rfl⟩
  suffices hgo : Owe p.tables e below G s₁ (mkF m 0 #[.val (.ref a1)] []) by
    obtain ⟨u, o, h1, h2, h3, h4⟩ := hgo
    exact ⟨u, o, castTop (ef_gva m a1) h1, h2, h3, by rw [hG] at h4; exact h4⟩
  refine Owe.aloadN X0.here hx (hb hby d6_0) rfl rfl ?_
  refine Owe.getf X0 hx hZ (host := "") hown (Or.inl (hw _ (List.mem_of_getElem? (i := 65) rfl))) Via.refl e0 Fvalue_a1 (hb hby d6_1) rfl fun T113 X113 e113 => ?_
  refine Owe.retR X113 hx hlk (t := (.object "java/lang/Object")) Bd.returns rfl rfl rfl (hb hby d6_4) rfl fun fs hE => ?_
  rw [hG]
  refine ⟨_, _, rfl, ?_, frameMono hE (by decide) (by decide)⟩
  show Qgva Z a1 w2 h0 n0 _ T113.heap _
  rw [e113]
  exact ⟨rfl, N0, rfl⟩
theorem d7_0 : decode jdk_18_method_1_code 0 = .ok (.aload_n 0, 1) := by decide +kernel
theorem d7_1 : decode jdk_18_method_1_code 1 = .ok (.invokespecial 1, 3) := by decide +kernel
theorem d7_4 : decode jdk_18_method_1_code 4 = .ok (.return_, 1) := by decide +kernel
theorem pn_num : plainName "java/lang/Number" = true := by first | (simp [plainName, overriddenIn]; done) | decide +kernel
theorem ef_num (m : MethodId) (x0 : Addr)  : entryFrame m #[(.ref x0)] 1 = mkF m 0 #[.val (.ref x0)] [] := by first | (simp [entryFrame, mkF, argsToLocals, Value.category]; done) | rfl
def Qnum (Z : State) (a1 : Addr) (h0 : Heap) (n0 : Nat) (v : Option Value) (h : Heap) (L : List Loc) : Prop := v = none ∧ Fr n0 L ∧ h = h0
set_option maxRecDepth 65536 in
set_option maxHeartbeats 40000000 in
theorem rmnum (l : Launch) (Z : State) (a0 : Array Value) (hw : ∀ d ∈ tables_1, d.before a0 Z = true) (ws : List Jvm.Cond) (a1 : Addr) (h0 : Heap) (n0 : Nat) (Z0 : n0 ≤ h0.size)  :
    MetFree l (⟨"java/lang/Number", "<init>", "()V"⟩ : MethodName) (head1 (Jvm.Cond.code (⟨"java/lang/Number", "<init>", "()V"⟩ : MethodName) jdk_18_method_1_code 1 none :: ws) ({ frames := 1, cells := 0, slots := 0, locals := 12 } : Room)) (fun a U => a = #[(.ref a1)] ∧ Z.Warmed39 U.vm ∧ U.heap = h0) (fun _ _ _ _ _ => True) (fun _ U o U' => ∃ v L, o = .returned v ∧ Qnum Z a1 h0 n0 v U'.heap L ∧ FrameEnd U o U' L ({ frames := 1, cells := 0, slots := 0, locals := 12 } : Room).cells ({ frames := 1, cells := 0, slots := 0, locals := 12 } : Room).slots) := by
  refine MetFree.of_bodySF (plainFor_of_name pn_num) hisR ?_
  intro p e s m args below meth c s₁ Bd hml0 hP hK
  obtain ⟨rfl, hZ, hh⟩ := hP
  have hx := Bd.exec
  have hby := Bd.bytes
  have hml : c.maxLocals = 1 := hml0
  have hown : s.vm.findClass "java/lang/Number" = some m.cls := findClass_of_methodNamed Bd.named
  have hnm := (name_of_methodNamed Bd.named Bd.method).1
  have hlk : meth.locks = false := BodyLoose.notSynchronized Bd
  have X0 : Stand p l e ({ frames := 1, cells := 0, slots := 0, locals := 12 } : Room) s m #[(.ref a1)] below meth c s₁ [] 0 0 := Stand.of_body Bd
  have e0 : s₁.heap = h0 := by rw [← hh, Bd.state]; rfl
  have N0 := Fr.nil n0
  obtain ⟨G, hG⟩ : ∃ G : Outcome → State → Prop, G = fun o u => ∃ v L, o = .returned v ∧ Qnum Z a1 h0 n0 v u.heap L ∧ FrameEnd s o u L ({ frames := 1, cells := 0, slots := 0, locals := 12 } : Room).cells ({ frames := 1, cells := 0, slots := 0, locals := 12 } : Room).slots := ⟨_, rfl⟩
  suffices hgo : Owe p.tables e below G s₁ (mkF m 0 #[.val (.ref a1)] []) by
    obtain ⟨u, o, h1, h2, h3, h4⟩ := hgo
    exact ⟨u, o, castTop (ef_num m a1) h1, h2, h3, by rw [hG] at h4; exact h4⟩
  refine Owe.aloadN X0.here hx (hb hby d7_0) rfl rfl ?_
  refine Owe.objinit X0 hx hZ hown (hw _ (List.mem_of_getElem? (i := 112) rfl)) (hw _ (List.mem_of_getElem? (i := 19) rfl)) (hw _ (List.mem_of_getElem? (i := 20) rfl)) e0 (by rw [hml]; rfl) rfl (hb hby d7_1) (by decide) (W := 0) (Nat.le_of_ble_eq_true rfl) (by decide) fun T114 X114 e114 => ?_
  refine Owe.ret0 X114 hx hlk Bd.returns (hb hby d7_4) rfl fun fs hE => ?_
  rw [hG]
  refine ⟨_, _, rfl, ?_, frameMono hE (by decide) (by decide)⟩
  show Qnum Z a1 h0 n0 _ T114.heap _
  rw [e114]
  exact ⟨rfl, N0, rfl⟩
theorem d8_0 : decode jdk_33_method_23_code 0 = .ok (.aload_n 0, 1) := by decide +kernel
theorem d8_1 : decode jdk_33_method_23_code 1 = .ok (.invokespecial 202, 3) := by decide +kernel
theorem d8_4 : decode jdk_33_method_23_code 4 = .ok (.aload_n 0, 1) := by decide +kernel
theorem d8_5 : decode jdk_33_method_23_code 5 = .ok (.iload_n 1, 1) := by decide +kernel
theorem d8_6 : decode jdk_33_method_23_code 6 = .ok (.putfield 205, 3) := by decide +kernel
theorem d8_9 : decode jdk_33_method_23_code 9 = .ok (.return_, 1) := by decide +kernel
theorem pn_iin : plainName "java/lang/Integer" = true := by first | (simp [plainName, overriddenIn]; done) | decide +kernel
theorem ef_iin (m : MethodId) (x0 : Addr) (x1 : Int32)  : entryFrame m #[(.ref x0), (.int x1)] 2 = mkF m 0 #[.val (.ref x0), .val (.int x1)] [] := by first | (simp [entryFrame, mkF, argsToLocals, Value.category]; done) | rfl
def Qiin (Z : State) (a1 : Addr) (p2 : Int32) (u_v : Value) (h0 : Heap) (n0 : Nat) (v : Option Value) (h : Heap) (L : List Loc) : Prop := v = none ∧ Fr n0 L ∧ Keep h0 h [a1] ∧ Exa Z h a1 "java/lang/Integer"
set_option maxRecDepth 65536 in
set_option maxHeartbeats 40000000 in
theorem rmiin (l : Launch) (Z : State) (a0 : Array Value) (hw : ∀ d ∈ tables_1, d.before a0 Z = true) (ws : List Jvm.Cond) (a1 : Addr) (p2 : Int32) (u_v : Value) (h0 : Heap) (n0 : Nat) (Z0 : n0 ≤ h0.size) (E_a1 : Exa Z h0 a1 "java/lang/Integer") (Fvalue_a1 : Fld Z h0 a1 "java/lang/Integer" "value" "I" u_v) (ge_a1 : n0 ≤ a1) :
    MetFree l (⟨"java/lang/Integer", "<init>", "(I)V"⟩ : MethodName) (head1 (Jvm.Cond.code (⟨"java/lang/Integer", "<init>", "(I)V"⟩ : MethodName) jdk_33_method_23_code 2 none :: ws) ({ frames := 2, cells := 0, slots := 0, locals := 24 } : Room)) (fun a U => a = #[(.ref a1), (.int p2)] ∧ Z.Warmed39 U.vm ∧ U.heap = h0) (fun _ _ _ _ _ => True) (fun _ U o U' => ∃ v L, o = .returned v ∧ Qiin Z a1 p2 u_v h0 n0 v U'.heap L ∧ FrameEnd U o U' L ({ frames := 2, cells := 0, slots := 0, locals := 24 } : Room).cells ({ frames := 2, cells := 0, slots := 0, locals := 24 } : Room).slots) := by
  refine MetFree.of_bodySF (plainFor_of_name pn_iin) hisR ?_
  intro p e s m args below meth c s₁ Bd hml0 hP hK
  obtain ⟨rfl, hZ, hh⟩ := hP
  have hx := Bd.exec
  have hby := Bd.bytes
  have hml : c.maxLocals = 2 := hml0
  have hown : s.vm.findClass "java/lang/Integer" = some m.cls := findClass_of_methodNamed Bd.named
  have hnm := (name_of_methodNamed Bd.named Bd.method).1
  have hlk : meth.locks = false := BodyLoose.notSynchronized Bd
  have X0 : Stand p l e ({ frames := 2, cells := 0, slots := 0, locals := 24 } : Room) s m #[(.ref a1), (.int p2)] below meth c s₁ [] 0 0 := Stand.of_body Bd
  have e0 : s₁.heap = h0 := by rw [← hh, Bd.state]; rfl
  have N0 := Fr.nil n0
  have K0 := Keep.refl h0 [a1]
  obtain ⟨G, hG⟩ : ∃ G : Outcome → State → Prop, G = fun o u => ∃ v L, o = .returned v ∧ Qiin Z a1 p2 u_v h0 n0 v u.heap L ∧ FrameEnd s o u L ({ frames := 2, cells := 0, slots := 0, locals := 24 } : Room).cells ({ frames := 2, cells := 0, slots := 0, locals := 24 } : Room).slots := ⟨_, rfl⟩
  suffices hgo : Owe p.tables e below G s₁ (mkF m 0 #[.val (.ref a1), .val (.int p2)] []) by
    obtain ⟨u, o, h1, h2, h3, h4⟩ := hgo
    exact ⟨u, o, castTop (ef_iin m a1 p2) h1, h2, h3, by rw [hG] at h4; exact h4⟩
  refine Owe.aloadN X0.here hx (hb hby d8_0) rfl rfl ?_
  refine Owe.special X0 hx (y := (⟨"java/lang/Number", "<init>", "()V"⟩ : MethodName)) rfl hown (mvT hZ (hw _ (List.mem_of_getElem? (i := 106) rfl))) (mvT hZ (hw _ (List.mem_of_getElem? (i := 107) rfl))) (mvT hZ (hw _ (List.mem_of_getElem? (i := 111) rfl))) (by decide) (backOf (W := 0) (rmnum l Z a0 hw [] a1 h0 n0 Z0 ) hZ (hw _ (List.mem_of_getElem? (i := 111) rfl)) (hw _ (List.mem_of_getElem? (i := 110) rfl)) (by decide) (by decide)) (by rw [hml]; rfl) (a := a1) (argsL := []) (rest := []) (lenOf pd_0 rfl) rfl (Nat.le_of_ble_eq_true rfl) (hb hby d8_1) rfl e0 (by decide) (by decide) fun T115 v115 L115 X115 hQ115 => ?_
  obtain ⟨rfl, Nq115, e115⟩ := hQ115
  have N115 := Fr.app N0 Nq115
  refine Owe.aloadN X115.here hx (hb hby d8_4) rfl rfl ?_
  refine Owe.iloadN X115.here hx (hb hby d8_5) rfl ?_
  refine Owe.putf X115 hx hZ (host := "") hown (Or.inl (hw _ (List.mem_of_getElem? (i := 113) rfl))) Via.refl e115 Fvalue_a1 E_a1 (Or.inr ⟨(hw _ (List.mem_of_getElem? (i := 114) rfl)), rfl, hnm⟩) (hw _ (List.mem_of_getElem? (i := 101) rfl)) (ty := .int) (by decide) rfl rfl (hb hby d8_6) rfl fun T116 h116 X116 e116 W116 => ?_
  have K_117 := K0.wr W116 (Or.inl (List.mem_of_getElem? (i := 0) rfl))
  have E_a1_118 := E_a1.wr W116
  have Fvalue_a1_119 := Fvalue_a1.same W116
  have Z_120 := Nat.le_trans Z0 (Keep.of_wr W116).1
  have N116 := Fr.snoc X116 N115 ge_a1
  refine Owe.ret0 X116 hx hlk Bd.returns (hb hby d8_9) rfl fun fs hE => ?_
  rw [hG]
  refine ⟨_, _, rfl, ?_, frameMono hE (by decide) (by decide)⟩
  show Qiin Z a1 p2 u_v h0 n0 _ T116.heap _
  rw [e116]
  exact ⟨rfl, N116, K_117, E_a1_118⟩
theorem d9_0 : decode jdk_33_method_22_code 0 = .ok (.iload_n 0, 1) := by decide +kernel
theorem d9_1 : decode jdk_33_method_22_code 1 = .ok (.bipush (-128), 2) := by decide +kernel
theorem d9_3 : decode jdk_33_method_22_code 3 = .ok (.if_icmp .lt 20, 3) := by decide +kernel
theorem d9_6 : decode jdk_33_method_22_code 6 = .ok (.iload_n 0, 1) := by decide +kernel
theorem d9_7 : decode jdk_33_method_22_code 7 = .ok (.getstatic 191, 3) := by decide +kernel
theorem d9_10 : decode jdk_33_method_22_code 10 = .ok (.if_icmp .gt 13, 3) := by decide +kernel
theorem d9_13 : decode jdk_33_method_22_code 13 = .ok (.getstatic 195, 3) := by decide +kernel
theorem d9_16 : decode jdk_33_method_22_code 16 = .ok (.iload_n 0, 1) := by decide +kernel
theorem d9_17 : decode jdk_33_method_22_code 17 = .ok (.sipush 128, 3) := by decide +kernel
theorem d9_20 : decode jdk_33_method_22_code 20 = .ok (.iadd, 1) := by decide +kernel
theorem d9_21 : decode jdk_33_method_22_code 21 = .ok (.aaload, 1) := by decide +kernel
theorem d9_22 : decode jdk_33_method_22_code 22 = .ok (.areturn, 1) := by decide +kernel
theorem d9_23 : decode jdk_33_method_22_code 23 = .ok (.new 1, 3) := by decide +kernel
theorem d9_26 : decode jdk_33_method_22_code 26 = .ok (.dup, 1) := by decide +kernel
theorem d9_27 : decode jdk_33_method_22_code 27 = .ok (.iload_n 0, 1) := by decide +kernel
theorem d9_28 : decode jdk_33_method_22_code 28 = .ok (.invokespecial 199, 3) := by decide +kernel
theorem d9_31 : decode jdk_33_method_22_code 31 = .ok (.areturn, 1) := by decide +kernel
theorem pn_vin : plainName "java/lang/Integer" = true := by first | (simp [plainName, overriddenIn]; done) | decide +kernel
theorem ef_vin (m : MethodId) (x0 : Int32)  : entryFrame m #[(.int x0)] 1 = mkF m 0 #[.val (.int x0)] [] := by first | (simp [entryFrame, mkF, argsToLocals, Value.category]; done) | rfl
def Qvin (Z : State) (p1 : Int32) (ca : Addr) (cl : Cell) (h0 : Heap) (n0 : Nat) (v : Option Value) (h : Heap) (L : List Loc) : Prop := ∃ (x1 : Addr), v = some (.ref x1) ∧ Fr n0 L ∧ Keep h0 h [] ∧ Exa Z h x1 "java/lang/Integer"
set_option maxRecDepth 65536 in
set_option maxHeartbeats 40000000 in
theorem rmvin (l : Launch) (Z : State) (a0 : Array Value) (hw : ∀ d ∈ tables_1, d.before a0 Z = true) (ws : List Jvm.Cond) (p1 : Int32) (ca : Addr) (cl : Cell) (h0 : Heap) (n0 : Nat) (Z0 : n0 ≤ h0.size) (S_high : Sta Z Z.heap "java/lang/Integer$IntegerCache" "high" "I" (.int (127 : Int32))) (S_cache : Sta Z Z.heap "java/lang/Integer$IntegerCache" "cache" "[Ljava/lang/Integer;" (.ref ca)) (cArr : Jvm.RoadKit.Arr Z Z.heap ca cl (.object "java/lang/Integer")) (cSz : cl.slots.size = 256) (cEl : ∀ i, i < 256 → ∃ a, cl.slots[i]? = some (.ref a) ∧ Exa Z Z.heap a "java/lang/Integer") (Ol : Old Z n0 h0) :
    MetFree l (⟨"java/lang/Integer", "valueOf", "(I)Ljava/lang/Integer;"⟩ : MethodName) (head1 (Jvm.Cond.code (⟨"java/lang/Integer", "valueOf", "(I)Ljava/lang/Integer;"⟩ : MethodName) jdk_33_method_22_code 1 (some (.object "java/lang/Integer")) :: ws) ({ frames := 3, cells := 1, slots := 1, locals := 40 } : Room)) (fun a U => a = #[(.int p1)] ∧ Z.Warmed39 U.vm ∧ U.heap = h0) (fun _ _ _ _ _ => True) (fun _ U o U' => ∃ v L, o = .returned v ∧ Qvin Z p1 ca cl h0 n0 v U'.heap L ∧ FrameEnd U o U' L ({ frames := 3, cells := 1, slots := 1, locals := 40 } : Room).cells ({ frames := 3, cells := 1, slots := 1, locals := 40 } : Room).slots) := by
  refine MetFree.of_bodySF (plainFor_of_name pn_vin) hisR ?_
  intro p e s m args below meth c s₁ Bd hml0 hP hK
  obtain ⟨rfl, hZ, hh⟩ := hP
  have hx := Bd.exec
  have hby := Bd.bytes
  have hml : c.maxLocals = 1 := hml0
  have hown : s.vm.findClass "java/lang/Integer" = some m.cls := findClass_of_methodNamed Bd.named
  have hnm := (name_of_methodNamed Bd.named Bd.method).1
  have hlk : meth.locks = false := BodyLoose.notSynchronized Bd
  have X0 : Stand p l e ({ frames := 3, cells := 1, slots := 1, locals := 40 } : Room) s m #[(.int p1)] below meth c s₁ [] 0 0 := Stand.of_body Bd
  have e0 : s₁.heap = h0 := by rw [← hh, Bd.state]; rfl
  have N0 := Fr.nil n0
  have K0 := Keep.refl h0 []
  obtain ⟨G, hG⟩ : ∃ G : Outcome → State → Prop, G = fun o u => ∃ v L, o = .returned v ∧ Qvin Z p1 ca cl h0 n0 v u.heap L ∧ FrameEnd s o u L ({ frames := 3, cells := 1, slots := 1, locals := 40 } : Room).cells ({ frames := 3, cells := 1, slots := 1, locals := 40 } : Room).slots := ⟨_, rfl⟩
  suffices hgo : Owe p.tables e below G s₁ (mkF m 0 #[.val (.int p1)] []) by
    obtain ⟨u, o, h1, h2, h3, h4⟩ := hgo
    exact ⟨u, o, castTop (ef_vin m p1) h1, h2, h3, by rw [hG] at h4; exact h4⟩
  refine Owe.iloadN X0.here hx (hb hby d9_0) rfl ?_
  refine Owe.bipush X0.here hx (hb hby d9_1) (w := (-128 : Int32)) rfl ?_
  by_cases hc3_121 : p1 < (-128 : Int32)
  · skip
    refine Owe.icmpYes X0.here hx (hb hby d9_3) rfl (tlt hc3_121).1 (pc' := 23) (by decide) (by decide) ?_
    refine Owe.new X0 hx hZ hown (hw _ (List.mem_of_getElem? (i := 100) rfl)) (hw _ (List.mem_of_getElem? (i := 101) rfl)) (hw _ (List.mem_of_getElem? (i := 93) rfl)) e0 (hb hby d9_23) (by decide) (by decide) fun T122 h122 b122 g122 X122 e122 E122 A122 D122 => ?_
    have sz_b122 := Nat.le_trans K0.1 (Nat.le_of_eq g122.symm)
    have ge_b122 := Nat.le_trans Z0 (Nat.le_of_eq g122.symm)
    have K_123 := K0.ext E122
    have Ol_124 := Ol.ext E122
    have Z_125 := Nat.le_trans Z0 E122.1
    have Fvalue_b122 : Fld Z h122 b122 "java/lang/Integer" "value" "I" (.int (0 : Int32)) := D122 (Or.inr (hw _ (List.mem_of_getElem? (i := 114) rfl))) (ty := .int) (by decide)
    refine Owe.dup X122.here hx (hb hby d9_26) rfl rfl ?_
    refine Owe.iloadN X122.here hx (hb hby d9_27) rfl ?_
    refine Owe.special X122 hx (y := (⟨"java/lang/Integer", "<init>", "(I)V"⟩ : MethodName)) rfl hown (mvT hZ (hw _ (List.mem_of_getElem? (i := 102) rfl))) (mvT hZ (hw _ (List.mem_of_getElem? (i := 103) rfl))) (mvT hZ (hw _ (List.mem_of_getElem? (i := 105) rfl))) (by decide) (backOf (W := 1) (rmiin l Z a0 hw [] b122 p1 (.int (0 : Int32)) h122 n0 Z_125 A122 Fvalue_b122 ge_b122) hZ (hw _ (List.mem_of_getElem? (i := 105) rfl)) (hw _ (List.mem_of_getElem? (i := 93) rfl)) (by decide) (by decide)) (by rw [hml]; rfl) (a := b122) (argsL := [(.int p1)]) (rest := [(.ref b122)]) (lenOf pd_3 rfl) rfl (Nat.le_of_ble_eq_true rfl) (hb hby d9_28) rfl e122 (by decide) (by decide) fun T126 v126 L126 X126 hQ126 => ?_
    obtain ⟨rfl, Nq126, K126, E_a1_126⟩ := hQ126
    have N126 := Fr.app N0 Nq126
    have K_127 := K_123.trans K126 (allS (Or.inr sz_b122) all0)
    have Ol_128 := Ol_124.keep K126 (allS ge_b122 all0)
    have A122_129 := A122.keep K126
    have Z_130 := Nat.le_trans Z_125 K126.1
    refine Owe.retR X126 hx hlk (t := (.object "java/lang/Integer")) Bd.returns rfl rfl rfl (hb hby d9_31) rfl fun fs hE => ?_
    rw [hG]
    refine ⟨_, _, rfl, ?_, frameMono hE (by decide) (by decide)⟩
    show Qvin Z p1 ca cl h0 n0 _ T126.heap _
    exact ⟨b122, rfl, N126, K_127, E_a1_126⟩
  · skip
    refine Owe.icmpNo X0.here hx (hb hby d9_3) rfl (flt hc3_121).1 ?_
    refine Owe.iloadN X0.here hx (hb hby d9_6) rfl ?_
    refine Owe.gets X0 hx hZ hown (hw _ (List.mem_of_getElem? (i := 95) rfl)) Via.refl e0 (S_high.ext Ol.2) (hb hby d9_7) fun T131 X131 e131 => ?_
    by_cases hc10_132 : (127 : Int32) < p1
    · skip
      refine Owe.icmpYes X131.here hx (hb hby d9_10) rfl (tlt hc10_132).2.2.1 (pc' := 23) (by decide) (by decide) ?_
      refine Owe.new X131 hx hZ hown (hw _ (List.mem_of_getElem? (i := 100) rfl)) (hw _ (List.mem_of_getElem? (i := 101) rfl)) (hw _ (List.mem_of_getElem? (i := 93) rfl)) e131 (hb hby d9_23) (by decide) (by decide) fun T133 h133 b133 g133 X133 e133 E133 A133 D133 => ?_
      have sz_b133 := Nat.le_trans K0.1 (Nat.le_of_eq g133.symm)
      have ge_b133 := Nat.le_trans Z0 (Nat.le_of_eq g133.symm)
      have K_134 := K0.ext E133
      have Ol_135 := Ol.ext E133
      have Z_136 := Nat.le_trans Z0 E133.1
      have Fvalue_b133 : Fld Z h133 b133 "java/lang/Integer" "value" "I" (.int (0 : Int32)) := D133 (Or.inr (hw _ (List.mem_of_getElem? (i := 114) rfl))) (ty := .int) (by decide)
      refine Owe.dup X133.here hx (hb hby d9_26) rfl rfl ?_
      refine Owe.iloadN X133.here hx (hb hby d9_27) rfl ?_
      refine Owe.special X133 hx (y := (⟨"java/lang/Integer", "<init>", "(I)V"⟩ : MethodName)) rfl hown (mvT hZ (hw _ (List.mem_of_getElem? (i := 102) rfl))) (mvT hZ (hw _ (List.mem_of_getElem? (i := 103) rfl))) (mvT hZ (hw _ (List.mem_of_getElem? (i := 105) rfl))) (by decide) (backOf (W := 1) (rmiin l Z a0 hw [] b133 p1 (.int (0 : Int32)) h133 n0 Z_136 A133 Fvalue_b133 ge_b133) hZ (hw _ (List.mem_of_getElem? (i := 105) rfl)) (hw _ (List.mem_of_getElem? (i := 93) rfl)) (by decide) (by decide)) (by rw [hml]; rfl) (a := b133) (argsL := [(.int p1)]) (rest := [(.ref b133)]) (lenOf pd_3 rfl) rfl (Nat.le_of_ble_eq_true rfl) (hb hby d9_28) rfl e133 (by decide) (by decide) fun T137 v137 L137 X137 hQ137 => ?_
      obtain ⟨rfl, Nq137, K137, E_a1_137⟩ := hQ137
      have N137 := Fr.app N0 Nq137
      have K_138 := K_134.trans K137 (allS (Or.inr sz_b133) all0)
      have Ol_139 := Ol_135.keep K137 (allS ge_b133 all0)
      have A133_140 := A133.keep K137
      have Z_141 := Nat.le_trans Z_136 K137.1
      refine Owe.retR X137 hx hlk (t := (.object "java/lang/Integer")) Bd.returns rfl rfl rfl (hb hby d9_31) rfl fun fs hE => ?_
      rw [hG]
      refine ⟨_, _, rfl, ?_, frameMono hE (by decide) (by decide)⟩
      show Qvin Z p1 ca cl h0 n0 _ T137.heap _
      exact ⟨b133, rfl, N137, K_138, E_a1_137⟩
    · skip
      refine Owe.icmpNo X131.here hx (hb hby d9_10) rfl (flt hc10_132).2.2.1 ?_
      refine Owe.gets X131 hx hZ hown (hw _ (List.mem_of_getElem? (i := 97) rfl)) Via.refl e131 (S_cache.ext Ol.2) (hb hby d9_13) fun T142 X142 e142 => ?_
      refine Owe.iloadN X142.here hx (hb hby d9_16) rfl ?_
      refine Owe.sipush X142.here hx (hb hby d9_17) (w := (128 : Int32)) rfl ?_
      refine Owe.iadd X142.here hx (hb hby d9_20) rfl ?_
      have hi143 := own_idx p1 hc3_121 hc10_132
      obtain ⟨x143, he143, hE143⟩ := cEl _ (own_idx_lt hi143)
      refine Owe.aaload X142 hx hZ e142 (cArr.ext Ol.2) rfl (by rw [cSz]; exact hi143) he143 (hb hby d9_21) rfl ?_
      have Ei143 := hE143.ext Ol.2
      refine Owe.retR X142 hx hlk (t := (.object "java/lang/Integer")) Bd.returns rfl rfl rfl (hb hby d9_22) rfl fun fs hE => ?_
      rw [hG]
      refine ⟨_, _, rfl, ?_, frameMono hE (by decide) (by decide)⟩
      show Qvin Z p1 ca cl h0 n0 _ T142.heap _
      rw [e142]
      exact ⟨x143, rfl, N0, K0, Ei143⟩
theorem pn_0 : plainName "com/example/gatemark/gatemark/model/AttributeValueIsReadPinLaw" = true := by first | (simp [plainName, overriddenIn]; done) | decide +kernel
theorem ef_0 (m : MethodId) (x0 : Int32) (x1 : Int32) (x2 : Int32) (x3 : Int32) (x4 : Int32)  : entryFrame m #[(.int x0), (.int x1), (.int x2), (.int x3), (.int x4)] maxLocals = mkF m 0 #[.val (.int x0), .val (.int x1), .val (.int x2), .val (.int x3), .val (.int x4), .unset, .unset, .unset, .unset, .unset, .unset, .unset, .unset, .unset] [] := by first | (simp [entryFrame, mkF, argsToLocals, Value.category, maxLocals]; done) | rfl
def Q0 (Z : State) (p1 : Int32) (p2 : Int32) (p3 : Int32) (p4 : Int32) (p5 : Int32) (G1 : Int32) (d1 : Addr) (d3 : Addr) (d0 : Addr) (d2 : Addr) (ca : Addr) (cl : Cell) (h0 : Heap) (n0 : Nat) (v : Option Value) (h : Heap) (L : List Loc) : Prop := v = some (.int 1) ∧ Fr n0 L
set_option maxRecDepth 65536 in
set_option maxHeartbeats 40000000 in
theorem rm0 (l : Launch) (Z : State) (a0 : Array Value) (hw : ∀ d ∈ tables_1, d.before a0 Z = true) (ws : List Jvm.Cond) (p1 : Int32) (p2 : Int32) (p3 : Int32) (p4 : Int32) (p5 : Int32) (G1 : Int32) (d1 : Addr) (d3 : Addr) (d0 : Addr) (d2 : Addr) (ca : Addr) (cl : Cell) (h0 : Heap) (n0 : Nat) (Z0 : n0 ≤ h0.size) (S_COMPACT_STRINGS : Sta Z Z.heap "java/lang/String" "COMPACT_STRINGS" "Z" (.int G1)) (cs0 : ¬ (G1 = (0 : Int32))) (Ol : Old Z n0 h0) (S_INTEGER : Sta Z Z.heap "com/example/gatemark/gatemark/model/DataType" "INTEGER" "Lcom/example/gatemark/gatemark/model/DataType;" (.ref d1)) (E_d1 : Exa Z h0 d1 "com/example/gatemark/gatemark/model/DataType") (S_XPATH_EXPRESSION : Sta Z Z.heap "com/example/gatemark/gatemark/model/DataType" "XPATH_EXPRESSION" "Lcom/example/gatemark/gatemark/model/DataType;" (.ref d3)) (E_d3 : Exa Z h0 d3 "com/example/gatemark/gatemark/model/DataType") (S_STRING : Sta Z Z.heap "com/example/gatemark/gatemark/model/DataType" "STRING" "Lcom/example/gatemark/gatemark/model/DataType;" (.ref d0)) (E_d0 : Exa Z h0 d0 "com/example/gatemark/gatemark/model/DataType") (S_DOUBLE : Sta Z Z.heap "com/example/gatemark/gatemark/model/DataType" "DOUBLE" "Lcom/example/gatemark/gatemark/model/DataType;" (.ref d2)) (E_d2 : Exa Z h0 d2 "com/example/gatemark/gatemark/model/DataType") (S_high : Sta Z Z.heap "java/lang/Integer$IntegerCache" "high" "I" (.int (127 : Int32))) (S_cache : Sta Z Z.heap "java/lang/Integer$IntegerCache" "cache" "[Ljava/lang/Integer;" (.ref ca)) (cArr : Jvm.RoadKit.Arr Z Z.heap ca cl (.object "java/lang/Integer")) (cSz : cl.slots.size = 256) (cEl : ∀ i, i < 256 → ∃ a, cl.slots[i]? = some (.ref a) ∧ Exa Z Z.heap a "java/lang/Integer") :
    MetFree l x (head1 (Jvm.Cond.code x code maxLocals ret :: ws) room_1) (fun a U => a = #[(.int p1), (.int p2), (.int p3), (.int p4), (.int p5)] ∧ Z.Warmed39 U.vm ∧ U.heap = h0) (fun _ _ _ _ _ => True) (fun _ U o U' => ∃ v L, o = .returned v ∧ Q0 Z p1 p2 p3 p4 p5 G1 d1 d3 d0 d2 ca cl h0 n0 v U'.heap L ∧ FrameEnd U o U' L room_1.cells room_1.slots) := by
  refine MetFree.of_bodySF (plainFor_of_name pn_0) hisR ?_
  intro p e s m args below meth c s₁ Bd hml0 hP hK
  obtain ⟨rfl, hZ, hh⟩ := hP
  have hx := Bd.exec
  have hby := Bd.bytes
  have hml : c.maxLocals = 14 := hml0
  have hown : s.vm.findClass "com/example/gatemark/gatemark/model/AttributeValueIsReadPinLaw" = some m.cls := findClass_of_methodNamed Bd.named
  have hnm := (name_of_methodNamed Bd.named Bd.method).1
  have hlk : meth.locks = false := BodyLoose.notSynchronized Bd
  have X0 : Stand p l e room_1 s m #[(.int p1), (.int p2), (.int p3), (.int p4), (.int p5)] below meth c s₁ [] 0 0 := Stand.of_body Bd
  have e0 : s₁.heap = h0 := by rw [← hh, Bd.state]; rfl
  have N0 := Fr.nil n0
  obtain ⟨G, hG⟩ : ∃ G : Outcome → State → Prop, G = fun o u => ∃ v L, o = .returned v ∧ Q0 Z p1 p2 p3 p4 p5 G1 d1 d3 d0 d2 ca cl h0 n0 v u.heap L ∧ FrameEnd s o u L room_1.cells room_1.slots := ⟨_, rfl⟩
  suffices hgo : Owe p.tables e below G s₁ (mkF m 0 #[.val (.int p1), .val (.int p2), .val (.int p3), .val (.int p4), .val (.int p5), .unset, .unset, .unset, .unset, .unset, .unset, .unset, .unset, .unset] []) by
    obtain ⟨u, o, h1, h2, h3, h4⟩ := hgo
    exact ⟨u, o, castTop (ef_0 m p1 p2 p3 p4 p5) h1, h2, h3, by rw [hG] at h4; exact h4⟩
  have hws : ∀ d ∈ StrChars.Road.words, d.before a0 Z = true := fun d hd => hw d (own_words d hd)
  refine Owe.iloadN X0.here hx (hb hby at_0) rfl ?_
  refine Owe.stat X0 hx (y := (⟨"com/example/gatemark/gatemark/model/AttributeValueIsReadPinLaw", "pickType", "(I)Lcom/example/gatemark/gatemark/model/DataType;"⟩ : MethodName)) hown (mvT hZ (hw _ (List.mem_of_getElem? (i := 0) rfl))) (mvT hZ (hw _ (List.mem_of_getElem? (i := 1) rfl))) (mvT hZ (hw _ (List.mem_of_getElem? (i := 2) rfl))) (mvT hZ (hw _ (List.mem_of_getElem? (i := 3) rfl))) (by decide) (backOf (W := 0) (rmpic l Z a0 hw [] p4 d0 d1 d2 d3 h0 n0 Z0 S_INTEGER S_XPATH_EXPRESSION S_STRING S_DOUBLE Ol) hZ (hw _ (List.mem_of_getElem? (i := 3) rfl)) (hw _ (List.mem_of_getElem? (i := 2) rfl)) (by decide) (by decide)) (by rw [hml]; rfl) (argsL := [(.int p4)]) (rest := []) (lenOf pd_4 rfl) rfl (Nat.le_of_ble_eq_true rfl) (hb hby at_1) rfl e0 (by decide) (by decide) fun T144 v144 L144 X144 hQ144 => ?_
  obtain ⟨x1_144, rfl, Nq144, e144⟩ := hQ144
  have N144 := Fr.app N0 Nq144
  refine Owe.astore X144.here hx (hb hby at_4) rfl rfl (l' := #[.val (.int p1), .val (.int p2), .val (.int p3), .val (.int p4), .val (.int p5), .val (.ref x1_144), .unset, .unset, .unset, .unset, .unset, .unset, .unset, .unset]) rfl ?_
  refine Owe.iconst X144.here hx (hb hby at_6) (w := (2 : Int32)) rfl ?_
  refine Owe.newarr X144 hx hZ (aty := .char) (hw _ (List.mem_of_getElem? (i := 7) rfl)) e144 (hb hby at_7) rfl (by decide) (cap := 2) (by decide) (by decide) (by decide) (by decide) fun T145 h145 b145 k145 g145 X145 e145 E145 V145 => ?_
  have ne_d1_b145 : d1 ≠ b145 := Nat.ne_of_lt (Nat.lt_of_lt_of_le E_d1.lt (Nat.le_of_eq g145.symm))
  have ne_d3_b145 : d3 ≠ b145 := Nat.ne_of_lt (Nat.lt_of_lt_of_le E_d3.lt (Nat.le_of_eq g145.symm))
  have ne_d0_b145 : d0 ≠ b145 := Nat.ne_of_lt (Nat.lt_of_lt_of_le E_d0.lt (Nat.le_of_eq g145.symm))
  have ne_d2_b145 : d2 ≠ b145 := Nat.ne_of_lt (Nat.lt_of_lt_of_le E_d2.lt (Nat.le_of_eq g145.symm))
  have ge_b145 := Nat.le_trans Z0 (Nat.le_of_eq g145.symm)
  have Ol_146 := Ol.ext E145
  have E_d1_147 := E_d1.ext E145
  have E_d3_148 := E_d3.ext E145
  have E_d0_149 := E_d0.ext E145
  have E_d2_150 := E_d2.ext E145
  have Z_151 := Nat.le_trans Z0 E145.1
  have V_b145_145 : Arv Z h145 b145 k145 .char (2 : Int32) [(.int (0 : Int32)), (.int (0 : Int32))] (.int (0 : Int32)) := V145.pad (pad_rep [] (.int (0 : Int32)) 2)
  refine Owe.astore X145.here hx (hb hby at_9) rfl rfl (l' := #[.val (.int p1), .val (.int p2), .val (.int p3), .val (.int p4), .val (.int p5), .val (.ref x1_144), .val (.ref b145), .unset, .unset, .unset, .unset, .unset, .unset, .unset]) rfl ?_
  refine Owe.aload X145.here hx (hb hby at_11) rfl rfl ?_
  refine Owe.iconst X145.here hx (hb hby at_13) (w := (0 : Int32)) rfl ?_
  refine Owe.iloadN X145.here hx (hb hby at_14) rfl ?_
  refine Owe.sipush X145.here hx (hb hby at_15) (w := (255 : Int32)) rfl ?_
  refine Owe.iand X145.here hx (hb hby at_18) rfl ?_
  refine Owe.i2c X145.here hx (hb hby at_19) rfl ?_
  refine Owe.castore X145 hx hZ e145 V_b145_145 (x := ((p2 &&& (255 : Int32)).toUInt32.toUInt16.toUInt32.toInt32)) 0 rfl (Nat.le_of_ble_eq_true rfl) (by decide) (hb hby at_20) rfl fun T152 h152 X152 e152 W152 (V152 : Arv Z h152 b145 k145 .char (2 : Int32) [(.int (nar .char ((p2 &&& (255 : Int32)).toUInt32.toUInt16.toUInt32.toInt32))), (.int (0 : Int32))] (.int (0 : Int32))) => ?_
  have Ol_153 := Ol_146.wr W152 ge_b145
  have E_d1_154 := E_d1_147.wr W152
  have E_d3_155 := E_d3_148.wr W152
  have E_d0_156 := E_d0_149.wr W152
  have E_d2_157 := E_d2_150.wr W152
  have Z_158 := Nat.le_trans Z_151 (Keep.of_wr W152).1
  have N152 := Fr.snoc X152 N144 ge_b145
  refine Owe.aload X152.here hx (hb hby at_21) rfl rfl ?_
  refine Owe.iconst X152.here hx (hb hby at_23) (w := (1 : Int32)) rfl ?_
  refine Owe.iloadN X152.here hx (hb hby at_24) rfl ?_
  refine Owe.sipush X152.here hx (hb hby at_25) (w := (255 : Int32)) rfl ?_
  refine Owe.iand X152.here hx (hb hby at_28) rfl ?_
  refine Owe.i2c X152.here hx (hb hby at_29) rfl ?_
  refine Owe.castore X152 hx hZ e152 V152 (x := ((p3 &&& (255 : Int32)).toUInt32.toUInt16.toUInt32.toInt32)) 1 rfl (Nat.le_of_ble_eq_true rfl) (by decide) (hb hby at_30) rfl fun T159 h159 X159 e159 W159 (V159 : Arv Z h159 b145 k145 .char (2 : Int32) [(.int (nar .char ((p2 &&& (255 : Int32)).toUInt32.toUInt16.toUInt32.toInt32))), (.int (nar .char ((p3 &&& (255 : Int32)).toUInt32.toUInt16.toUInt32.toInt32)))] (.int (0 : Int32))) => ?_
  have Ol_160 := Ol_153.wr W159 ge_b145
  have E_d1_161 := E_d1_154.wr W159
  have E_d3_162 := E_d3_155.wr W159
  have E_d0_163 := E_d0_156.wr W159
  have E_d2_164 := E_d2_157.wr W159
  have Z_165 := Nat.le_trans Z_158 (Keep.of_wr W159).1
  have N159 := Fr.snoc X159 N152 ge_b145
  refine Owe.new X159 hx hZ hown (hw _ (List.mem_of_getElem? (i := 8) rfl)) (hw _ (List.mem_of_getElem? (i := 9) rfl)) (hw _ (List.mem_of_getElem? (i := 10) rfl)) e159 (hb hby at_31) (by decide) (by decide) fun T166 h166 b166 g166 X166 e166 E166 A166 D166 => ?_
  have ne_d1_b166 : d1 ≠ b166 := Nat.ne_of_lt (Nat.lt_of_lt_of_le E_d1_161.lt (Nat.le_of_eq g166.symm))
  have ne_d3_b166 : d3 ≠ b166 := Nat.ne_of_lt (Nat.lt_of_lt_of_le E_d3_162.lt (Nat.le_of_eq g166.symm))
  have ne_d0_b166 : d0 ≠ b166 := Nat.ne_of_lt (Nat.lt_of_lt_of_le E_d0_163.lt (Nat.le_of_eq g166.symm))
  have ne_d2_b166 : d2 ≠ b166 := Nat.ne_of_lt (Nat.lt_of_lt_of_le E_d2_164.lt (Nat.le_of_eq g166.symm))
  have ne_b145_b166 : b145 ≠ b166 := Nat.ne_of_lt (Nat.lt_of_lt_of_le V159.lt (Nat.le_of_eq g166.symm))
  have ge_b166 := Nat.le_trans Z_165 (Nat.le_of_eq g166.symm)
  have Ol_167 := Ol_160.ext E166
  have E_d1_168 := E_d1_161.ext E166
  have E_d3_169 := E_d3_162.ext E166
  have E_d0_170 := E_d0_163.ext E166
  have E_d2_171 := E_d2_164.ext E166
  have V159_172 := V159.ext E166
  have Z_173 := Nat.le_trans Z_165 E166.1
  have Fcoder_b166 : Fld Z h166 b166 "java/lang/String" "coder" "B" (.int (0 : Int32)) := D166 (Or.inr (hw _ (List.mem_of_getElem? (i := 34) rfl))) (ty := .byte) (by decide)
  have Fvalue_b166 : Fld Z h166 b166 "java/lang/String" "value" "[B" .null := D166 (Or.inr (hw _ (List.mem_of_getElem? (i := 36) rfl))) (ty := (.array .byte)) (by decide)
  refine Owe.dup X166.here hx (hb hby at_34) rfl rfl ?_
  refine Owe.aload X166.here hx (hb hby at_35) rfl rfl ?_
  have hp174 : ∀ c ∈ ([(nar .char ((p2 &&& (255 : Int32)).toUInt32.toUInt16.toUInt32.toInt32)), (nar .char ((p3 &&& (255 : Int32)).toUInt32.toUInt16.toUInt32.toInt32))] : List Int32), ¬ c < 0 ∧ ¬ (255 : Int32) < c := by
    intro c hc
    simp only [List.mem_cons, List.not_mem_nil, or_false] at hc
    rcases hc with rfl | rfl
    · exact and255_chars _
    · exact and255_chars _
  refine Owe.special X166 hx (y := (⟨"java/lang/String", "<init>", "([C)V"⟩ : MethodName)) rfl hown (mvT hZ (hw _ (List.mem_of_getElem? (i := 11) rfl))) (mvT hZ (hw _ (List.mem_of_getElem? (i := 12) rfl))) (mvT hZ (hw _ (List.mem_of_getElem? (i := 13) rfl))) (by decide) (StrChars.Road.backV (W := 1) hZ hws (kI := 4) (hw _ (List.mem_of_getElem? (i := 9) rfl)) (cs := ([(nar .char ((p2 &&& (255 : Int32)).toUInt32.toUInt16.toUInt32.toInt32)), (nar .char ((p3 &&& (255 : Int32)).toUInt32.toUInt16.toUInt32.toInt32))] : List Int32)) (bs := ([(nar .char ((p2 &&& (255 : Int32)).toUInt32.toUInt16.toUInt32.toInt32)), (nar .char ((p3 &&& (255 : Int32)).toUInt32.toUInt16.toUInt32.toInt32))] : List Int32).map (fun c => c.toInt8.toInt32)) (n := 2) ge_b166 Z_173 A166 Fvalue_b166 Fcoder_b166 V159_172 (S_COMPACT_STRINGS.ext Ol_167.2) cs0 rfl rfl (by decide) (by decide) hp174 rfl (by decide) (by decide)) (by rw [hml]; rfl) (a := b166) (argsL := [(.ref b145)]) (rest := [(.ref b166)]) (lenOf pd_5 rfl) rfl (Nat.le_of_ble_eq_true rfl) (hb hby at_37) rfl e166 (by decide) (by decide) fun T175 v175 L175 X175 hQ175 => ?_
  obtain ⟨rfl, Nq175, K175, Ex175, Fc175, t175, kb175, gt175, ft175, nt175, Fv175, Vt175⟩ := hQ175
  have N175 := Fr.app N159 Nq175
  have ne_d1_t175 : d1 ≠ t175 := Nat.ne_of_lt (Nat.lt_of_lt_of_le E_d1_168.lt ft175)
  have ne_d3_t175 : d3 ≠ t175 := Nat.ne_of_lt (Nat.lt_of_lt_of_le E_d3_169.lt ft175)
  have ne_d0_t175 : d0 ≠ t175 := Nat.ne_of_lt (Nat.lt_of_lt_of_le E_d0_170.lt ft175)
  have ne_d2_t175 : d2 ≠ t175 := Nat.ne_of_lt (Nat.lt_of_lt_of_le E_d2_171.lt ft175)
  have ne_b145_t175 : b145 ≠ t175 := Nat.ne_of_lt (Nat.lt_of_lt_of_le V159_172.lt ft175)
  have ne_b166_t175 : b166 ≠ t175 := Nat.ne_of_lt (Nat.lt_of_lt_of_le A166.lt ft175)
  have Ol_176 := Ol_167.keep K175 (allS ge_b166 all0)
  have E_d1_177 := E_d1_168.keep K175
  have E_d3_178 := E_d3_169.keep K175
  have E_d0_179 := E_d0_170.keep K175
  have E_d2_180 := E_d2_171.keep K175
  have V159_181 := V159_172.keep K175 (ninS ne_b145_b166 nin0)
  have A166_182 := A166.keep K175
  have Z_183 := Nat.le_trans Z_173 K175.1
  refine Owe.astore X175.here hx (hb hby at_40) rfl rfl (l' := #[.val (.int p1), .val (.int p2), .val (.int p3), .val (.int p4), .val (.int p5), .val (.ref x1_144), .val (.ref b145), .val (.ref b166), .unset, .unset, .unset, .unset, .unset, .unset]) rfl ?_
  refine Owe.iload X175.here hx (hb hby at_42) rfl ?_
  refine Owe.iconst X175.here hx (hb hby at_44) (w := (1 : Int32)) rfl ?_
  refine Owe.iand X175.here hx (hb hby at_45) rfl ?_
  by_cases hc46_184 : (p5 &&& (1 : Int32)) = (0 : Int32)
  · skip
    refine Owe.ifYes X175.here hx (hb hby at_46) rfl ((if0 _ _).trans (teq hc46_184).1) (pc' := 54) (by decide) (by decide) ?_
    refine Owe.aconstNull X175.here hx (hb hby at_54)  ?_
    refine Owe.astore X175.here hx (hb hby at_55) rfl rfl (l' := #[.val (.int p1), .val (.int p2), .val (.int p3), .val (.int p4), .val (.int p5), .val (.ref x1_144), .val (.ref b145), .val (.ref b166), .val .null, .unset, .unset, .unset, .unset, .unset]) rfl ?_
    refine Owe.aload X175.here hx (hb hby at_57) rfl rfl ?_
    refine Owe.aload X175.here hx (hb hby at_59) rfl rfl ?_
    refine Owe.aload X175.here hx (hb hby at_61) rfl rfl ?_
    refine Owe.stat X175 hx (y := (⟨"com/example/gatemark/gatemark/model/AttributeValue", "unread", "(Lcom/example/gatemark/gatemark/model/DataType;Ljava/lang/String;Ljava/lang/String;)Lcom/example/gatemark/gatemark/model/AttributeValue;"⟩ : MethodName)) hown (mvT hZ (hw _ (List.mem_of_getElem? (i := 37) rfl))) (mvT hZ (hw _ (List.mem_of_getElem? (i := 38) rfl))) (mvT hZ (hw _ (List.mem_of_getElem? (i := 39) rfl))) (mvT hZ (hw _ (List.mem_of_getElem? (i := 40) rfl))) (by decide) (backOf (W := 0) (rmurn l Z a0 hw [] x1_144 b166 T175.heap n0 Z_183 ) hZ (hw _ (List.mem_of_getElem? (i := 40) rfl)) (hw _ (List.mem_of_getElem? (i := 39) rfl)) (by decide) (by decide)) (by rw [hml]; rfl) (argsL := [(.ref x1_144), (.ref b166), .null]) (rest := []) (lenOf pd_6 rfl) rfl (Nat.le_of_ble_eq_true rfl) (hb hby at_63) rfl rfl (by decide) (by decide) fun T185 v185 L185 X185 hQ185 => ?_
    obtain ⟨x1_185, y1_185, rfl, Nq185, K185, ge_x1_185, fresh_x1_185, ge_y1_185, fresh_y1_185, E_x1_185, E_y1_185, Fvalue_x1_185⟩ := hQ185
    have N185 := Fr.app N175 Nq185
    have Ol_186 := Ol_176.keep K185 all0
    have E_d1_187 := E_d1_177.keep K185
    have E_d3_188 := E_d3_178.keep K185
    have E_d0_189 := E_d0_179.keep K185
    have E_d2_190 := E_d2_180.keep K185
    have V159_191 := V159_181.keep K185 nin0
    have Ex175_192 := Ex175.keep K185
    have Fc175_193 := Fc175.keep K185 nin0
    have Fv175_194 := Fv175.keep K185 nin0
    have Vt175_195 := Vt175.keep K185 nin0
    have Z_196 := Nat.le_trans Z_183 K185.1
    have ne_d1_x1_185 : d1 ≠ x1_185 := Nat.ne_of_lt (Nat.lt_of_lt_of_le E_d1_177.lt fresh_x1_185)
    have ne_d3_x1_185 : d3 ≠ x1_185 := Nat.ne_of_lt (Nat.lt_of_lt_of_le E_d3_178.lt fresh_x1_185)
    have ne_d0_x1_185 : d0 ≠ x1_185 := Nat.ne_of_lt (Nat.lt_of_lt_of_le E_d0_179.lt fresh_x1_185)
    have ne_d2_x1_185 : d2 ≠ x1_185 := Nat.ne_of_lt (Nat.lt_of_lt_of_le E_d2_180.lt fresh_x1_185)
    have ne_b145_x1_185 : b145 ≠ x1_185 := Nat.ne_of_lt (Nat.lt_of_lt_of_le V159_181.lt fresh_x1_185)
    have ne_b166_x1_185 : b166 ≠ x1_185 := Nat.ne_of_lt (Nat.lt_of_lt_of_le Ex175.lt fresh_x1_185)
    have ne_t175_x1_185 : t175 ≠ x1_185 := Nat.ne_of_lt (Nat.lt_of_lt_of_le Vt175.lt fresh_x1_185)
    have ne_d1_y1_185 : d1 ≠ y1_185 := Nat.ne_of_lt (Nat.lt_of_lt_of_le E_d1_177.lt fresh_y1_185)
    have ne_d3_y1_185 : d3 ≠ y1_185 := Nat.ne_of_lt (Nat.lt_of_lt_of_le E_d3_178.lt fresh_y1_185)
    have ne_d0_y1_185 : d0 ≠ y1_185 := Nat.ne_of_lt (Nat.lt_of_lt_of_le E_d0_179.lt fresh_y1_185)
    have ne_d2_y1_185 : d2 ≠ y1_185 := Nat.ne_of_lt (Nat.lt_of_lt_of_le E_d2_180.lt fresh_y1_185)
    have ne_b145_y1_185 : b145 ≠ y1_185 := Nat.ne_of_lt (Nat.lt_of_lt_of_le V159_181.lt fresh_y1_185)
    have ne_b166_y1_185 : b166 ≠ y1_185 := Nat.ne_of_lt (Nat.lt_of_lt_of_le Ex175.lt fresh_y1_185)
    have ne_t175_y1_185 : t175 ≠ y1_185 := Nat.ne_of_lt (Nat.lt_of_lt_of_le Vt175.lt fresh_y1_185)
    refine Owe.astore X185.here hx (hb hby at_66) rfl rfl (l' := #[.val (.int p1), .val (.int p2), .val (.int p3), .val (.int p4), .val (.int p5), .val (.ref x1_144), .val (.ref b145), .val (.ref b166), .val .null, .val (.ref x1_185), .unset, .unset, .unset, .unset]) rfl ?_
    refine Owe.iloadN X185.here hx (hb hby at_68) rfl ?_
    refine Owe.ldcI X185 hx (v := (2147483647 : Int32)) hown (mvT hZ (hw _ (List.mem_of_getElem? (i := 67) rfl))) (hb hby at_69) ?_
    refine Owe.iand X185.here hx (hb hby at_71) rfl ?_
    refine Owe.bipush X185.here hx (hb hby at_72) (w := (6 : Int32)) rfl ?_
    refine Owe.irem X185.here hx (hb hby at_74) rfl (by decide) ?_
    rcases own_rem6 p1 with hk | hk | hk | hk | hk | hk
    · rw [hk]
      refine Owe.istore X185.here hx (hb hby at_75) rfl (l' := #[.val (.int p1), .val (.int p2), .val (.int p3), .val (.int p4), .val (.int p5), .val (.ref x1_144), .val (.ref b145), .val (.ref b166), .val .null, .val (.ref x1_185), .val (.int (0 : Int32)), .unset, .unset, .unset]) rfl ?_
      refine Owe.iload X185.here hx (hb hby at_77) rfl ?_
      refine Owe.iconst X185.here hx (hb hby at_79) (w := (5 : Int32)) rfl ?_
      refine Owe.icmpYes X185.here hx (hb hby at_80) rfl (feq (by decide)).2 (pc' := 97) (by decide) (by decide) ?_
      refine Owe.iload X185.here hx (hb hby at_97) rfl ?_
      refine Owe.ifNo X185.here hx (hb hby at_99) rfl ((if0 _ _).trans (teq (by decide)).2) ?_
      refine Owe.aload X185.here hx (hb hby at_102) rfl rfl ?_
      refine Owe.astore X185.here hx (hb hby at_104) rfl rfl (l' := #[.val (.int p1), .val (.int p2), .val (.int p3), .val (.int p4), .val (.int p5), .val (.ref x1_144), .val (.ref b145), .val (.ref b166), .val .null, .val (.ref x1_185), .val (.int (0 : Int32)), .val (.ref b166), .unset, .unset]) rfl ?_
      refine Owe.iconst X185.here hx (hb hby at_106) (w := (1 : Int32)) rfl ?_
      refine Owe.istore X185.here hx (hb hby at_107) rfl (l' := #[.val (.int p1), .val (.int p2), .val (.int p3), .val (.int p4), .val (.int p5), .val (.ref x1_144), .val (.ref b145), .val (.ref b166), .val .null, .val (.ref x1_185), .val (.int (0 : Int32)), .val (.ref b166), .val (.int (1 : Int32)), .unset]) rfl ?_
      refine Owe.goto X185.here hx (hb hby at_109) (pc' := 171) (by decide) (by decide) ?_
      refine Owe.new X185 hx hZ hown (hw _ (List.mem_of_getElem? (i := 68) rfl)) (hw _ (List.mem_of_getElem? (i := 42) rfl)) (hw _ (List.mem_of_getElem? (i := 39) rfl)) rfl (hb hby at_171) (by decide) (by decide) fun T197 h197 b197 g197 X197 e197 E197 A197 D197 => ?_
      have ne_d1_b197 : d1 ≠ b197 := Nat.ne_of_lt (Nat.lt_of_lt_of_le E_d1_187.lt (Nat.le_of_eq g197.symm))
      have ne_d3_b197 : d3 ≠ b197 := Nat.ne_of_lt (Nat.lt_of_lt_of_le E_d3_188.lt (Nat.le_of_eq g197.symm))
      have ne_d0_b197 : d0 ≠ b197 := Nat.ne_of_lt (Nat.lt_of_lt_of_le E_d0_189.lt (Nat.le_of_eq g197.symm))
      have ne_d2_b197 : d2 ≠ b197 := Nat.ne_of_lt (Nat.lt_of_lt_of_le E_d2_190.lt (Nat.le_of_eq g197.symm))
      have ne_b145_b197 : b145 ≠ b197 := Nat.ne_of_lt (Nat.lt_of_lt_of_le V159_191.lt (Nat.le_of_eq g197.symm))
      have ne_b166_b197 : b166 ≠ b197 := Nat.ne_of_lt (Nat.lt_of_lt_of_le Ex175_192.lt (Nat.le_of_eq g197.symm))
      have ne_t175_b197 : t175 ≠ b197 := Nat.ne_of_lt (Nat.lt_of_lt_of_le Vt175_195.lt (Nat.le_of_eq g197.symm))
      have ne_x1_185_b197 : x1_185 ≠ b197 := Nat.ne_of_lt (Nat.lt_of_lt_of_le E_x1_185.lt (Nat.le_of_eq g197.symm))
      have ne_y1_185_b197 : y1_185 ≠ b197 := Nat.ne_of_lt (Nat.lt_of_lt_of_le E_y1_185.lt (Nat.le_of_eq g197.symm))
      have ge_b197 := Nat.le_trans Z_196 (Nat.le_of_eq g197.symm)
      have Ol_198 := Ol_186.ext E197
      have E_d1_199 := E_d1_187.ext E197
      have E_d3_200 := E_d3_188.ext E197
      have E_d0_201 := E_d0_189.ext E197
      have E_d2_202 := E_d2_190.ext E197
      have V159_203 := V159_191.ext E197
      have Ex175_204 := Ex175_192.ext E197
      have Fc175_205 := Fc175_193.ext E197
      have Fv175_206 := Fv175_194.ext E197
      have Vt175_207 := Vt175_195.ext E197
      have E_x1_208 := E_x1_185.ext E197
      have E_y1_209 := E_y1_185.ext E197
      have Fvalue_x1_210 := Fvalue_x1_185.ext E197
      have Z_211 := Nat.le_trans Z_196 E197.1
      have Ftype_b197 : Fld Z h197 b197 "com/example/gatemark/gatemark/model/AttributeValue" "type" "Lcom/example/gatemark/gatemark/model/DataType;" .null := D197 (Or.inr (hw _ (List.mem_of_getElem? (i := 64) rfl))) (ty := (.object "com/example/gatemark/gatemark/model/DataType")) (by decide)
      have Fvalue_b197 : Fld Z h197 b197 "com/example/gatemark/gatemark/model/AttributeValue" "value" "Ljava/lang/Object;" .null := D197 (Or.inr (hw _ (List.mem_of_getElem? (i := 66) rfl))) (ty := (.object "java/lang/Object")) (by decide)
      refine Owe.dup X197.here hx (hb hby at_174) rfl rfl ?_
      refine Owe.aload X197.here hx (hb hby at_175) rfl rfl ?_
      refine Owe.aload X197.here hx (hb hby at_177) rfl rfl ?_
      refine Owe.special X197 hx (y := (⟨"com/example/gatemark/gatemark/model/AttributeValue", "<init>", "(Lcom/example/gatemark/gatemark/model/DataType;Ljava/lang/Object;)V"⟩ : MethodName)) rfl hown (mvT hZ (hw _ (List.mem_of_getElem? (i := 69) rfl))) (mvT hZ (hw _ (List.mem_of_getElem? (i := 60) rfl))) (mvT hZ (hw _ (List.mem_of_getElem? (i := 61) rfl))) (by decide) (backOf (W := 1) (rmavr l Z a0 hw [] b197 x1_144 b166 .null .null h197 n0 Z_211 A197 Ftype_b197 Fvalue_b197 ge_b197) hZ (hw _ (List.mem_of_getElem? (i := 61) rfl)) (hw _ (List.mem_of_getElem? (i := 39) rfl)) (by decide) (by decide)) (by rw [hml]; rfl) (a := b197) (argsL := [(.ref x1_144), (.ref b166)]) (rest := [(.ref b197)]) (lenOf pd_2 rfl) rfl (Nat.le_of_ble_eq_true rfl) (hb hby at_179) rfl e197 (by decide) (by decide) fun T212 v212 L212 X212 hQ212 => ?_
      obtain ⟨rfl, Nq212, K212, E_a1_212, Fvalue_a1_212⟩ := hQ212
      have N212 := Fr.app N185 Nq212
      have Ol_213 := Ol_198.keep K212 (allS ge_b197 all0)
      have E_d1_214 := E_d1_199.keep K212
      have E_d3_215 := E_d3_200.keep K212
      have E_d0_216 := E_d0_201.keep K212
      have E_d2_217 := E_d2_202.keep K212
      have V159_218 := V159_203.keep K212 (ninS ne_b145_b197 nin0)
      have Ex175_219 := Ex175_204.keep K212
      have Fc175_220 := Fc175_205.keep K212 (ninS ne_b166_b197 nin0)
      have Fv175_221 := Fv175_206.keep K212 (ninS ne_b166_b197 nin0)
      have Vt175_222 := Vt175_207.keep K212 (ninS ne_t175_b197 nin0)
      have E_x1_223 := E_x1_208.keep K212
      have E_y1_224 := E_y1_209.keep K212
      have Fvalue_x1_225 := Fvalue_x1_210.keep K212 (ninS ne_x1_185_b197 nin0)
      have A197_226 := A197.keep K212
      have Z_227 := Nat.le_trans Z_211 K212.1
      refine Owe.astore X212.here hx (hb hby at_182) rfl rfl (l' := #[.val (.int p1), .val (.int p2), .val (.int p3), .val (.int p4), .val (.int p5), .val (.ref x1_144), .val (.ref b145), .val (.ref b166), .val .null, .val (.ref x1_185), .val (.int (0 : Int32)), .val (.ref b166), .val (.int (1 : Int32)), .val (.ref b197)]) rfl ?_
      refine Owe.aload X212.here hx (hb hby at_184) rfl rfl ?_
      refine Owe.virt X212 hx hZ (y := (⟨"com/example/gatemark/gatemark/model/AttributeValue", "isRead", "()Z"⟩ : MethodName)) (z := (⟨"com/example/gatemark/gatemark/model/AttributeValue", "isRead", "()Z"⟩ : MethodName)) hown (mvT hZ (hw _ (List.mem_of_getElem? (i := 70) rfl))) (mvT hZ (hw _ (List.mem_of_getElem? (i := 71) rfl))) (mvT hZ (hw _ (List.mem_of_getElem? (i := 73) rfl))) (mvT hZ (hw _ (List.mem_of_getElem? (i := 72) rfl))) (notFace_of_selects (args := #[]) (mvT hZ (hw _ (List.mem_of_getElem? (i := 73) rfl)))) (by decide) (backOf (W := 0) (rmirs l Z a0 hw [] b197 b166 T212.heap n0 Z_227 Fvalue_a1_212 Ex175_219) hZ (hw _ (List.mem_of_getElem? (i := 74) rfl)) (hw _ (List.mem_of_getElem? (i := 39) rfl)) (by decide) (by decide)) (by rw [hml]; rfl) (a := b197) (argsL := []) (rest := []) E_a1_212 (lenOf pd_7 rfl) rfl (Nat.le_of_ble_eq_true rfl) (hb hby at_186) rfl rfl (by decide) (by decide) fun T228 v228 L228 X228 hQ228 => ?_
      obtain ⟨rfl, Nq228, e228⟩ := hQ228
      have N228 := Fr.app N212 Nq228
      refine Owe.iload X228.here hx (hb hby at_189) rfl ?_
      refine Owe.icmpNo X228.here hx (hb hby at_191) rfl (teq (by decide)).2 ?_
      refine Owe.iconst X228.here hx (hb hby at_194) (w := (1 : Int32)) rfl ?_
      refine Owe.goto X228.here hx (hb hby at_195) (pc' := 199) (by decide) (by decide) ?_
      refine Owe.retN X228 hx hlk (t := .boolean) Bd.returns (by simp) (hb hby at_199) rfl fun fs hE => ?_
      rw [hG]
      refine ⟨_, _, rfl, ?_, frameMono hE (by decide) (by decide)⟩
      show Q0 Z p1 p2 p3 p4 p5 G1 d1 d3 d0 d2 ca cl h0 n0 _ T228.heap _
      rw [e228]
      exact ⟨rfl, N228⟩
    · rw [hk]
      refine Owe.istore X185.here hx (hb hby at_75) rfl (l' := #[.val (.int p1), .val (.int p2), .val (.int p3), .val (.int p4), .val (.int p5), .val (.ref x1_144), .val (.ref b145), .val (.ref b166), .val .null, .val (.ref x1_185), .val (.int (1 : Int32)), .unset, .unset, .unset]) rfl ?_
      refine Owe.iload X185.here hx (hb hby at_77) rfl ?_
      refine Owe.iconst X185.here hx (hb hby at_79) (w := (5 : Int32)) rfl ?_
      refine Owe.icmpYes X185.here hx (hb hby at_80) rfl (feq (by decide)).2 (pc' := 97) (by decide) (by decide) ?_
      refine Owe.iload X185.here hx (hb hby at_97) rfl ?_
      refine Owe.ifYes X185.here hx (hb hby at_99) rfl ((if0 _ _).trans (feq (by decide)).2) (pc' := 112) (by decide) (by decide) ?_
      refine Owe.iload X185.here hx (hb hby at_112) rfl ?_
      refine Owe.iconst X185.here hx (hb hby at_114) (w := (1 : Int32)) rfl ?_
      refine Owe.icmpNo X185.here hx (hb hby at_115) rfl (teq (by decide)).2 ?_
      refine Owe.iloadN X185.here hx (hb hby at_118) rfl ?_
      refine Owe.stat X185 hx (y := (⟨"java/lang/Integer", "valueOf", "(I)Ljava/lang/Integer;"⟩ : MethodName)) hown (mvT hZ (hw _ (List.mem_of_getElem? (i := 91) rfl))) (mvT hZ (hw _ (List.mem_of_getElem? (i := 92) rfl))) (mvT hZ (hw _ (List.mem_of_getElem? (i := 93) rfl))) (mvT hZ (hw _ (List.mem_of_getElem? (i := 94) rfl))) (by decide) (backOf (W := 0) (rmvin l Z a0 hw [] p2 ca cl T185.heap n0 Z_196 S_high S_cache cArr cSz cEl Ol_186) hZ (hw _ (List.mem_of_getElem? (i := 94) rfl)) (hw _ (List.mem_of_getElem? (i := 93) rfl)) (by decide) (by decide)) (by rw [hml]; rfl) (argsL := [(.int p2)]) (rest := []) (lenOf pd_8 rfl) rfl (Nat.le_of_ble_eq_true rfl) (hb hby at_119) rfl rfl (by decide) (by decide) fun T229 v229 L229 X229 hQ229 => ?_
      obtain ⟨x1_229, rfl, Nq229, K229, E_x1_229⟩ := hQ229
      have N229 := Fr.app N185 Nq229
      have Ol_230 := Ol_186.keep K229 all0
      have E_d1_231 := E_d1_187.keep K229
      have E_d3_232 := E_d3_188.keep K229
      have E_d0_233 := E_d0_189.keep K229
      have E_d2_234 := E_d2_190.keep K229
      have V159_235 := V159_191.keep K229 nin0
      have Ex175_236 := Ex175_192.keep K229
      have Fc175_237 := Fc175_193.keep K229 nin0
      have Fv175_238 := Fv175_194.keep K229 nin0
      have Vt175_239 := Vt175_195.keep K229 nin0
      have E_x1_240 := E_x1_185.keep K229
      have E_y1_241 := E_y1_185.keep K229
      have Fvalue_x1_242 := Fvalue_x1_185.keep K229 nin0
      have Z_243 := Nat.le_trans Z_196 K229.1
      refine Owe.astore X229.here hx (hb hby at_122) rfl rfl (l' := #[.val (.int p1), .val (.int p2), .val (.int p3), .val (.int p4), .val (.int p5), .val (.ref x1_144), .val (.ref b145), .val (.ref b166), .val .null, .val (.ref x1_185), .val (.int (1 : Int32)), .val (.ref x1_229), .unset, .unset]) rfl ?_
      refine Owe.iconst X229.here hx (hb hby at_124) (w := (1 : Int32)) rfl ?_
      refine Owe.istore X229.here hx (hb hby at_125) rfl (l' := #[.val (.int p1), .val (.int p2), .val (.int p3), .val (.int p4), .val (.int p5), .val (.ref x1_144), .val (.ref b145), .val (.ref b166), .val .null, .val (.ref x1_185), .val (.int (1 : Int32)), .val (.ref x1_229), .val (.int (1 : Int32)), .unset]) rfl ?_
      refine Owe.goto X229.here hx (hb hby at_127) (pc' := 171) (by decide) (by decide) ?_
      refine Owe.new X229 hx hZ hown (hw _ (List.mem_of_getElem? (i := 68) rfl)) (hw _ (List.mem_of_getElem? (i := 42) rfl)) (hw _ (List.mem_of_getElem? (i := 39) rfl)) rfl (hb hby at_171) (by decide) (by decide) fun T244 h244 b244 g244 X244 e244 E244 A244 D244 => ?_
      have ne_d1_b244 : d1 ≠ b244 := Nat.ne_of_lt (Nat.lt_of_lt_of_le E_d1_231.lt (Nat.le_of_eq g244.symm))
      have ne_d3_b244 : d3 ≠ b244 := Nat.ne_of_lt (Nat.lt_of_lt_of_le E_d3_232.lt (Nat.le_of_eq g244.symm))
      have ne_d0_b244 : d0 ≠ b244 := Nat.ne_of_lt (Nat.lt_of_lt_of_le E_d0_233.lt (Nat.le_of_eq g244.symm))
      have ne_d2_b244 : d2 ≠ b244 := Nat.ne_of_lt (Nat.lt_of_lt_of_le E_d2_234.lt (Nat.le_of_eq g244.symm))
      have ne_b145_b244 : b145 ≠ b244 := Nat.ne_of_lt (Nat.lt_of_lt_of_le V159_235.lt (Nat.le_of_eq g244.symm))
      have ne_b166_b244 : b166 ≠ b244 := Nat.ne_of_lt (Nat.lt_of_lt_of_le Ex175_236.lt (Nat.le_of_eq g244.symm))
      have ne_t175_b244 : t175 ≠ b244 := Nat.ne_of_lt (Nat.lt_of_lt_of_le Vt175_239.lt (Nat.le_of_eq g244.symm))
      have ne_x1_185_b244 : x1_185 ≠ b244 := Nat.ne_of_lt (Nat.lt_of_lt_of_le E_x1_240.lt (Nat.le_of_eq g244.symm))
      have ne_y1_185_b244 : y1_185 ≠ b244 := Nat.ne_of_lt (Nat.lt_of_lt_of_le E_y1_241.lt (Nat.le_of_eq g244.symm))
      have ne_x1_229_b244 : x1_229 ≠ b244 := Nat.ne_of_lt (Nat.lt_of_lt_of_le E_x1_229.lt (Nat.le_of_eq g244.symm))
      have ge_b244 := Nat.le_trans Z_243 (Nat.le_of_eq g244.symm)
      have Ol_245 := Ol_230.ext E244
      have E_d1_246 := E_d1_231.ext E244
      have E_d3_247 := E_d3_232.ext E244
      have E_d0_248 := E_d0_233.ext E244
      have E_d2_249 := E_d2_234.ext E244
      have V159_250 := V159_235.ext E244
      have Ex175_251 := Ex175_236.ext E244
      have Fc175_252 := Fc175_237.ext E244
      have Fv175_253 := Fv175_238.ext E244
      have Vt175_254 := Vt175_239.ext E244
      have E_x1_255 := E_x1_240.ext E244
      have E_y1_256 := E_y1_241.ext E244
      have Fvalue_x1_257 := Fvalue_x1_242.ext E244
      have E_x1_258 := E_x1_229.ext E244
      have Z_259 := Nat.le_trans Z_243 E244.1
      have Ftype_b244 : Fld Z h244 b244 "com/example/gatemark/gatemark/model/AttributeValue" "type" "Lcom/example/gatemark/gatemark/model/DataType;" .null := D244 (Or.inr (hw _ (List.mem_of_getElem? (i := 64) rfl))) (ty := (.object "com/example/gatemark/gatemark/model/DataType")) (by decide)
      have Fvalue_b244 : Fld Z h244 b244 "com/example/gatemark/gatemark/model/AttributeValue" "value" "Ljava/lang/Object;" .null := D244 (Or.inr (hw _ (List.mem_of_getElem? (i := 66) rfl))) (ty := (.object "java/lang/Object")) (by decide)
      refine Owe.dup X244.here hx (hb hby at_174) rfl rfl ?_
      refine Owe.aload X244.here hx (hb hby at_175) rfl rfl ?_
      refine Owe.aload X244.here hx (hb hby at_177) rfl rfl ?_
      refine Owe.special X244 hx (y := (⟨"com/example/gatemark/gatemark/model/AttributeValue", "<init>", "(Lcom/example/gatemark/gatemark/model/DataType;Ljava/lang/Object;)V"⟩ : MethodName)) rfl hown (mvT hZ (hw _ (List.mem_of_getElem? (i := 69) rfl))) (mvT hZ (hw _ (List.mem_of_getElem? (i := 60) rfl))) (mvT hZ (hw _ (List.mem_of_getElem? (i := 61) rfl))) (by decide) (backOf (W := 1) (rmavr l Z a0 hw [] b244 x1_144 x1_229 .null .null h244 n0 Z_259 A244 Ftype_b244 Fvalue_b244 ge_b244) hZ (hw _ (List.mem_of_getElem? (i := 61) rfl)) (hw _ (List.mem_of_getElem? (i := 39) rfl)) (by decide) (by decide)) (by rw [hml]; rfl) (a := b244) (argsL := [(.ref x1_144), (.ref x1_229)]) (rest := [(.ref b244)]) (lenOf pd_2 rfl) rfl (Nat.le_of_ble_eq_true rfl) (hb hby at_179) rfl e244 (by decide) (by decide) fun T260 v260 L260 X260 hQ260 => ?_
      obtain ⟨rfl, Nq260, K260, E_a1_260, Fvalue_a1_260⟩ := hQ260
      have N260 := Fr.app N229 Nq260
      have Ol_261 := Ol_245.keep K260 (allS ge_b244 all0)
      have E_d1_262 := E_d1_246.keep K260
      have E_d3_263 := E_d3_247.keep K260
      have E_d0_264 := E_d0_248.keep K260
      have E_d2_265 := E_d2_249.keep K260
      have V159_266 := V159_250.keep K260 (ninS ne_b145_b244 nin0)
      have Ex175_267 := Ex175_251.keep K260
      have Fc175_268 := Fc175_252.keep K260 (ninS ne_b166_b244 nin0)
      have Fv175_269 := Fv175_253.keep K260 (ninS ne_b166_b244 nin0)
      have Vt175_270 := Vt175_254.keep K260 (ninS ne_t175_b244 nin0)
      have E_x1_271 := E_x1_255.keep K260
      have E_y1_272 := E_y1_256.keep K260
      have Fvalue_x1_273 := Fvalue_x1_257.keep K260 (ninS ne_x1_185_b244 nin0)
      have E_x1_274 := E_x1_258.keep K260
      have A244_275 := A244.keep K260
      have Z_276 := Nat.le_trans Z_259 K260.1
      refine Owe.astore X260.here hx (hb hby at_182) rfl rfl (l' := #[.val (.int p1), .val (.int p2), .val (.int p3), .val (.int p4), .val (.int p5), .val (.ref x1_144), .val (.ref b145), .val (.ref b166), .val .null, .val (.ref x1_185), .val (.int (1 : Int32)), .val (.ref x1_229), .val (.int (1 : Int32)), .val (.ref b244)]) rfl ?_
      refine Owe.aload X260.here hx (hb hby at_184) rfl rfl ?_
      refine Owe.virt X260 hx hZ (y := (⟨"com/example/gatemark/gatemark/model/AttributeValue", "isRead", "()Z"⟩ : MethodName)) (z := (⟨"com/example/gatemark/gatemark/model/AttributeValue", "isRead", "()Z"⟩ : MethodName)) hown (mvT hZ (hw _ (List.mem_of_getElem? (i := 70) rfl))) (mvT hZ (hw _ (List.mem_of_getElem? (i := 71) rfl))) (mvT hZ (hw _ (List.mem_of_getElem? (i := 73) rfl))) (mvT hZ (hw _ (List.mem_of_getElem? (i := 72) rfl))) (notFace_of_selects (args := #[]) (mvT hZ (hw _ (List.mem_of_getElem? (i := 73) rfl)))) (by decide) (backOf (W := 0) (rmiri l Z a0 hw [] b244 x1_229 T260.heap n0 Z_276 Fvalue_a1_260 E_x1_274) hZ (hw _ (List.mem_of_getElem? (i := 74) rfl)) (hw _ (List.mem_of_getElem? (i := 39) rfl)) (by decide) (by decide)) (by rw [hml]; rfl) (a := b244) (argsL := []) (rest := []) E_a1_260 (lenOf pd_7 rfl) rfl (Nat.le_of_ble_eq_true rfl) (hb hby at_186) rfl rfl (by decide) (by decide) fun T277 v277 L277 X277 hQ277 => ?_
      obtain ⟨rfl, Nq277, e277⟩ := hQ277
      have N277 := Fr.app N260 Nq277
      refine Owe.iload X277.here hx (hb hby at_189) rfl ?_
      refine Owe.icmpNo X277.here hx (hb hby at_191) rfl (teq (by decide)).2 ?_
      refine Owe.iconst X277.here hx (hb hby at_194) (w := (1 : Int32)) rfl ?_
      refine Owe.goto X277.here hx (hb hby at_195) (pc' := 199) (by decide) (by decide) ?_
      refine Owe.retN X277 hx hlk (t := .boolean) Bd.returns (by simp) (hb hby at_199) rfl fun fs hE => ?_
      rw [hG]
      refine ⟨_, _, rfl, ?_, frameMono hE (by decide) (by decide)⟩
      show Q0 Z p1 p2 p3 p4 p5 G1 d1 d3 d0 d2 ca cl h0 n0 _ T277.heap _
      rw [e277]
      exact ⟨rfl, N277⟩
    · rw [hk]
      refine Owe.istore X185.here hx (hb hby at_75) rfl (l' := #[.val (.int p1), .val (.int p2), .val (.int p3), .val (.int p4), .val (.int p5), .val (.ref x1_144), .val (.ref b145), .val (.ref b166), .val .null, .val (.ref x1_185), .val (.int (2 : Int32)), .unset, .unset, .unset]) rfl ?_
      refine Owe.iload X185.here hx (hb hby at_77) rfl ?_
      refine Owe.iconst X185.here hx (hb hby at_79) (w := (5 : Int32)) rfl ?_
      refine Owe.icmpYes X185.here hx (hb hby at_80) rfl (feq (by decide)).2 (pc' := 97) (by decide) (by decide) ?_
      refine Owe.iload X185.here hx (hb hby at_97) rfl ?_
      refine Owe.ifYes X185.here hx (hb hby at_99) rfl ((if0 _ _).trans (feq (by decide)).2) (pc' := 112) (by decide) (by decide) ?_
      refine Owe.iload X185.here hx (hb hby at_112) rfl ?_
      refine Owe.iconst X185.here hx (hb hby at_114) (w := (1 : Int32)) rfl ?_
      refine Owe.icmpYes X185.here hx (hb hby at_115) rfl (feq (by decide)).2 (pc' := 130) (by decide) (by decide) ?_
      refine Owe.iload X185.here hx (hb hby at_130) rfl ?_
      refine Owe.iconst X185.here hx (hb hby at_132) (w := (2 : Int32)) rfl ?_
      refine Owe.icmpNo X185.here hx (hb hby at_133) rfl (teq (by decide)).2 ?_
      refine Owe.aconstNull X185.here hx (hb hby at_136)  ?_
      refine Owe.astore X185.here hx (hb hby at_137) rfl rfl (l' := #[.val (.int p1), .val (.int p2), .val (.int p3), .val (.int p4), .val (.int p5), .val (.ref x1_144), .val (.ref b145), .val (.ref b166), .val .null, .val (.ref x1_185), .val (.int (2 : Int32)), .val .null, .unset, .unset]) rfl ?_
      refine Owe.iconst X185.here hx (hb hby at_139) (w := (1 : Int32)) rfl ?_
      refine Owe.istore X185.here hx (hb hby at_140) rfl (l' := #[.val (.int p1), .val (.int p2), .val (.int p3), .val (.int p4), .val (.int p5), .val (.ref x1_144), .val (.ref b145), .val (.ref b166), .val .null, .val (.ref x1_185), .val (.int (2 : Int32)), .val .null, .val (.int (1 : Int32)), .unset]) rfl ?_
      refine Owe.goto X185.here hx (hb hby at_142) (pc' := 171) (by decide) (by decide) ?_
      refine Owe.new X185 hx hZ hown (hw _ (List.mem_of_getElem? (i := 68) rfl)) (hw _ (List.mem_of_getElem? (i := 42) rfl)) (hw _ (List.mem_of_getElem? (i := 39) rfl)) rfl (hb hby at_171) (by decide) (by decide) fun T278 h278 b278 g278 X278 e278 E278 A278 D278 => ?_
      have ne_d1_b278 : d1 ≠ b278 := Nat.ne_of_lt (Nat.lt_of_lt_of_le E_d1_187.lt (Nat.le_of_eq g278.symm))
      have ne_d3_b278 : d3 ≠ b278 := Nat.ne_of_lt (Nat.lt_of_lt_of_le E_d3_188.lt (Nat.le_of_eq g278.symm))
      have ne_d0_b278 : d0 ≠ b278 := Nat.ne_of_lt (Nat.lt_of_lt_of_le E_d0_189.lt (Nat.le_of_eq g278.symm))
      have ne_d2_b278 : d2 ≠ b278 := Nat.ne_of_lt (Nat.lt_of_lt_of_le E_d2_190.lt (Nat.le_of_eq g278.symm))
      have ne_b145_b278 : b145 ≠ b278 := Nat.ne_of_lt (Nat.lt_of_lt_of_le V159_191.lt (Nat.le_of_eq g278.symm))
      have ne_b166_b278 : b166 ≠ b278 := Nat.ne_of_lt (Nat.lt_of_lt_of_le Ex175_192.lt (Nat.le_of_eq g278.symm))
      have ne_t175_b278 : t175 ≠ b278 := Nat.ne_of_lt (Nat.lt_of_lt_of_le Vt175_195.lt (Nat.le_of_eq g278.symm))
      have ne_x1_185_b278 : x1_185 ≠ b278 := Nat.ne_of_lt (Nat.lt_of_lt_of_le E_x1_185.lt (Nat.le_of_eq g278.symm))
      have ne_y1_185_b278 : y1_185 ≠ b278 := Nat.ne_of_lt (Nat.lt_of_lt_of_le E_y1_185.lt (Nat.le_of_eq g278.symm))
      have ge_b278 := Nat.le_trans Z_196 (Nat.le_of_eq g278.symm)
      have Ol_279 := Ol_186.ext E278
      have E_d1_280 := E_d1_187.ext E278
      have E_d3_281 := E_d3_188.ext E278
      have E_d0_282 := E_d0_189.ext E278
      have E_d2_283 := E_d2_190.ext E278
      have V159_284 := V159_191.ext E278
      have Ex175_285 := Ex175_192.ext E278
      have Fc175_286 := Fc175_193.ext E278
      have Fv175_287 := Fv175_194.ext E278
      have Vt175_288 := Vt175_195.ext E278
      have E_x1_289 := E_x1_185.ext E278
      have E_y1_290 := E_y1_185.ext E278
      have Fvalue_x1_291 := Fvalue_x1_185.ext E278
      have Z_292 := Nat.le_trans Z_196 E278.1
      have Ftype_b278 : Fld Z h278 b278 "com/example/gatemark/gatemark/model/AttributeValue" "type" "Lcom/example/gatemark/gatemark/model/DataType;" .null := D278 (Or.inr (hw _ (List.mem_of_getElem? (i := 64) rfl))) (ty := (.object "com/example/gatemark/gatemark/model/DataType")) (by decide)
      have Fvalue_b278 : Fld Z h278 b278 "com/example/gatemark/gatemark/model/AttributeValue" "value" "Ljava/lang/Object;" .null := D278 (Or.inr (hw _ (List.mem_of_getElem? (i := 66) rfl))) (ty := (.object "java/lang/Object")) (by decide)
      refine Owe.dup X278.here hx (hb hby at_174) rfl rfl ?_
      refine Owe.aload X278.here hx (hb hby at_175) rfl rfl ?_
      refine Owe.aload X278.here hx (hb hby at_177) rfl rfl ?_
      refine Owe.special X278 hx (y := (⟨"com/example/gatemark/gatemark/model/AttributeValue", "<init>", "(Lcom/example/gatemark/gatemark/model/DataType;Ljava/lang/Object;)V"⟩ : MethodName)) rfl hown (mvT hZ (hw _ (List.mem_of_getElem? (i := 69) rfl))) (mvT hZ (hw _ (List.mem_of_getElem? (i := 60) rfl))) (mvT hZ (hw _ (List.mem_of_getElem? (i := 61) rfl))) (by decide) (backOf (W := 1) (rmavn l Z a0 hw [] b278 x1_144 .null .null h278 n0 Z_292 A278 Ftype_b278 Fvalue_b278 ge_b278) hZ (hw _ (List.mem_of_getElem? (i := 61) rfl)) (hw _ (List.mem_of_getElem? (i := 39) rfl)) (by decide) (by decide)) (by rw [hml]; rfl) (a := b278) (argsL := [(.ref x1_144), .null]) (rest := [(.ref b278)]) (lenOf pd_2 rfl) rfl (Nat.le_of_ble_eq_true rfl) (hb hby at_179) rfl e278 (by decide) (by decide) fun T293 v293 L293 X293 hQ293 => ?_
      obtain ⟨rfl, Nq293, K293, E_a1_293, Fvalue_a1_293⟩ := hQ293
      have N293 := Fr.app N185 Nq293
      have Ol_294 := Ol_279.keep K293 (allS ge_b278 all0)
      have E_d1_295 := E_d1_280.keep K293
      have E_d3_296 := E_d3_281.keep K293
      have E_d0_297 := E_d0_282.keep K293
      have E_d2_298 := E_d2_283.keep K293
      have V159_299 := V159_284.keep K293 (ninS ne_b145_b278 nin0)
      have Ex175_300 := Ex175_285.keep K293
      have Fc175_301 := Fc175_286.keep K293 (ninS ne_b166_b278 nin0)
      have Fv175_302 := Fv175_287.keep K293 (ninS ne_b166_b278 nin0)
      have Vt175_303 := Vt175_288.keep K293 (ninS ne_t175_b278 nin0)
      have E_x1_304 := E_x1_289.keep K293
      have E_y1_305 := E_y1_290.keep K293
      have Fvalue_x1_306 := Fvalue_x1_291.keep K293 (ninS ne_x1_185_b278 nin0)
      have A278_307 := A278.keep K293
      have Z_308 := Nat.le_trans Z_292 K293.1
      refine Owe.astore X293.here hx (hb hby at_182) rfl rfl (l' := #[.val (.int p1), .val (.int p2), .val (.int p3), .val (.int p4), .val (.int p5), .val (.ref x1_144), .val (.ref b145), .val (.ref b166), .val .null, .val (.ref x1_185), .val (.int (2 : Int32)), .val .null, .val (.int (1 : Int32)), .val (.ref b278)]) rfl ?_
      refine Owe.aload X293.here hx (hb hby at_184) rfl rfl ?_
      refine Owe.virt X293 hx hZ (y := (⟨"com/example/gatemark/gatemark/model/AttributeValue", "isRead", "()Z"⟩ : MethodName)) (z := (⟨"com/example/gatemark/gatemark/model/AttributeValue", "isRead", "()Z"⟩ : MethodName)) hown (mvT hZ (hw _ (List.mem_of_getElem? (i := 70) rfl))) (mvT hZ (hw _ (List.mem_of_getElem? (i := 71) rfl))) (mvT hZ (hw _ (List.mem_of_getElem? (i := 73) rfl))) (mvT hZ (hw _ (List.mem_of_getElem? (i := 72) rfl))) (notFace_of_selects (args := #[]) (mvT hZ (hw _ (List.mem_of_getElem? (i := 73) rfl)))) (by decide) (backOf (W := 0) (rmirn l Z a0 hw [] b278 T293.heap n0 Z_308 Fvalue_a1_293) hZ (hw _ (List.mem_of_getElem? (i := 74) rfl)) (hw _ (List.mem_of_getElem? (i := 39) rfl)) (by decide) (by decide)) (by rw [hml]; rfl) (a := b278) (argsL := []) (rest := []) E_a1_293 (lenOf pd_7 rfl) rfl (Nat.le_of_ble_eq_true rfl) (hb hby at_186) rfl rfl (by decide) (by decide) fun T309 v309 L309 X309 hQ309 => ?_
      obtain ⟨rfl, Nq309, e309⟩ := hQ309
      have N309 := Fr.app N293 Nq309
      refine Owe.iload X309.here hx (hb hby at_189) rfl ?_
      refine Owe.icmpNo X309.here hx (hb hby at_191) rfl (teq (by decide)).2 ?_
      refine Owe.iconst X309.here hx (hb hby at_194) (w := (1 : Int32)) rfl ?_
      refine Owe.goto X309.here hx (hb hby at_195) (pc' := 199) (by decide) (by decide) ?_
      refine Owe.retN X309 hx hlk (t := .boolean) Bd.returns (by simp) (hb hby at_199) rfl fun fs hE => ?_
      rw [hG]
      refine ⟨_, _, rfl, ?_, frameMono hE (by decide) (by decide)⟩
      show Q0 Z p1 p2 p3 p4 p5 G1 d1 d3 d0 d2 ca cl h0 n0 _ T309.heap _
      rw [e309]
      exact ⟨rfl, N309⟩
    · rw [hk]
      refine Owe.istore X185.here hx (hb hby at_75) rfl (l' := #[.val (.int p1), .val (.int p2), .val (.int p3), .val (.int p4), .val (.int p5), .val (.ref x1_144), .val (.ref b145), .val (.ref b166), .val .null, .val (.ref x1_185), .val (.int (3 : Int32)), .unset, .unset, .unset]) rfl ?_
      refine Owe.iload X185.here hx (hb hby at_77) rfl ?_
      refine Owe.iconst X185.here hx (hb hby at_79) (w := (5 : Int32)) rfl ?_
      refine Owe.icmpYes X185.here hx (hb hby at_80) rfl (feq (by decide)).2 (pc' := 97) (by decide) (by decide) ?_
      refine Owe.iload X185.here hx (hb hby at_97) rfl ?_
      refine Owe.ifYes X185.here hx (hb hby at_99) rfl ((if0 _ _).trans (feq (by decide)).2) (pc' := 112) (by decide) (by decide) ?_
      refine Owe.iload X185.here hx (hb hby at_112) rfl ?_
      refine Owe.iconst X185.here hx (hb hby at_114) (w := (1 : Int32)) rfl ?_
      refine Owe.icmpYes X185.here hx (hb hby at_115) rfl (feq (by decide)).2 (pc' := 130) (by decide) (by decide) ?_
      refine Owe.iload X185.here hx (hb hby at_130) rfl ?_
      refine Owe.iconst X185.here hx (hb hby at_132) (w := (2 : Int32)) rfl ?_
      refine Owe.icmpYes X185.here hx (hb hby at_133) rfl (feq (by decide)).2 (pc' := 145) (by decide) (by decide) ?_
      refine Owe.iload X185.here hx (hb hby at_145) rfl ?_
      refine Owe.iconst X185.here hx (hb hby at_147) (w := (3 : Int32)) rfl ?_
      refine Owe.icmpNo X185.here hx (hb hby at_148) rfl (teq (by decide)).2 ?_
      refine Owe.aload X185.here hx (hb hby at_151) rfl rfl ?_
      refine Owe.astore X185.here hx (hb hby at_153) rfl rfl (l' := #[.val (.int p1), .val (.int p2), .val (.int p3), .val (.int p4), .val (.int p5), .val (.ref x1_144), .val (.ref b145), .val (.ref b166), .val .null, .val (.ref x1_185), .val (.int (3 : Int32)), .val (.ref x1_185), .unset, .unset]) rfl ?_
      refine Owe.iconst X185.here hx (hb hby at_155) (w := (1 : Int32)) rfl ?_
      refine Owe.istore X185.here hx (hb hby at_156) rfl (l' := #[.val (.int p1), .val (.int p2), .val (.int p3), .val (.int p4), .val (.int p5), .val (.ref x1_144), .val (.ref b145), .val (.ref b166), .val .null, .val (.ref x1_185), .val (.int (3 : Int32)), .val (.ref x1_185), .val (.int (1 : Int32)), .unset]) rfl ?_
      refine Owe.goto X185.here hx (hb hby at_158) (pc' := 171) (by decide) (by decide) ?_
      refine Owe.new X185 hx hZ hown (hw _ (List.mem_of_getElem? (i := 68) rfl)) (hw _ (List.mem_of_getElem? (i := 42) rfl)) (hw _ (List.mem_of_getElem? (i := 39) rfl)) rfl (hb hby at_171) (by decide) (by decide) fun T310 h310 b310 g310 X310 e310 E310 A310 D310 => ?_
      have ne_d1_b310 : d1 ≠ b310 := Nat.ne_of_lt (Nat.lt_of_lt_of_le E_d1_187.lt (Nat.le_of_eq g310.symm))
      have ne_d3_b310 : d3 ≠ b310 := Nat.ne_of_lt (Nat.lt_of_lt_of_le E_d3_188.lt (Nat.le_of_eq g310.symm))
      have ne_d0_b310 : d0 ≠ b310 := Nat.ne_of_lt (Nat.lt_of_lt_of_le E_d0_189.lt (Nat.le_of_eq g310.symm))
      have ne_d2_b310 : d2 ≠ b310 := Nat.ne_of_lt (Nat.lt_of_lt_of_le E_d2_190.lt (Nat.le_of_eq g310.symm))
      have ne_b145_b310 : b145 ≠ b310 := Nat.ne_of_lt (Nat.lt_of_lt_of_le V159_191.lt (Nat.le_of_eq g310.symm))
      have ne_b166_b310 : b166 ≠ b310 := Nat.ne_of_lt (Nat.lt_of_lt_of_le Ex175_192.lt (Nat.le_of_eq g310.symm))
      have ne_t175_b310 : t175 ≠ b310 := Nat.ne_of_lt (Nat.lt_of_lt_of_le Vt175_195.lt (Nat.le_of_eq g310.symm))
      have ne_x1_185_b310 : x1_185 ≠ b310 := Nat.ne_of_lt (Nat.lt_of_lt_of_le E_x1_185.lt (Nat.le_of_eq g310.symm))
      have ne_y1_185_b310 : y1_185 ≠ b310 := Nat.ne_of_lt (Nat.lt_of_lt_of_le E_y1_185.lt (Nat.le_of_eq g310.symm))
      have ge_b310 := Nat.le_trans Z_196 (Nat.le_of_eq g310.symm)
      have Ol_311 := Ol_186.ext E310
      have E_d1_312 := E_d1_187.ext E310
      have E_d3_313 := E_d3_188.ext E310
      have E_d0_314 := E_d0_189.ext E310
      have E_d2_315 := E_d2_190.ext E310
      have V159_316 := V159_191.ext E310
      have Ex175_317 := Ex175_192.ext E310
      have Fc175_318 := Fc175_193.ext E310
      have Fv175_319 := Fv175_194.ext E310
      have Vt175_320 := Vt175_195.ext E310
      have E_x1_321 := E_x1_185.ext E310
      have E_y1_322 := E_y1_185.ext E310
      have Fvalue_x1_323 := Fvalue_x1_185.ext E310
      have Z_324 := Nat.le_trans Z_196 E310.1
      have Ftype_b310 : Fld Z h310 b310 "com/example/gatemark/gatemark/model/AttributeValue" "type" "Lcom/example/gatemark/gatemark/model/DataType;" .null := D310 (Or.inr (hw _ (List.mem_of_getElem? (i := 64) rfl))) (ty := (.object "com/example/gatemark/gatemark/model/DataType")) (by decide)
      have Fvalue_b310 : Fld Z h310 b310 "com/example/gatemark/gatemark/model/AttributeValue" "value" "Ljava/lang/Object;" .null := D310 (Or.inr (hw _ (List.mem_of_getElem? (i := 66) rfl))) (ty := (.object "java/lang/Object")) (by decide)
      refine Owe.dup X310.here hx (hb hby at_174) rfl rfl ?_
      refine Owe.aload X310.here hx (hb hby at_175) rfl rfl ?_
      refine Owe.aload X310.here hx (hb hby at_177) rfl rfl ?_
      refine Owe.special X310 hx (y := (⟨"com/example/gatemark/gatemark/model/AttributeValue", "<init>", "(Lcom/example/gatemark/gatemark/model/DataType;Ljava/lang/Object;)V"⟩ : MethodName)) rfl hown (mvT hZ (hw _ (List.mem_of_getElem? (i := 69) rfl))) (mvT hZ (hw _ (List.mem_of_getElem? (i := 60) rfl))) (mvT hZ (hw _ (List.mem_of_getElem? (i := 61) rfl))) (by decide) (backOf (W := 1) (rmavr l Z a0 hw [] b310 x1_144 x1_185 .null .null h310 n0 Z_324 A310 Ftype_b310 Fvalue_b310 ge_b310) hZ (hw _ (List.mem_of_getElem? (i := 61) rfl)) (hw _ (List.mem_of_getElem? (i := 39) rfl)) (by decide) (by decide)) (by rw [hml]; rfl) (a := b310) (argsL := [(.ref x1_144), (.ref x1_185)]) (rest := [(.ref b310)]) (lenOf pd_2 rfl) rfl (Nat.le_of_ble_eq_true rfl) (hb hby at_179) rfl e310 (by decide) (by decide) fun T325 v325 L325 X325 hQ325 => ?_
      obtain ⟨rfl, Nq325, K325, E_a1_325, Fvalue_a1_325⟩ := hQ325
      have N325 := Fr.app N185 Nq325
      have Ol_326 := Ol_311.keep K325 (allS ge_b310 all0)
      have E_d1_327 := E_d1_312.keep K325
      have E_d3_328 := E_d3_313.keep K325
      have E_d0_329 := E_d0_314.keep K325
      have E_d2_330 := E_d2_315.keep K325
      have V159_331 := V159_316.keep K325 (ninS ne_b145_b310 nin0)
      have Ex175_332 := Ex175_317.keep K325
      have Fc175_333 := Fc175_318.keep K325 (ninS ne_b166_b310 nin0)
      have Fv175_334 := Fv175_319.keep K325 (ninS ne_b166_b310 nin0)
      have Vt175_335 := Vt175_320.keep K325 (ninS ne_t175_b310 nin0)
      have E_x1_336 := E_x1_321.keep K325
      have E_y1_337 := E_y1_322.keep K325
      have Fvalue_x1_338 := Fvalue_x1_323.keep K325 (ninS ne_x1_185_b310 nin0)
      have A310_339 := A310.keep K325
      have Z_340 := Nat.le_trans Z_324 K325.1
      refine Owe.astore X325.here hx (hb hby at_182) rfl rfl (l' := #[.val (.int p1), .val (.int p2), .val (.int p3), .val (.int p4), .val (.int p5), .val (.ref x1_144), .val (.ref b145), .val (.ref b166), .val .null, .val (.ref x1_185), .val (.int (3 : Int32)), .val (.ref x1_185), .val (.int (1 : Int32)), .val (.ref b310)]) rfl ?_
      refine Owe.aload X325.here hx (hb hby at_184) rfl rfl ?_
      refine Owe.virt X325 hx hZ (y := (⟨"com/example/gatemark/gatemark/model/AttributeValue", "isRead", "()Z"⟩ : MethodName)) (z := (⟨"com/example/gatemark/gatemark/model/AttributeValue", "isRead", "()Z"⟩ : MethodName)) hown (mvT hZ (hw _ (List.mem_of_getElem? (i := 70) rfl))) (mvT hZ (hw _ (List.mem_of_getElem? (i := 71) rfl))) (mvT hZ (hw _ (List.mem_of_getElem? (i := 73) rfl))) (mvT hZ (hw _ (List.mem_of_getElem? (i := 72) rfl))) (notFace_of_selects (args := #[]) (mvT hZ (hw _ (List.mem_of_getElem? (i := 73) rfl)))) (by decide) (backOf (W := 0) (rmira l Z a0 hw [] b310 x1_185 T325.heap n0 Z_340 Fvalue_a1_325 E_x1_336) hZ (hw _ (List.mem_of_getElem? (i := 74) rfl)) (hw _ (List.mem_of_getElem? (i := 39) rfl)) (by decide) (by decide)) (by rw [hml]; rfl) (a := b310) (argsL := []) (rest := []) E_a1_325 (lenOf pd_7 rfl) rfl (Nat.le_of_ble_eq_true rfl) (hb hby at_186) rfl rfl (by decide) (by decide) fun T341 v341 L341 X341 hQ341 => ?_
      obtain ⟨rfl, Nq341, e341⟩ := hQ341
      have N341 := Fr.app N325 Nq341
      refine Owe.iload X341.here hx (hb hby at_189) rfl ?_
      refine Owe.icmpNo X341.here hx (hb hby at_191) rfl (teq (by decide)).2 ?_
      refine Owe.iconst X341.here hx (hb hby at_194) (w := (1 : Int32)) rfl ?_
      refine Owe.goto X341.here hx (hb hby at_195) (pc' := 199) (by decide) (by decide) ?_
      refine Owe.retN X341 hx hlk (t := .boolean) Bd.returns (by simp) (hb hby at_199) rfl fun fs hE => ?_
      rw [hG]
      refine ⟨_, _, rfl, ?_, frameMono hE (by decide) (by decide)⟩
      show Q0 Z p1 p2 p3 p4 p5 G1 d1 d3 d0 d2 ca cl h0 n0 _ T341.heap _
      rw [e341]
      exact ⟨rfl, N341⟩
    · rw [hk]
      refine Owe.istore X185.here hx (hb hby at_75) rfl (l' := #[.val (.int p1), .val (.int p2), .val (.int p3), .val (.int p4), .val (.int p5), .val (.ref x1_144), .val (.ref b145), .val (.ref b166), .val .null, .val (.ref x1_185), .val (.int (4 : Int32)), .unset, .unset, .unset]) rfl ?_
      refine Owe.iload X185.here hx (hb hby at_77) rfl ?_
      refine Owe.iconst X185.here hx (hb hby at_79) (w := (5 : Int32)) rfl ?_
      refine Owe.icmpYes X185.here hx (hb hby at_80) rfl (feq (by decide)).2 (pc' := 97) (by decide) (by decide) ?_
      refine Owe.iload X185.here hx (hb hby at_97) rfl ?_
      refine Owe.ifYes X185.here hx (hb hby at_99) rfl ((if0 _ _).trans (feq (by decide)).2) (pc' := 112) (by decide) (by decide) ?_
      refine Owe.iload X185.here hx (hb hby at_112) rfl ?_
      refine Owe.iconst X185.here hx (hb hby at_114) (w := (1 : Int32)) rfl ?_
      refine Owe.icmpYes X185.here hx (hb hby at_115) rfl (feq (by decide)).2 (pc' := 130) (by decide) (by decide) ?_
      refine Owe.iload X185.here hx (hb hby at_130) rfl ?_
      refine Owe.iconst X185.here hx (hb hby at_132) (w := (2 : Int32)) rfl ?_
      refine Owe.icmpYes X185.here hx (hb hby at_133) rfl (feq (by decide)).2 (pc' := 145) (by decide) (by decide) ?_
      refine Owe.iload X185.here hx (hb hby at_145) rfl ?_
      refine Owe.iconst X185.here hx (hb hby at_147) (w := (3 : Int32)) rfl ?_
      refine Owe.icmpYes X185.here hx (hb hby at_148) rfl (feq (by decide)).2 (pc' := 161) (by decide) (by decide) ?_
      refine Owe.aload X185.here hx (hb hby at_161) rfl rfl ?_
      refine Owe.virt X185 hx hZ (y := (⟨"com/example/gatemark/gatemark/model/AttributeValue", "value", "()Ljava/lang/Object;"⟩ : MethodName)) (z := (⟨"com/example/gatemark/gatemark/model/AttributeValue", "value", "()Ljava/lang/Object;"⟩ : MethodName)) hown (mvT hZ (hw _ (List.mem_of_getElem? (i := 83) rfl))) (mvT hZ (hw _ (List.mem_of_getElem? (i := 84) rfl))) (mvT hZ (hw _ (List.mem_of_getElem? (i := 86) rfl))) (mvT hZ (hw _ (List.mem_of_getElem? (i := 85) rfl))) (notFace_of_selects (args := #[]) (mvT hZ (hw _ (List.mem_of_getElem? (i := 86) rfl)))) (by decide) (backOf (W := 0) (rmgva l Z a0 hw [] x1_185 y1_185 T185.heap n0 Z_196 Fvalue_x1_185) hZ (hw _ (List.mem_of_getElem? (i := 87) rfl)) (hw _ (List.mem_of_getElem? (i := 39) rfl)) (by decide) (by decide)) (by rw [hml]; rfl) (a := x1_185) (argsL := []) (rest := []) E_x1_185 (lenOf pd_9 rfl) rfl (Nat.le_of_ble_eq_true rfl) (hb hby at_163) rfl rfl (by decide) (by decide) fun T342 v342 L342 X342 hQ342 => ?_
      obtain ⟨rfl, Nq342, e342⟩ := hQ342
      have N342 := Fr.app N185 Nq342
      refine Owe.astore X342.here hx (hb hby at_166) rfl rfl (l' := #[.val (.int p1), .val (.int p2), .val (.int p3), .val (.int p4), .val (.int p5), .val (.ref x1_144), .val (.ref b145), .val (.ref b166), .val .null, .val (.ref x1_185), .val (.int (4 : Int32)), .val (.ref y1_185), .unset, .unset]) rfl ?_
      refine Owe.iconst X342.here hx (hb hby at_168) (w := (0 : Int32)) rfl ?_
      refine Owe.istore X342.here hx (hb hby at_169) rfl (l' := #[.val (.int p1), .val (.int p2), .val (.int p3), .val (.int p4), .val (.int p5), .val (.ref x1_144), .val (.ref b145), .val (.ref b166), .val .null, .val (.ref x1_185), .val (.int (4 : Int32)), .val (.ref y1_185), .val (.int (0 : Int32)), .unset]) rfl ?_
      refine Owe.new X342 hx hZ hown (hw _ (List.mem_of_getElem? (i := 68) rfl)) (hw _ (List.mem_of_getElem? (i := 42) rfl)) (hw _ (List.mem_of_getElem? (i := 39) rfl)) e342 (hb hby at_171) (by decide) (by decide) fun T343 h343 b343 g343 X343 e343 E343 A343 D343 => ?_
      have ne_d1_b343 : d1 ≠ b343 := Nat.ne_of_lt (Nat.lt_of_lt_of_le E_d1_187.lt (Nat.le_of_eq g343.symm))
      have ne_d3_b343 : d3 ≠ b343 := Nat.ne_of_lt (Nat.lt_of_lt_of_le E_d3_188.lt (Nat.le_of_eq g343.symm))
      have ne_d0_b343 : d0 ≠ b343 := Nat.ne_of_lt (Nat.lt_of_lt_of_le E_d0_189.lt (Nat.le_of_eq g343.symm))
      have ne_d2_b343 : d2 ≠ b343 := Nat.ne_of_lt (Nat.lt_of_lt_of_le E_d2_190.lt (Nat.le_of_eq g343.symm))
      have ne_b145_b343 : b145 ≠ b343 := Nat.ne_of_lt (Nat.lt_of_lt_of_le V159_191.lt (Nat.le_of_eq g343.symm))
      have ne_b166_b343 : b166 ≠ b343 := Nat.ne_of_lt (Nat.lt_of_lt_of_le Ex175_192.lt (Nat.le_of_eq g343.symm))
      have ne_t175_b343 : t175 ≠ b343 := Nat.ne_of_lt (Nat.lt_of_lt_of_le Vt175_195.lt (Nat.le_of_eq g343.symm))
      have ne_x1_185_b343 : x1_185 ≠ b343 := Nat.ne_of_lt (Nat.lt_of_lt_of_le E_x1_185.lt (Nat.le_of_eq g343.symm))
      have ne_y1_185_b343 : y1_185 ≠ b343 := Nat.ne_of_lt (Nat.lt_of_lt_of_le E_y1_185.lt (Nat.le_of_eq g343.symm))
      have ge_b343 := Nat.le_trans Z_196 (Nat.le_of_eq g343.symm)
      have Ol_344 := Ol_186.ext E343
      have E_d1_345 := E_d1_187.ext E343
      have E_d3_346 := E_d3_188.ext E343
      have E_d0_347 := E_d0_189.ext E343
      have E_d2_348 := E_d2_190.ext E343
      have V159_349 := V159_191.ext E343
      have Ex175_350 := Ex175_192.ext E343
      have Fc175_351 := Fc175_193.ext E343
      have Fv175_352 := Fv175_194.ext E343
      have Vt175_353 := Vt175_195.ext E343
      have E_x1_354 := E_x1_185.ext E343
      have E_y1_355 := E_y1_185.ext E343
      have Fvalue_x1_356 := Fvalue_x1_185.ext E343
      have Z_357 := Nat.le_trans Z_196 E343.1
      have Ftype_b343 : Fld Z h343 b343 "com/example/gatemark/gatemark/model/AttributeValue" "type" "Lcom/example/gatemark/gatemark/model/DataType;" .null := D343 (Or.inr (hw _ (List.mem_of_getElem? (i := 64) rfl))) (ty := (.object "com/example/gatemark/gatemark/model/DataType")) (by decide)
      have Fvalue_b343 : Fld Z h343 b343 "com/example/gatemark/gatemark/model/AttributeValue" "value" "Ljava/lang/Object;" .null := D343 (Or.inr (hw _ (List.mem_of_getElem? (i := 66) rfl))) (ty := (.object "java/lang/Object")) (by decide)
      refine Owe.dup X343.here hx (hb hby at_174) rfl rfl ?_
      refine Owe.aload X343.here hx (hb hby at_175) rfl rfl ?_
      refine Owe.aload X343.here hx (hb hby at_177) rfl rfl ?_
      refine Owe.special X343 hx (y := (⟨"com/example/gatemark/gatemark/model/AttributeValue", "<init>", "(Lcom/example/gatemark/gatemark/model/DataType;Ljava/lang/Object;)V"⟩ : MethodName)) rfl hown (mvT hZ (hw _ (List.mem_of_getElem? (i := 69) rfl))) (mvT hZ (hw _ (List.mem_of_getElem? (i := 60) rfl))) (mvT hZ (hw _ (List.mem_of_getElem? (i := 61) rfl))) (by decide) (backOf (W := 1) (rmavr l Z a0 hw [] b343 x1_144 y1_185 .null .null h343 n0 Z_357 A343 Ftype_b343 Fvalue_b343 ge_b343) hZ (hw _ (List.mem_of_getElem? (i := 61) rfl)) (hw _ (List.mem_of_getElem? (i := 39) rfl)) (by decide) (by decide)) (by rw [hml]; rfl) (a := b343) (argsL := [(.ref x1_144), (.ref y1_185)]) (rest := [(.ref b343)]) (lenOf pd_2 rfl) rfl (Nat.le_of_ble_eq_true rfl) (hb hby at_179) rfl e343 (by decide) (by decide) fun T358 v358 L358 X358 hQ358 => ?_
      obtain ⟨rfl, Nq358, K358, E_a1_358, Fvalue_a1_358⟩ := hQ358
      have N358 := Fr.app N342 Nq358
      have Ol_359 := Ol_344.keep K358 (allS ge_b343 all0)
      have E_d1_360 := E_d1_345.keep K358
      have E_d3_361 := E_d3_346.keep K358
      have E_d0_362 := E_d0_347.keep K358
      have E_d2_363 := E_d2_348.keep K358
      have V159_364 := V159_349.keep K358 (ninS ne_b145_b343 nin0)
      have Ex175_365 := Ex175_350.keep K358
      have Fc175_366 := Fc175_351.keep K358 (ninS ne_b166_b343 nin0)
      have Fv175_367 := Fv175_352.keep K358 (ninS ne_b166_b343 nin0)
      have Vt175_368 := Vt175_353.keep K358 (ninS ne_t175_b343 nin0)
      have E_x1_369 := E_x1_354.keep K358
      have E_y1_370 := E_y1_355.keep K358
      have Fvalue_x1_371 := Fvalue_x1_356.keep K358 (ninS ne_x1_185_b343 nin0)
      have A343_372 := A343.keep K358
      have Z_373 := Nat.le_trans Z_357 K358.1
      refine Owe.astore X358.here hx (hb hby at_182) rfl rfl (l' := #[.val (.int p1), .val (.int p2), .val (.int p3), .val (.int p4), .val (.int p5), .val (.ref x1_144), .val (.ref b145), .val (.ref b166), .val .null, .val (.ref x1_185), .val (.int (4 : Int32)), .val (.ref y1_185), .val (.int (0 : Int32)), .val (.ref b343)]) rfl ?_
      refine Owe.aload X358.here hx (hb hby at_184) rfl rfl ?_
      refine Owe.virt X358 hx hZ (y := (⟨"com/example/gatemark/gatemark/model/AttributeValue", "isRead", "()Z"⟩ : MethodName)) (z := (⟨"com/example/gatemark/gatemark/model/AttributeValue", "isRead", "()Z"⟩ : MethodName)) hown (mvT hZ (hw _ (List.mem_of_getElem? (i := 70) rfl))) (mvT hZ (hw _ (List.mem_of_getElem? (i := 71) rfl))) (mvT hZ (hw _ (List.mem_of_getElem? (i := 73) rfl))) (mvT hZ (hw _ (List.mem_of_getElem? (i := 72) rfl))) (notFace_of_selects (args := #[]) (mvT hZ (hw _ (List.mem_of_getElem? (i := 73) rfl)))) (by decide) (backOf (W := 0) (rmiru l Z a0 hw [] b343 y1_185 T358.heap n0 Z_373 Fvalue_a1_358 E_y1_370) hZ (hw _ (List.mem_of_getElem? (i := 74) rfl)) (hw _ (List.mem_of_getElem? (i := 39) rfl)) (by decide) (by decide)) (by rw [hml]; rfl) (a := b343) (argsL := []) (rest := []) E_a1_358 (lenOf pd_7 rfl) rfl (Nat.le_of_ble_eq_true rfl) (hb hby at_186) rfl rfl (by decide) (by decide) fun T374 v374 L374 X374 hQ374 => ?_
      obtain ⟨rfl, Nq374, e374⟩ := hQ374
      have N374 := Fr.app N358 Nq374
      refine Owe.iload X374.here hx (hb hby at_189) rfl ?_
      refine Owe.icmpNo X374.here hx (hb hby at_191) rfl (teq (by decide)).2 ?_
      refine Owe.iconst X374.here hx (hb hby at_194) (w := (1 : Int32)) rfl ?_
      refine Owe.goto X374.here hx (hb hby at_195) (pc' := 199) (by decide) (by decide) ?_
      refine Owe.retN X374 hx hlk (t := .boolean) Bd.returns (by simp) (hb hby at_199) rfl fun fs hE => ?_
      rw [hG]
      refine ⟨_, _, rfl, ?_, frameMono hE (by decide) (by decide)⟩
      show Q0 Z p1 p2 p3 p4 p5 G1 d1 d3 d0 d2 ca cl h0 n0 _ T374.heap _
      rw [e374]
      exact ⟨rfl, N374⟩
    · rw [hk]
      refine Owe.istore X185.here hx (hb hby at_75) rfl (l' := #[.val (.int p1), .val (.int p2), .val (.int p3), .val (.int p4), .val (.int p5), .val (.ref x1_144), .val (.ref b145), .val (.ref b166), .val .null, .val (.ref x1_185), .val (.int (5 : Int32)), .unset, .unset, .unset]) rfl ?_
      refine Owe.iload X185.here hx (hb hby at_77) rfl ?_
      refine Owe.iconst X185.here hx (hb hby at_79) (w := (5 : Int32)) rfl ?_
      refine Owe.icmpNo X185.here hx (hb hby at_80) rfl (teq (by decide)).2 ?_
      refine Owe.aload X185.here hx (hb hby at_83) rfl rfl ?_
      refine Owe.virt X185 hx hZ (y := (⟨"com/example/gatemark/gatemark/model/AttributeValue", "isRead", "()Z"⟩ : MethodName)) (z := (⟨"com/example/gatemark/gatemark/model/AttributeValue", "isRead", "()Z"⟩ : MethodName)) hown (mvT hZ (hw _ (List.mem_of_getElem? (i := 70) rfl))) (mvT hZ (hw _ (List.mem_of_getElem? (i := 71) rfl))) (mvT hZ (hw _ (List.mem_of_getElem? (i := 73) rfl))) (mvT hZ (hw _ (List.mem_of_getElem? (i := 72) rfl))) (notFace_of_selects (args := #[]) (mvT hZ (hw _ (List.mem_of_getElem? (i := 73) rfl)))) (by decide) (backOf (W := 0) (rmiru l Z a0 hw [] x1_185 y1_185 T185.heap n0 Z_196 Fvalue_x1_185 E_y1_185) hZ (hw _ (List.mem_of_getElem? (i := 74) rfl)) (hw _ (List.mem_of_getElem? (i := 39) rfl)) (by decide) (by decide)) (by rw [hml]; rfl) (a := x1_185) (argsL := []) (rest := []) E_x1_185 (lenOf pd_7 rfl) rfl (Nat.le_of_ble_eq_true rfl) (hb hby at_85) rfl rfl (by decide) (by decide) fun T375 v375 L375 X375 hQ375 => ?_
      obtain ⟨rfl, Nq375, e375⟩ := hQ375
      have N375 := Fr.app N185 Nq375
      refine Owe.ifNo X375.here hx (hb hby at_88) rfl ((if0 _ _).trans (teq (by decide)).2) ?_
      refine Owe.iconst X375.here hx (hb hby at_91) (w := (1 : Int32)) rfl ?_
      refine Owe.goto X375.here hx (hb hby at_92) (pc' := 96) (by decide) (by decide) ?_
      refine Owe.retN X375 hx hlk (t := .boolean) Bd.returns (by simp) (hb hby at_96) rfl fun fs hE => ?_
      rw [hG]
      refine ⟨_, _, rfl, ?_, frameMono hE (by decide) (by decide)⟩
      show Q0 Z p1 p2 p3 p4 p5 G1 d1 d3 d0 d2 ca cl h0 n0 _ T375.heap _
      rw [e375]
      exact ⟨rfl, N375⟩
  · skip
    refine Owe.ifNo X175.here hx (hb hby at_46) rfl ((if0 _ _).trans (feq hc46_184).1) ?_
    refine Owe.aload X175.here hx (hb hby at_49) rfl rfl ?_
    refine Owe.goto X175.here hx (hb hby at_51) (pc' := 55) (by decide) (by decide) ?_
    refine Owe.astore X175.here hx (hb hby at_55) rfl rfl (l' := #[.val (.int p1), .val (.int p2), .val (.int p3), .val (.int p4), .val (.int p5), .val (.ref x1_144), .val (.ref b145), .val (.ref b166), .val (.ref b166), .unset, .unset, .unset, .unset, .unset]) rfl ?_
    refine Owe.aload X175.here hx (hb hby at_57) rfl rfl ?_
    refine Owe.aload X175.here hx (hb hby at_59) rfl rfl ?_
    refine Owe.aload X175.here hx (hb hby at_61) rfl rfl ?_
    refine Owe.stat X175 hx (y := (⟨"com/example/gatemark/gatemark/model/AttributeValue", "unread", "(Lcom/example/gatemark/gatemark/model/DataType;Ljava/lang/String;Ljava/lang/String;)Lcom/example/gatemark/gatemark/model/AttributeValue;"⟩ : MethodName)) hown (mvT hZ (hw _ (List.mem_of_getElem? (i := 37) rfl))) (mvT hZ (hw _ (List.mem_of_getElem? (i := 38) rfl))) (mvT hZ (hw _ (List.mem_of_getElem? (i := 39) rfl))) (mvT hZ (hw _ (List.mem_of_getElem? (i := 40) rfl))) (by decide) (backOf (W := 0) (rmurr l Z a0 hw [] x1_144 b166 b166 T175.heap n0 Z_183 ) hZ (hw _ (List.mem_of_getElem? (i := 40) rfl)) (hw _ (List.mem_of_getElem? (i := 39) rfl)) (by decide) (by decide)) (by rw [hml]; rfl) (argsL := [(.ref x1_144), (.ref b166), (.ref b166)]) (rest := []) (lenOf pd_6 rfl) rfl (Nat.le_of_ble_eq_true rfl) (hb hby at_63) rfl rfl (by decide) (by decide) fun T376 v376 L376 X376 hQ376 => ?_
    obtain ⟨x1_376, y1_376, rfl, Nq376, K376, ge_x1_376, fresh_x1_376, ge_y1_376, fresh_y1_376, E_x1_376, E_y1_376, Fvalue_x1_376⟩ := hQ376
    have N376 := Fr.app N175 Nq376
    have Ol_377 := Ol_176.keep K376 all0
    have E_d1_378 := E_d1_177.keep K376
    have E_d3_379 := E_d3_178.keep K376
    have E_d0_380 := E_d0_179.keep K376
    have E_d2_381 := E_d2_180.keep K376
    have V159_382 := V159_181.keep K376 nin0
    have Ex175_383 := Ex175.keep K376
    have Fc175_384 := Fc175.keep K376 nin0
    have Fv175_385 := Fv175.keep K376 nin0
    have Vt175_386 := Vt175.keep K376 nin0
    have Z_387 := Nat.le_trans Z_183 K376.1
    have ne_d1_x1_376 : d1 ≠ x1_376 := Nat.ne_of_lt (Nat.lt_of_lt_of_le E_d1_177.lt fresh_x1_376)
    have ne_d3_x1_376 : d3 ≠ x1_376 := Nat.ne_of_lt (Nat.lt_of_lt_of_le E_d3_178.lt fresh_x1_376)
    have ne_d0_x1_376 : d0 ≠ x1_376 := Nat.ne_of_lt (Nat.lt_of_lt_of_le E_d0_179.lt fresh_x1_376)
    have ne_d2_x1_376 : d2 ≠ x1_376 := Nat.ne_of_lt (Nat.lt_of_lt_of_le E_d2_180.lt fresh_x1_376)
    have ne_b145_x1_376 : b145 ≠ x1_376 := Nat.ne_of_lt (Nat.lt_of_lt_of_le V159_181.lt fresh_x1_376)
    have ne_b166_x1_376 : b166 ≠ x1_376 := Nat.ne_of_lt (Nat.lt_of_lt_of_le Ex175.lt fresh_x1_376)
    have ne_t175_x1_376 : t175 ≠ x1_376 := Nat.ne_of_lt (Nat.lt_of_lt_of_le Vt175.lt fresh_x1_376)
    have ne_d1_y1_376 : d1 ≠ y1_376 := Nat.ne_of_lt (Nat.lt_of_lt_of_le E_d1_177.lt fresh_y1_376)
    have ne_d3_y1_376 : d3 ≠ y1_376 := Nat.ne_of_lt (Nat.lt_of_lt_of_le E_d3_178.lt fresh_y1_376)
    have ne_d0_y1_376 : d0 ≠ y1_376 := Nat.ne_of_lt (Nat.lt_of_lt_of_le E_d0_179.lt fresh_y1_376)
    have ne_d2_y1_376 : d2 ≠ y1_376 := Nat.ne_of_lt (Nat.lt_of_lt_of_le E_d2_180.lt fresh_y1_376)
    have ne_b145_y1_376 : b145 ≠ y1_376 := Nat.ne_of_lt (Nat.lt_of_lt_of_le V159_181.lt fresh_y1_376)
    have ne_b166_y1_376 : b166 ≠ y1_376 := Nat.ne_of_lt (Nat.lt_of_lt_of_le Ex175.lt fresh_y1_376)
    have ne_t175_y1_376 : t175 ≠ y1_376 := Nat.ne_of_lt (Nat.lt_of_lt_of_le Vt175.lt fresh_y1_376)
    refine Owe.astore X376.here hx (hb hby at_66) rfl rfl (l' := #[.val (.int p1), .val (.int p2), .val (.int p3), .val (.int p4), .val (.int p5), .val (.ref x1_144), .val (.ref b145), .val (.ref b166), .val (.ref b166), .val (.ref x1_376), .unset, .unset, .unset, .unset]) rfl ?_
    refine Owe.iloadN X376.here hx (hb hby at_68) rfl ?_
    refine Owe.ldcI X376 hx (v := (2147483647 : Int32)) hown (mvT hZ (hw _ (List.mem_of_getElem? (i := 67) rfl))) (hb hby at_69) ?_
    refine Owe.iand X376.here hx (hb hby at_71) rfl ?_
    refine Owe.bipush X376.here hx (hb hby at_72) (w := (6 : Int32)) rfl ?_
    refine Owe.irem X376.here hx (hb hby at_74) rfl (by decide) ?_
    rcases own_rem6 p1 with hk | hk | hk | hk | hk | hk
    · rw [hk]
      refine Owe.istore X376.here hx (hb hby at_75) rfl (l' := #[.val (.int p1), .val (.int p2), .val (.int p3), .val (.int p4), .val (.int p5), .val (.ref x1_144), .val (.ref b145), .val (.ref b166), .val (.ref b166), .val (.ref x1_376), .val (.int (0 : Int32)), .unset, .unset, .unset]) rfl ?_
      refine Owe.iload X376.here hx (hb hby at_77) rfl ?_
      refine Owe.iconst X376.here hx (hb hby at_79) (w := (5 : Int32)) rfl ?_
      refine Owe.icmpYes X376.here hx (hb hby at_80) rfl (feq (by decide)).2 (pc' := 97) (by decide) (by decide) ?_
      refine Owe.iload X376.here hx (hb hby at_97) rfl ?_
      refine Owe.ifNo X376.here hx (hb hby at_99) rfl ((if0 _ _).trans (teq (by decide)).2) ?_
      refine Owe.aload X376.here hx (hb hby at_102) rfl rfl ?_
      refine Owe.astore X376.here hx (hb hby at_104) rfl rfl (l' := #[.val (.int p1), .val (.int p2), .val (.int p3), .val (.int p4), .val (.int p5), .val (.ref x1_144), .val (.ref b145), .val (.ref b166), .val (.ref b166), .val (.ref x1_376), .val (.int (0 : Int32)), .val (.ref b166), .unset, .unset]) rfl ?_
      refine Owe.iconst X376.here hx (hb hby at_106) (w := (1 : Int32)) rfl ?_
      refine Owe.istore X376.here hx (hb hby at_107) rfl (l' := #[.val (.int p1), .val (.int p2), .val (.int p3), .val (.int p4), .val (.int p5), .val (.ref x1_144), .val (.ref b145), .val (.ref b166), .val (.ref b166), .val (.ref x1_376), .val (.int (0 : Int32)), .val (.ref b166), .val (.int (1 : Int32)), .unset]) rfl ?_
      refine Owe.goto X376.here hx (hb hby at_109) (pc' := 171) (by decide) (by decide) ?_
      refine Owe.new X376 hx hZ hown (hw _ (List.mem_of_getElem? (i := 68) rfl)) (hw _ (List.mem_of_getElem? (i := 42) rfl)) (hw _ (List.mem_of_getElem? (i := 39) rfl)) rfl (hb hby at_171) (by decide) (by decide) fun T388 h388 b388 g388 X388 e388 E388 A388 D388 => ?_
      have ne_d1_b388 : d1 ≠ b388 := Nat.ne_of_lt (Nat.lt_of_lt_of_le E_d1_378.lt (Nat.le_of_eq g388.symm))
      have ne_d3_b388 : d3 ≠ b388 := Nat.ne_of_lt (Nat.lt_of_lt_of_le E_d3_379.lt (Nat.le_of_eq g388.symm))
      have ne_d0_b388 : d0 ≠ b388 := Nat.ne_of_lt (Nat.lt_of_lt_of_le E_d0_380.lt (Nat.le_of_eq g388.symm))
      have ne_d2_b388 : d2 ≠ b388 := Nat.ne_of_lt (Nat.lt_of_lt_of_le E_d2_381.lt (Nat.le_of_eq g388.symm))
      have ne_b145_b388 : b145 ≠ b388 := Nat.ne_of_lt (Nat.lt_of_lt_of_le V159_382.lt (Nat.le_of_eq g388.symm))
      have ne_b166_b388 : b166 ≠ b388 := Nat.ne_of_lt (Nat.lt_of_lt_of_le Ex175_383.lt (Nat.le_of_eq g388.symm))
      have ne_t175_b388 : t175 ≠ b388 := Nat.ne_of_lt (Nat.lt_of_lt_of_le Vt175_386.lt (Nat.le_of_eq g388.symm))
      have ne_x1_376_b388 : x1_376 ≠ b388 := Nat.ne_of_lt (Nat.lt_of_lt_of_le E_x1_376.lt (Nat.le_of_eq g388.symm))
      have ne_y1_376_b388 : y1_376 ≠ b388 := Nat.ne_of_lt (Nat.lt_of_lt_of_le E_y1_376.lt (Nat.le_of_eq g388.symm))
      have ge_b388 := Nat.le_trans Z_387 (Nat.le_of_eq g388.symm)
      have Ol_389 := Ol_377.ext E388
      have E_d1_390 := E_d1_378.ext E388
      have E_d3_391 := E_d3_379.ext E388
      have E_d0_392 := E_d0_380.ext E388
      have E_d2_393 := E_d2_381.ext E388
      have V159_394 := V159_382.ext E388
      have Ex175_395 := Ex175_383.ext E388
      have Fc175_396 := Fc175_384.ext E388
      have Fv175_397 := Fv175_385.ext E388
      have Vt175_398 := Vt175_386.ext E388
      have E_x1_399 := E_x1_376.ext E388
      have E_y1_400 := E_y1_376.ext E388
      have Fvalue_x1_401 := Fvalue_x1_376.ext E388
      have Z_402 := Nat.le_trans Z_387 E388.1
      have Ftype_b388 : Fld Z h388 b388 "com/example/gatemark/gatemark/model/AttributeValue" "type" "Lcom/example/gatemark/gatemark/model/DataType;" .null := D388 (Or.inr (hw _ (List.mem_of_getElem? (i := 64) rfl))) (ty := (.object "com/example/gatemark/gatemark/model/DataType")) (by decide)
      have Fvalue_b388 : Fld Z h388 b388 "com/example/gatemark/gatemark/model/AttributeValue" "value" "Ljava/lang/Object;" .null := D388 (Or.inr (hw _ (List.mem_of_getElem? (i := 66) rfl))) (ty := (.object "java/lang/Object")) (by decide)
      refine Owe.dup X388.here hx (hb hby at_174) rfl rfl ?_
      refine Owe.aload X388.here hx (hb hby at_175) rfl rfl ?_
      refine Owe.aload X388.here hx (hb hby at_177) rfl rfl ?_
      refine Owe.special X388 hx (y := (⟨"com/example/gatemark/gatemark/model/AttributeValue", "<init>", "(Lcom/example/gatemark/gatemark/model/DataType;Ljava/lang/Object;)V"⟩ : MethodName)) rfl hown (mvT hZ (hw _ (List.mem_of_getElem? (i := 69) rfl))) (mvT hZ (hw _ (List.mem_of_getElem? (i := 60) rfl))) (mvT hZ (hw _ (List.mem_of_getElem? (i := 61) rfl))) (by decide) (backOf (W := 1) (rmavr l Z a0 hw [] b388 x1_144 b166 .null .null h388 n0 Z_402 A388 Ftype_b388 Fvalue_b388 ge_b388) hZ (hw _ (List.mem_of_getElem? (i := 61) rfl)) (hw _ (List.mem_of_getElem? (i := 39) rfl)) (by decide) (by decide)) (by rw [hml]; rfl) (a := b388) (argsL := [(.ref x1_144), (.ref b166)]) (rest := [(.ref b388)]) (lenOf pd_2 rfl) rfl (Nat.le_of_ble_eq_true rfl) (hb hby at_179) rfl e388 (by decide) (by decide) fun T403 v403 L403 X403 hQ403 => ?_
      obtain ⟨rfl, Nq403, K403, E_a1_403, Fvalue_a1_403⟩ := hQ403
      have N403 := Fr.app N376 Nq403
      have Ol_404 := Ol_389.keep K403 (allS ge_b388 all0)
      have E_d1_405 := E_d1_390.keep K403
      have E_d3_406 := E_d3_391.keep K403
      have E_d0_407 := E_d0_392.keep K403
      have E_d2_408 := E_d2_393.keep K403
      have V159_409 := V159_394.keep K403 (ninS ne_b145_b388 nin0)
      have Ex175_410 := Ex175_395.keep K403
      have Fc175_411 := Fc175_396.keep K403 (ninS ne_b166_b388 nin0)
      have Fv175_412 := Fv175_397.keep K403 (ninS ne_b166_b388 nin0)
      have Vt175_413 := Vt175_398.keep K403 (ninS ne_t175_b388 nin0)
      have E_x1_414 := E_x1_399.keep K403
      have E_y1_415 := E_y1_400.keep K403
      have Fvalue_x1_416 := Fvalue_x1_401.keep K403 (ninS ne_x1_376_b388 nin0)
      have A388_417 := A388.keep K403
      have Z_418 := Nat.le_trans Z_402 K403.1
      refine Owe.astore X403.here hx (hb hby at_182) rfl rfl (l' := #[.val (.int p1), .val (.int p2), .val (.int p3), .val (.int p4), .val (.int p5), .val (.ref x1_144), .val (.ref b145), .val (.ref b166), .val (.ref b166), .val (.ref x1_376), .val (.int (0 : Int32)), .val (.ref b166), .val (.int (1 : Int32)), .val (.ref b388)]) rfl ?_
      refine Owe.aload X403.here hx (hb hby at_184) rfl rfl ?_
      refine Owe.virt X403 hx hZ (y := (⟨"com/example/gatemark/gatemark/model/AttributeValue", "isRead", "()Z"⟩ : MethodName)) (z := (⟨"com/example/gatemark/gatemark/model/AttributeValue", "isRead", "()Z"⟩ : MethodName)) hown (mvT hZ (hw _ (List.mem_of_getElem? (i := 70) rfl))) (mvT hZ (hw _ (List.mem_of_getElem? (i := 71) rfl))) (mvT hZ (hw _ (List.mem_of_getElem? (i := 73) rfl))) (mvT hZ (hw _ (List.mem_of_getElem? (i := 72) rfl))) (notFace_of_selects (args := #[]) (mvT hZ (hw _ (List.mem_of_getElem? (i := 73) rfl)))) (by decide) (backOf (W := 0) (rmirs l Z a0 hw [] b388 b166 T403.heap n0 Z_418 Fvalue_a1_403 Ex175_410) hZ (hw _ (List.mem_of_getElem? (i := 74) rfl)) (hw _ (List.mem_of_getElem? (i := 39) rfl)) (by decide) (by decide)) (by rw [hml]; rfl) (a := b388) (argsL := []) (rest := []) E_a1_403 (lenOf pd_7 rfl) rfl (Nat.le_of_ble_eq_true rfl) (hb hby at_186) rfl rfl (by decide) (by decide) fun T419 v419 L419 X419 hQ419 => ?_
      obtain ⟨rfl, Nq419, e419⟩ := hQ419
      have N419 := Fr.app N403 Nq419
      refine Owe.iload X419.here hx (hb hby at_189) rfl ?_
      refine Owe.icmpNo X419.here hx (hb hby at_191) rfl (teq (by decide)).2 ?_
      refine Owe.iconst X419.here hx (hb hby at_194) (w := (1 : Int32)) rfl ?_
      refine Owe.goto X419.here hx (hb hby at_195) (pc' := 199) (by decide) (by decide) ?_
      refine Owe.retN X419 hx hlk (t := .boolean) Bd.returns (by simp) (hb hby at_199) rfl fun fs hE => ?_
      rw [hG]
      refine ⟨_, _, rfl, ?_, frameMono hE (by decide) (by decide)⟩
      show Q0 Z p1 p2 p3 p4 p5 G1 d1 d3 d0 d2 ca cl h0 n0 _ T419.heap _
      rw [e419]
      exact ⟨rfl, N419⟩
    · rw [hk]
      refine Owe.istore X376.here hx (hb hby at_75) rfl (l' := #[.val (.int p1), .val (.int p2), .val (.int p3), .val (.int p4), .val (.int p5), .val (.ref x1_144), .val (.ref b145), .val (.ref b166), .val (.ref b166), .val (.ref x1_376), .val (.int (1 : Int32)), .unset, .unset, .unset]) rfl ?_
      refine Owe.iload X376.here hx (hb hby at_77) rfl ?_
      refine Owe.iconst X376.here hx (hb hby at_79) (w := (5 : Int32)) rfl ?_
      refine Owe.icmpYes X376.here hx (hb hby at_80) rfl (feq (by decide)).2 (pc' := 97) (by decide) (by decide) ?_
      refine Owe.iload X376.here hx (hb hby at_97) rfl ?_
      refine Owe.ifYes X376.here hx (hb hby at_99) rfl ((if0 _ _).trans (feq (by decide)).2) (pc' := 112) (by decide) (by decide) ?_
      refine Owe.iload X376.here hx (hb hby at_112) rfl ?_
      refine Owe.iconst X376.here hx (hb hby at_114) (w := (1 : Int32)) rfl ?_
      refine Owe.icmpNo X376.here hx (hb hby at_115) rfl (teq (by decide)).2 ?_
      refine Owe.iloadN X376.here hx (hb hby at_118) rfl ?_
      refine Owe.stat X376 hx (y := (⟨"java/lang/Integer", "valueOf", "(I)Ljava/lang/Integer;"⟩ : MethodName)) hown (mvT hZ (hw _ (List.mem_of_getElem? (i := 91) rfl))) (mvT hZ (hw _ (List.mem_of_getElem? (i := 92) rfl))) (mvT hZ (hw _ (List.mem_of_getElem? (i := 93) rfl))) (mvT hZ (hw _ (List.mem_of_getElem? (i := 94) rfl))) (by decide) (backOf (W := 0) (rmvin l Z a0 hw [] p2 ca cl T376.heap n0 Z_387 S_high S_cache cArr cSz cEl Ol_377) hZ (hw _ (List.mem_of_getElem? (i := 94) rfl)) (hw _ (List.mem_of_getElem? (i := 93) rfl)) (by decide) (by decide)) (by rw [hml]; rfl) (argsL := [(.int p2)]) (rest := []) (lenOf pd_8 rfl) rfl (Nat.le_of_ble_eq_true rfl) (hb hby at_119) rfl rfl (by decide) (by decide) fun T420 v420 L420 X420 hQ420 => ?_
      obtain ⟨x1_420, rfl, Nq420, K420, E_x1_420⟩ := hQ420
      have N420 := Fr.app N376 Nq420
      have Ol_421 := Ol_377.keep K420 all0
      have E_d1_422 := E_d1_378.keep K420
      have E_d3_423 := E_d3_379.keep K420
      have E_d0_424 := E_d0_380.keep K420
      have E_d2_425 := E_d2_381.keep K420
      have V159_426 := V159_382.keep K420 nin0
      have Ex175_427 := Ex175_383.keep K420
      have Fc175_428 := Fc175_384.keep K420 nin0
      have Fv175_429 := Fv175_385.keep K420 nin0
      have Vt175_430 := Vt175_386.keep K420 nin0
      have E_x1_431 := E_x1_376.keep K420
      have E_y1_432 := E_y1_376.keep K420
      have Fvalue_x1_433 := Fvalue_x1_376.keep K420 nin0
      have Z_434 := Nat.le_trans Z_387 K420.1
      refine Owe.astore X420.here hx (hb hby at_122) rfl rfl (l' := #[.val (.int p1), .val (.int p2), .val (.int p3), .val (.int p4), .val (.int p5), .val (.ref x1_144), .val (.ref b145), .val (.ref b166), .val (.ref b166), .val (.ref x1_376), .val (.int (1 : Int32)), .val (.ref x1_420), .unset, .unset]) rfl ?_
      refine Owe.iconst X420.here hx (hb hby at_124) (w := (1 : Int32)) rfl ?_
      refine Owe.istore X420.here hx (hb hby at_125) rfl (l' := #[.val (.int p1), .val (.int p2), .val (.int p3), .val (.int p4), .val (.int p5), .val (.ref x1_144), .val (.ref b145), .val (.ref b166), .val (.ref b166), .val (.ref x1_376), .val (.int (1 : Int32)), .val (.ref x1_420), .val (.int (1 : Int32)), .unset]) rfl ?_
      refine Owe.goto X420.here hx (hb hby at_127) (pc' := 171) (by decide) (by decide) ?_
      refine Owe.new X420 hx hZ hown (hw _ (List.mem_of_getElem? (i := 68) rfl)) (hw _ (List.mem_of_getElem? (i := 42) rfl)) (hw _ (List.mem_of_getElem? (i := 39) rfl)) rfl (hb hby at_171) (by decide) (by decide) fun T435 h435 b435 g435 X435 e435 E435 A435 D435 => ?_
      have ne_d1_b435 : d1 ≠ b435 := Nat.ne_of_lt (Nat.lt_of_lt_of_le E_d1_422.lt (Nat.le_of_eq g435.symm))
      have ne_d3_b435 : d3 ≠ b435 := Nat.ne_of_lt (Nat.lt_of_lt_of_le E_d3_423.lt (Nat.le_of_eq g435.symm))
      have ne_d0_b435 : d0 ≠ b435 := Nat.ne_of_lt (Nat.lt_of_lt_of_le E_d0_424.lt (Nat.le_of_eq g435.symm))
      have ne_d2_b435 : d2 ≠ b435 := Nat.ne_of_lt (Nat.lt_of_lt_of_le E_d2_425.lt (Nat.le_of_eq g435.symm))
      have ne_b145_b435 : b145 ≠ b435 := Nat.ne_of_lt (Nat.lt_of_lt_of_le V159_426.lt (Nat.le_of_eq g435.symm))
      have ne_b166_b435 : b166 ≠ b435 := Nat.ne_of_lt (Nat.lt_of_lt_of_le Ex175_427.lt (Nat.le_of_eq g435.symm))
      have ne_t175_b435 : t175 ≠ b435 := Nat.ne_of_lt (Nat.lt_of_lt_of_le Vt175_430.lt (Nat.le_of_eq g435.symm))
      have ne_x1_376_b435 : x1_376 ≠ b435 := Nat.ne_of_lt (Nat.lt_of_lt_of_le E_x1_431.lt (Nat.le_of_eq g435.symm))
      have ne_y1_376_b435 : y1_376 ≠ b435 := Nat.ne_of_lt (Nat.lt_of_lt_of_le E_y1_432.lt (Nat.le_of_eq g435.symm))
      have ne_x1_420_b435 : x1_420 ≠ b435 := Nat.ne_of_lt (Nat.lt_of_lt_of_le E_x1_420.lt (Nat.le_of_eq g435.symm))
      have ge_b435 := Nat.le_trans Z_434 (Nat.le_of_eq g435.symm)
      have Ol_436 := Ol_421.ext E435
      have E_d1_437 := E_d1_422.ext E435
      have E_d3_438 := E_d3_423.ext E435
      have E_d0_439 := E_d0_424.ext E435
      have E_d2_440 := E_d2_425.ext E435
      have V159_441 := V159_426.ext E435
      have Ex175_442 := Ex175_427.ext E435
      have Fc175_443 := Fc175_428.ext E435
      have Fv175_444 := Fv175_429.ext E435
      have Vt175_445 := Vt175_430.ext E435
      have E_x1_446 := E_x1_431.ext E435
      have E_y1_447 := E_y1_432.ext E435
      have Fvalue_x1_448 := Fvalue_x1_433.ext E435
      have E_x1_449 := E_x1_420.ext E435
      have Z_450 := Nat.le_trans Z_434 E435.1
      have Ftype_b435 : Fld Z h435 b435 "com/example/gatemark/gatemark/model/AttributeValue" "type" "Lcom/example/gatemark/gatemark/model/DataType;" .null := D435 (Or.inr (hw _ (List.mem_of_getElem? (i := 64) rfl))) (ty := (.object "com/example/gatemark/gatemark/model/DataType")) (by decide)
      have Fvalue_b435 : Fld Z h435 b435 "com/example/gatemark/gatemark/model/AttributeValue" "value" "Ljava/lang/Object;" .null := D435 (Or.inr (hw _ (List.mem_of_getElem? (i := 66) rfl))) (ty := (.object "java/lang/Object")) (by decide)
      refine Owe.dup X435.here hx (hb hby at_174) rfl rfl ?_
      refine Owe.aload X435.here hx (hb hby at_175) rfl rfl ?_
      refine Owe.aload X435.here hx (hb hby at_177) rfl rfl ?_
      refine Owe.special X435 hx (y := (⟨"com/example/gatemark/gatemark/model/AttributeValue", "<init>", "(Lcom/example/gatemark/gatemark/model/DataType;Ljava/lang/Object;)V"⟩ : MethodName)) rfl hown (mvT hZ (hw _ (List.mem_of_getElem? (i := 69) rfl))) (mvT hZ (hw _ (List.mem_of_getElem? (i := 60) rfl))) (mvT hZ (hw _ (List.mem_of_getElem? (i := 61) rfl))) (by decide) (backOf (W := 1) (rmavr l Z a0 hw [] b435 x1_144 x1_420 .null .null h435 n0 Z_450 A435 Ftype_b435 Fvalue_b435 ge_b435) hZ (hw _ (List.mem_of_getElem? (i := 61) rfl)) (hw _ (List.mem_of_getElem? (i := 39) rfl)) (by decide) (by decide)) (by rw [hml]; rfl) (a := b435) (argsL := [(.ref x1_144), (.ref x1_420)]) (rest := [(.ref b435)]) (lenOf pd_2 rfl) rfl (Nat.le_of_ble_eq_true rfl) (hb hby at_179) rfl e435 (by decide) (by decide) fun T451 v451 L451 X451 hQ451 => ?_
      obtain ⟨rfl, Nq451, K451, E_a1_451, Fvalue_a1_451⟩ := hQ451
      have N451 := Fr.app N420 Nq451
      have Ol_452 := Ol_436.keep K451 (allS ge_b435 all0)
      have E_d1_453 := E_d1_437.keep K451
      have E_d3_454 := E_d3_438.keep K451
      have E_d0_455 := E_d0_439.keep K451
      have E_d2_456 := E_d2_440.keep K451
      have V159_457 := V159_441.keep K451 (ninS ne_b145_b435 nin0)
      have Ex175_458 := Ex175_442.keep K451
      have Fc175_459 := Fc175_443.keep K451 (ninS ne_b166_b435 nin0)
      have Fv175_460 := Fv175_444.keep K451 (ninS ne_b166_b435 nin0)
      have Vt175_461 := Vt175_445.keep K451 (ninS ne_t175_b435 nin0)
      have E_x1_462 := E_x1_446.keep K451
      have E_y1_463 := E_y1_447.keep K451
      have Fvalue_x1_464 := Fvalue_x1_448.keep K451 (ninS ne_x1_376_b435 nin0)
      have E_x1_465 := E_x1_449.keep K451
      have A435_466 := A435.keep K451
      have Z_467 := Nat.le_trans Z_450 K451.1
      refine Owe.astore X451.here hx (hb hby at_182) rfl rfl (l' := #[.val (.int p1), .val (.int p2), .val (.int p3), .val (.int p4), .val (.int p5), .val (.ref x1_144), .val (.ref b145), .val (.ref b166), .val (.ref b166), .val (.ref x1_376), .val (.int (1 : Int32)), .val (.ref x1_420), .val (.int (1 : Int32)), .val (.ref b435)]) rfl ?_
      refine Owe.aload X451.here hx (hb hby at_184) rfl rfl ?_
      refine Owe.virt X451 hx hZ (y := (⟨"com/example/gatemark/gatemark/model/AttributeValue", "isRead", "()Z"⟩ : MethodName)) (z := (⟨"com/example/gatemark/gatemark/model/AttributeValue", "isRead", "()Z"⟩ : MethodName)) hown (mvT hZ (hw _ (List.mem_of_getElem? (i := 70) rfl))) (mvT hZ (hw _ (List.mem_of_getElem? (i := 71) rfl))) (mvT hZ (hw _ (List.mem_of_getElem? (i := 73) rfl))) (mvT hZ (hw _ (List.mem_of_getElem? (i := 72) rfl))) (notFace_of_selects (args := #[]) (mvT hZ (hw _ (List.mem_of_getElem? (i := 73) rfl)))) (by decide) (backOf (W := 0) (rmiri l Z a0 hw [] b435 x1_420 T451.heap n0 Z_467 Fvalue_a1_451 E_x1_465) hZ (hw _ (List.mem_of_getElem? (i := 74) rfl)) (hw _ (List.mem_of_getElem? (i := 39) rfl)) (by decide) (by decide)) (by rw [hml]; rfl) (a := b435) (argsL := []) (rest := []) E_a1_451 (lenOf pd_7 rfl) rfl (Nat.le_of_ble_eq_true rfl) (hb hby at_186) rfl rfl (by decide) (by decide) fun T468 v468 L468 X468 hQ468 => ?_
      obtain ⟨rfl, Nq468, e468⟩ := hQ468
      have N468 := Fr.app N451 Nq468
      refine Owe.iload X468.here hx (hb hby at_189) rfl ?_
      refine Owe.icmpNo X468.here hx (hb hby at_191) rfl (teq (by decide)).2 ?_
      refine Owe.iconst X468.here hx (hb hby at_194) (w := (1 : Int32)) rfl ?_
      refine Owe.goto X468.here hx (hb hby at_195) (pc' := 199) (by decide) (by decide) ?_
      refine Owe.retN X468 hx hlk (t := .boolean) Bd.returns (by simp) (hb hby at_199) rfl fun fs hE => ?_
      rw [hG]
      refine ⟨_, _, rfl, ?_, frameMono hE (by decide) (by decide)⟩
      show Q0 Z p1 p2 p3 p4 p5 G1 d1 d3 d0 d2 ca cl h0 n0 _ T468.heap _
      rw [e468]
      exact ⟨rfl, N468⟩
    · rw [hk]
      refine Owe.istore X376.here hx (hb hby at_75) rfl (l' := #[.val (.int p1), .val (.int p2), .val (.int p3), .val (.int p4), .val (.int p5), .val (.ref x1_144), .val (.ref b145), .val (.ref b166), .val (.ref b166), .val (.ref x1_376), .val (.int (2 : Int32)), .unset, .unset, .unset]) rfl ?_
      refine Owe.iload X376.here hx (hb hby at_77) rfl ?_
      refine Owe.iconst X376.here hx (hb hby at_79) (w := (5 : Int32)) rfl ?_
      refine Owe.icmpYes X376.here hx (hb hby at_80) rfl (feq (by decide)).2 (pc' := 97) (by decide) (by decide) ?_
      refine Owe.iload X376.here hx (hb hby at_97) rfl ?_
      refine Owe.ifYes X376.here hx (hb hby at_99) rfl ((if0 _ _).trans (feq (by decide)).2) (pc' := 112) (by decide) (by decide) ?_
      refine Owe.iload X376.here hx (hb hby at_112) rfl ?_
      refine Owe.iconst X376.here hx (hb hby at_114) (w := (1 : Int32)) rfl ?_
      refine Owe.icmpYes X376.here hx (hb hby at_115) rfl (feq (by decide)).2 (pc' := 130) (by decide) (by decide) ?_
      refine Owe.iload X376.here hx (hb hby at_130) rfl ?_
      refine Owe.iconst X376.here hx (hb hby at_132) (w := (2 : Int32)) rfl ?_
      refine Owe.icmpNo X376.here hx (hb hby at_133) rfl (teq (by decide)).2 ?_
      refine Owe.aconstNull X376.here hx (hb hby at_136)  ?_
      refine Owe.astore X376.here hx (hb hby at_137) rfl rfl (l' := #[.val (.int p1), .val (.int p2), .val (.int p3), .val (.int p4), .val (.int p5), .val (.ref x1_144), .val (.ref b145), .val (.ref b166), .val (.ref b166), .val (.ref x1_376), .val (.int (2 : Int32)), .val .null, .unset, .unset]) rfl ?_
      refine Owe.iconst X376.here hx (hb hby at_139) (w := (1 : Int32)) rfl ?_
      refine Owe.istore X376.here hx (hb hby at_140) rfl (l' := #[.val (.int p1), .val (.int p2), .val (.int p3), .val (.int p4), .val (.int p5), .val (.ref x1_144), .val (.ref b145), .val (.ref b166), .val (.ref b166), .val (.ref x1_376), .val (.int (2 : Int32)), .val .null, .val (.int (1 : Int32)), .unset]) rfl ?_
      refine Owe.goto X376.here hx (hb hby at_142) (pc' := 171) (by decide) (by decide) ?_
      refine Owe.new X376 hx hZ hown (hw _ (List.mem_of_getElem? (i := 68) rfl)) (hw _ (List.mem_of_getElem? (i := 42) rfl)) (hw _ (List.mem_of_getElem? (i := 39) rfl)) rfl (hb hby at_171) (by decide) (by decide) fun T469 h469 b469 g469 X469 e469 E469 A469 D469 => ?_
      have ne_d1_b469 : d1 ≠ b469 := Nat.ne_of_lt (Nat.lt_of_lt_of_le E_d1_378.lt (Nat.le_of_eq g469.symm))
      have ne_d3_b469 : d3 ≠ b469 := Nat.ne_of_lt (Nat.lt_of_lt_of_le E_d3_379.lt (Nat.le_of_eq g469.symm))
      have ne_d0_b469 : d0 ≠ b469 := Nat.ne_of_lt (Nat.lt_of_lt_of_le E_d0_380.lt (Nat.le_of_eq g469.symm))
      have ne_d2_b469 : d2 ≠ b469 := Nat.ne_of_lt (Nat.lt_of_lt_of_le E_d2_381.lt (Nat.le_of_eq g469.symm))
      have ne_b145_b469 : b145 ≠ b469 := Nat.ne_of_lt (Nat.lt_of_lt_of_le V159_382.lt (Nat.le_of_eq g469.symm))
      have ne_b166_b469 : b166 ≠ b469 := Nat.ne_of_lt (Nat.lt_of_lt_of_le Ex175_383.lt (Nat.le_of_eq g469.symm))
      have ne_t175_b469 : t175 ≠ b469 := Nat.ne_of_lt (Nat.lt_of_lt_of_le Vt175_386.lt (Nat.le_of_eq g469.symm))
      have ne_x1_376_b469 : x1_376 ≠ b469 := Nat.ne_of_lt (Nat.lt_of_lt_of_le E_x1_376.lt (Nat.le_of_eq g469.symm))
      have ne_y1_376_b469 : y1_376 ≠ b469 := Nat.ne_of_lt (Nat.lt_of_lt_of_le E_y1_376.lt (Nat.le_of_eq g469.symm))
      have ge_b469 := Nat.le_trans Z_387 (Nat.le_of_eq g469.symm)
      have Ol_470 := Ol_377.ext E469
      have E_d1_471 := E_d1_378.ext E469
      have E_d3_472 := E_d3_379.ext E469
      have E_d0_473 := E_d0_380.ext E469
      have E_d2_474 := E_d2_381.ext E469
      have V159_475 := V159_382.ext E469
      have Ex175_476 := Ex175_383.ext E469
      have Fc175_477 := Fc175_384.ext E469
      have Fv175_478 := Fv175_385.ext E469
      have Vt175_479 := Vt175_386.ext E469
      have E_x1_480 := E_x1_376.ext E469
      have E_y1_481 := E_y1_376.ext E469
      have Fvalue_x1_482 := Fvalue_x1_376.ext E469
      have Z_483 := Nat.le_trans Z_387 E469.1
      have Ftype_b469 : Fld Z h469 b469 "com/example/gatemark/gatemark/model/AttributeValue" "type" "Lcom/example/gatemark/gatemark/model/DataType;" .null := D469 (Or.inr (hw _ (List.mem_of_getElem? (i := 64) rfl))) (ty := (.object "com/example/gatemark/gatemark/model/DataType")) (by decide)
      have Fvalue_b469 : Fld Z h469 b469 "com/example/gatemark/gatemark/model/AttributeValue" "value" "Ljava/lang/Object;" .null := D469 (Or.inr (hw _ (List.mem_of_getElem? (i := 66) rfl))) (ty := (.object "java/lang/Object")) (by decide)
      refine Owe.dup X469.here hx (hb hby at_174) rfl rfl ?_
      refine Owe.aload X469.here hx (hb hby at_175) rfl rfl ?_
      refine Owe.aload X469.here hx (hb hby at_177) rfl rfl ?_
      refine Owe.special X469 hx (y := (⟨"com/example/gatemark/gatemark/model/AttributeValue", "<init>", "(Lcom/example/gatemark/gatemark/model/DataType;Ljava/lang/Object;)V"⟩ : MethodName)) rfl hown (mvT hZ (hw _ (List.mem_of_getElem? (i := 69) rfl))) (mvT hZ (hw _ (List.mem_of_getElem? (i := 60) rfl))) (mvT hZ (hw _ (List.mem_of_getElem? (i := 61) rfl))) (by decide) (backOf (W := 1) (rmavn l Z a0 hw [] b469 x1_144 .null .null h469 n0 Z_483 A469 Ftype_b469 Fvalue_b469 ge_b469) hZ (hw _ (List.mem_of_getElem? (i := 61) rfl)) (hw _ (List.mem_of_getElem? (i := 39) rfl)) (by decide) (by decide)) (by rw [hml]; rfl) (a := b469) (argsL := [(.ref x1_144), .null]) (rest := [(.ref b469)]) (lenOf pd_2 rfl) rfl (Nat.le_of_ble_eq_true rfl) (hb hby at_179) rfl e469 (by decide) (by decide) fun T484 v484 L484 X484 hQ484 => ?_
      obtain ⟨rfl, Nq484, K484, E_a1_484, Fvalue_a1_484⟩ := hQ484
      have N484 := Fr.app N376 Nq484
      have Ol_485 := Ol_470.keep K484 (allS ge_b469 all0)
      have E_d1_486 := E_d1_471.keep K484
      have E_d3_487 := E_d3_472.keep K484
      have E_d0_488 := E_d0_473.keep K484
      have E_d2_489 := E_d2_474.keep K484
      have V159_490 := V159_475.keep K484 (ninS ne_b145_b469 nin0)
      have Ex175_491 := Ex175_476.keep K484
      have Fc175_492 := Fc175_477.keep K484 (ninS ne_b166_b469 nin0)
      have Fv175_493 := Fv175_478.keep K484 (ninS ne_b166_b469 nin0)
      have Vt175_494 := Vt175_479.keep K484 (ninS ne_t175_b469 nin0)
      have E_x1_495 := E_x1_480.keep K484
      have E_y1_496 := E_y1_481.keep K484
      have Fvalue_x1_497 := Fvalue_x1_482.keep K484 (ninS ne_x1_376_b469 nin0)
      have A469_498 := A469.keep K484
      have Z_499 := Nat.le_trans Z_483 K484.1
      refine Owe.astore X484.here hx (hb hby at_182) rfl rfl (l' := #[.val (.int p1), .val (.int p2), .val (.int p3), .val (.int p4), .val (.int p5), .val (.ref x1_144), .val (.ref b145), .val (.ref b166), .val (.ref b166), .val (.ref x1_376), .val (.int (2 : Int32)), .val .null, .val (.int (1 : Int32)), .val (.ref b469)]) rfl ?_
      refine Owe.aload X484.here hx (hb hby at_184) rfl rfl ?_
      refine Owe.virt X484 hx hZ (y := (⟨"com/example/gatemark/gatemark/model/AttributeValue", "isRead", "()Z"⟩ : MethodName)) (z := (⟨"com/example/gatemark/gatemark/model/AttributeValue", "isRead", "()Z"⟩ : MethodName)) hown (mvT hZ (hw _ (List.mem_of_getElem? (i := 70) rfl))) (mvT hZ (hw _ (List.mem_of_getElem? (i := 71) rfl))) (mvT hZ (hw _ (List.mem_of_getElem? (i := 73) rfl))) (mvT hZ (hw _ (List.mem_of_getElem? (i := 72) rfl))) (notFace_of_selects (args := #[]) (mvT hZ (hw _ (List.mem_of_getElem? (i := 73) rfl)))) (by decide) (backOf (W := 0) (rmirn l Z a0 hw [] b469 T484.heap n0 Z_499 Fvalue_a1_484) hZ (hw _ (List.mem_of_getElem? (i := 74) rfl)) (hw _ (List.mem_of_getElem? (i := 39) rfl)) (by decide) (by decide)) (by rw [hml]; rfl) (a := b469) (argsL := []) (rest := []) E_a1_484 (lenOf pd_7 rfl) rfl (Nat.le_of_ble_eq_true rfl) (hb hby at_186) rfl rfl (by decide) (by decide) fun T500 v500 L500 X500 hQ500 => ?_
      obtain ⟨rfl, Nq500, e500⟩ := hQ500
      have N500 := Fr.app N484 Nq500
      refine Owe.iload X500.here hx (hb hby at_189) rfl ?_
      refine Owe.icmpNo X500.here hx (hb hby at_191) rfl (teq (by decide)).2 ?_
      refine Owe.iconst X500.here hx (hb hby at_194) (w := (1 : Int32)) rfl ?_
      refine Owe.goto X500.here hx (hb hby at_195) (pc' := 199) (by decide) (by decide) ?_
      refine Owe.retN X500 hx hlk (t := .boolean) Bd.returns (by simp) (hb hby at_199) rfl fun fs hE => ?_
      rw [hG]
      refine ⟨_, _, rfl, ?_, frameMono hE (by decide) (by decide)⟩
      show Q0 Z p1 p2 p3 p4 p5 G1 d1 d3 d0 d2 ca cl h0 n0 _ T500.heap _
      rw [e500]
      exact ⟨rfl, N500⟩
    · rw [hk]
      refine Owe.istore X376.here hx (hb hby at_75) rfl (l' := #[.val (.int p1), .val (.int p2), .val (.int p3), .val (.int p4), .val (.int p5), .val (.ref x1_144), .val (.ref b145), .val (.ref b166), .val (.ref b166), .val (.ref x1_376), .val (.int (3 : Int32)), .unset, .unset, .unset]) rfl ?_
      refine Owe.iload X376.here hx (hb hby at_77) rfl ?_
      refine Owe.iconst X376.here hx (hb hby at_79) (w := (5 : Int32)) rfl ?_
      refine Owe.icmpYes X376.here hx (hb hby at_80) rfl (feq (by decide)).2 (pc' := 97) (by decide) (by decide) ?_
      refine Owe.iload X376.here hx (hb hby at_97) rfl ?_
      refine Owe.ifYes X376.here hx (hb hby at_99) rfl ((if0 _ _).trans (feq (by decide)).2) (pc' := 112) (by decide) (by decide) ?_
      refine Owe.iload X376.here hx (hb hby at_112) rfl ?_
      refine Owe.iconst X376.here hx (hb hby at_114) (w := (1 : Int32)) rfl ?_
      refine Owe.icmpYes X376.here hx (hb hby at_115) rfl (feq (by decide)).2 (pc' := 130) (by decide) (by decide) ?_
      refine Owe.iload X376.here hx (hb hby at_130) rfl ?_
      refine Owe.iconst X376.here hx (hb hby at_132) (w := (2 : Int32)) rfl ?_
      refine Owe.icmpYes X376.here hx (hb hby at_133) rfl (feq (by decide)).2 (pc' := 145) (by decide) (by decide) ?_
      refine Owe.iload X376.here hx (hb hby at_145) rfl ?_
      refine Owe.iconst X376.here hx (hb hby at_147) (w := (3 : Int32)) rfl ?_
      refine Owe.icmpNo X376.here hx (hb hby at_148) rfl (teq (by decide)).2 ?_
      refine Owe.aload X376.here hx (hb hby at_151) rfl rfl ?_
      refine Owe.astore X376.here hx (hb hby at_153) rfl rfl (l' := #[.val (.int p1), .val (.int p2), .val (.int p3), .val (.int p4), .val (.int p5), .val (.ref x1_144), .val (.ref b145), .val (.ref b166), .val (.ref b166), .val (.ref x1_376), .val (.int (3 : Int32)), .val (.ref x1_376), .unset, .unset]) rfl ?_
      refine Owe.iconst X376.here hx (hb hby at_155) (w := (1 : Int32)) rfl ?_
      refine Owe.istore X376.here hx (hb hby at_156) rfl (l' := #[.val (.int p1), .val (.int p2), .val (.int p3), .val (.int p4), .val (.int p5), .val (.ref x1_144), .val (.ref b145), .val (.ref b166), .val (.ref b166), .val (.ref x1_376), .val (.int (3 : Int32)), .val (.ref x1_376), .val (.int (1 : Int32)), .unset]) rfl ?_
      refine Owe.goto X376.here hx (hb hby at_158) (pc' := 171) (by decide) (by decide) ?_
      refine Owe.new X376 hx hZ hown (hw _ (List.mem_of_getElem? (i := 68) rfl)) (hw _ (List.mem_of_getElem? (i := 42) rfl)) (hw _ (List.mem_of_getElem? (i := 39) rfl)) rfl (hb hby at_171) (by decide) (by decide) fun T501 h501 b501 g501 X501 e501 E501 A501 D501 => ?_
      have ne_d1_b501 : d1 ≠ b501 := Nat.ne_of_lt (Nat.lt_of_lt_of_le E_d1_378.lt (Nat.le_of_eq g501.symm))
      have ne_d3_b501 : d3 ≠ b501 := Nat.ne_of_lt (Nat.lt_of_lt_of_le E_d3_379.lt (Nat.le_of_eq g501.symm))
      have ne_d0_b501 : d0 ≠ b501 := Nat.ne_of_lt (Nat.lt_of_lt_of_le E_d0_380.lt (Nat.le_of_eq g501.symm))
      have ne_d2_b501 : d2 ≠ b501 := Nat.ne_of_lt (Nat.lt_of_lt_of_le E_d2_381.lt (Nat.le_of_eq g501.symm))
      have ne_b145_b501 : b145 ≠ b501 := Nat.ne_of_lt (Nat.lt_of_lt_of_le V159_382.lt (Nat.le_of_eq g501.symm))
      have ne_b166_b501 : b166 ≠ b501 := Nat.ne_of_lt (Nat.lt_of_lt_of_le Ex175_383.lt (Nat.le_of_eq g501.symm))
      have ne_t175_b501 : t175 ≠ b501 := Nat.ne_of_lt (Nat.lt_of_lt_of_le Vt175_386.lt (Nat.le_of_eq g501.symm))
      have ne_x1_376_b501 : x1_376 ≠ b501 := Nat.ne_of_lt (Nat.lt_of_lt_of_le E_x1_376.lt (Nat.le_of_eq g501.symm))
      have ne_y1_376_b501 : y1_376 ≠ b501 := Nat.ne_of_lt (Nat.lt_of_lt_of_le E_y1_376.lt (Nat.le_of_eq g501.symm))
      have ge_b501 := Nat.le_trans Z_387 (Nat.le_of_eq g501.symm)
      have Ol_502 := Ol_377.ext E501
      have E_d1_503 := E_d1_378.ext E501
      have E_d3_504 := E_d3_379.ext E501
      have E_d0_505 := E_d0_380.ext E501
      have E_d2_506 := E_d2_381.ext E501
      have V159_507 := V159_382.ext E501
      have Ex175_508 := Ex175_383.ext E501
      have Fc175_509 := Fc175_384.ext E501
      have Fv175_510 := Fv175_385.ext E501
      have Vt175_511 := Vt175_386.ext E501
      have E_x1_512 := E_x1_376.ext E501
      have E_y1_513 := E_y1_376.ext E501
      have Fvalue_x1_514 := Fvalue_x1_376.ext E501
      have Z_515 := Nat.le_trans Z_387 E501.1
      have Ftype_b501 : Fld Z h501 b501 "com/example/gatemark/gatemark/model/AttributeValue" "type" "Lcom/example/gatemark/gatemark/model/DataType;" .null := D501 (Or.inr (hw _ (List.mem_of_getElem? (i := 64) rfl))) (ty := (.object "com/example/gatemark/gatemark/model/DataType")) (by decide)
      have Fvalue_b501 : Fld Z h501 b501 "com/example/gatemark/gatemark/model/AttributeValue" "value" "Ljava/lang/Object;" .null := D501 (Or.inr (hw _ (List.mem_of_getElem? (i := 66) rfl))) (ty := (.object "java/lang/Object")) (by decide)
      refine Owe.dup X501.here hx (hb hby at_174) rfl rfl ?_
      refine Owe.aload X501.here hx (hb hby at_175) rfl rfl ?_
      refine Owe.aload X501.here hx (hb hby at_177) rfl rfl ?_
      refine Owe.special X501 hx (y := (⟨"com/example/gatemark/gatemark/model/AttributeValue", "<init>", "(Lcom/example/gatemark/gatemark/model/DataType;Ljava/lang/Object;)V"⟩ : MethodName)) rfl hown (mvT hZ (hw _ (List.mem_of_getElem? (i := 69) rfl))) (mvT hZ (hw _ (List.mem_of_getElem? (i := 60) rfl))) (mvT hZ (hw _ (List.mem_of_getElem? (i := 61) rfl))) (by decide) (backOf (W := 1) (rmavr l Z a0 hw [] b501 x1_144 x1_376 .null .null h501 n0 Z_515 A501 Ftype_b501 Fvalue_b501 ge_b501) hZ (hw _ (List.mem_of_getElem? (i := 61) rfl)) (hw _ (List.mem_of_getElem? (i := 39) rfl)) (by decide) (by decide)) (by rw [hml]; rfl) (a := b501) (argsL := [(.ref x1_144), (.ref x1_376)]) (rest := [(.ref b501)]) (lenOf pd_2 rfl) rfl (Nat.le_of_ble_eq_true rfl) (hb hby at_179) rfl e501 (by decide) (by decide) fun T516 v516 L516 X516 hQ516 => ?_
      obtain ⟨rfl, Nq516, K516, E_a1_516, Fvalue_a1_516⟩ := hQ516
      have N516 := Fr.app N376 Nq516
      have Ol_517 := Ol_502.keep K516 (allS ge_b501 all0)
      have E_d1_518 := E_d1_503.keep K516
      have E_d3_519 := E_d3_504.keep K516
      have E_d0_520 := E_d0_505.keep K516
      have E_d2_521 := E_d2_506.keep K516
      have V159_522 := V159_507.keep K516 (ninS ne_b145_b501 nin0)
      have Ex175_523 := Ex175_508.keep K516
      have Fc175_524 := Fc175_509.keep K516 (ninS ne_b166_b501 nin0)
      have Fv175_525 := Fv175_510.keep K516 (ninS ne_b166_b501 nin0)
      have Vt175_526 := Vt175_511.keep K516 (ninS ne_t175_b501 nin0)
      have E_x1_527 := E_x1_512.keep K516
      have E_y1_528 := E_y1_513.keep K516
      have Fvalue_x1_529 := Fvalue_x1_514.keep K516 (ninS ne_x1_376_b501 nin0)
      have A501_530 := A501.keep K516
      have Z_531 := Nat.le_trans Z_515 K516.1
      refine Owe.astore X516.here hx (hb hby at_182) rfl rfl (l' := #[.val (.int p1), .val (.int p2), .val (.int p3), .val (.int p4), .val (.int p5), .val (.ref x1_144), .val (.ref b145), .val (.ref b166), .val (.ref b166), .val (.ref x1_376), .val (.int (3 : Int32)), .val (.ref x1_376), .val (.int (1 : Int32)), .val (.ref b501)]) rfl ?_
      refine Owe.aload X516.here hx (hb hby at_184) rfl rfl ?_
      refine Owe.virt X516 hx hZ (y := (⟨"com/example/gatemark/gatemark/model/AttributeValue", "isRead", "()Z"⟩ : MethodName)) (z := (⟨"com/example/gatemark/gatemark/model/AttributeValue", "isRead", "()Z"⟩ : MethodName)) hown (mvT hZ (hw _ (List.mem_of_getElem? (i := 70) rfl))) (mvT hZ (hw _ (List.mem_of_getElem? (i := 71) rfl))) (mvT hZ (hw _ (List.mem_of_getElem? (i := 73) rfl))) (mvT hZ (hw _ (List.mem_of_getElem? (i := 72) rfl))) (notFace_of_selects (args := #[]) (mvT hZ (hw _ (List.mem_of_getElem? (i := 73) rfl)))) (by decide) (backOf (W := 0) (rmira l Z a0 hw [] b501 x1_376 T516.heap n0 Z_531 Fvalue_a1_516 E_x1_527) hZ (hw _ (List.mem_of_getElem? (i := 74) rfl)) (hw _ (List.mem_of_getElem? (i := 39) rfl)) (by decide) (by decide)) (by rw [hml]; rfl) (a := b501) (argsL := []) (rest := []) E_a1_516 (lenOf pd_7 rfl) rfl (Nat.le_of_ble_eq_true rfl) (hb hby at_186) rfl rfl (by decide) (by decide) fun T532 v532 L532 X532 hQ532 => ?_
      obtain ⟨rfl, Nq532, e532⟩ := hQ532
      have N532 := Fr.app N516 Nq532
      refine Owe.iload X532.here hx (hb hby at_189) rfl ?_
      refine Owe.icmpNo X532.here hx (hb hby at_191) rfl (teq (by decide)).2 ?_
      refine Owe.iconst X532.here hx (hb hby at_194) (w := (1 : Int32)) rfl ?_
      refine Owe.goto X532.here hx (hb hby at_195) (pc' := 199) (by decide) (by decide) ?_
      refine Owe.retN X532 hx hlk (t := .boolean) Bd.returns (by simp) (hb hby at_199) rfl fun fs hE => ?_
      rw [hG]
      refine ⟨_, _, rfl, ?_, frameMono hE (by decide) (by decide)⟩
      show Q0 Z p1 p2 p3 p4 p5 G1 d1 d3 d0 d2 ca cl h0 n0 _ T532.heap _
      rw [e532]
      exact ⟨rfl, N532⟩
    · rw [hk]
      refine Owe.istore X376.here hx (hb hby at_75) rfl (l' := #[.val (.int p1), .val (.int p2), .val (.int p3), .val (.int p4), .val (.int p5), .val (.ref x1_144), .val (.ref b145), .val (.ref b166), .val (.ref b166), .val (.ref x1_376), .val (.int (4 : Int32)), .unset, .unset, .unset]) rfl ?_
      refine Owe.iload X376.here hx (hb hby at_77) rfl ?_
      refine Owe.iconst X376.here hx (hb hby at_79) (w := (5 : Int32)) rfl ?_
      refine Owe.icmpYes X376.here hx (hb hby at_80) rfl (feq (by decide)).2 (pc' := 97) (by decide) (by decide) ?_
      refine Owe.iload X376.here hx (hb hby at_97) rfl ?_
      refine Owe.ifYes X376.here hx (hb hby at_99) rfl ((if0 _ _).trans (feq (by decide)).2) (pc' := 112) (by decide) (by decide) ?_
      refine Owe.iload X376.here hx (hb hby at_112) rfl ?_
      refine Owe.iconst X376.here hx (hb hby at_114) (w := (1 : Int32)) rfl ?_
      refine Owe.icmpYes X376.here hx (hb hby at_115) rfl (feq (by decide)).2 (pc' := 130) (by decide) (by decide) ?_
      refine Owe.iload X376.here hx (hb hby at_130) rfl ?_
      refine Owe.iconst X376.here hx (hb hby at_132) (w := (2 : Int32)) rfl ?_
      refine Owe.icmpYes X376.here hx (hb hby at_133) rfl (feq (by decide)).2 (pc' := 145) (by decide) (by decide) ?_
      refine Owe.iload X376.here hx (hb hby at_145) rfl ?_
      refine Owe.iconst X376.here hx (hb hby at_147) (w := (3 : Int32)) rfl ?_
      refine Owe.icmpYes X376.here hx (hb hby at_148) rfl (feq (by decide)).2 (pc' := 161) (by decide) (by decide) ?_
      refine Owe.aload X376.here hx (hb hby at_161) rfl rfl ?_
      refine Owe.virt X376 hx hZ (y := (⟨"com/example/gatemark/gatemark/model/AttributeValue", "value", "()Ljava/lang/Object;"⟩ : MethodName)) (z := (⟨"com/example/gatemark/gatemark/model/AttributeValue", "value", "()Ljava/lang/Object;"⟩ : MethodName)) hown (mvT hZ (hw _ (List.mem_of_getElem? (i := 83) rfl))) (mvT hZ (hw _ (List.mem_of_getElem? (i := 84) rfl))) (mvT hZ (hw _ (List.mem_of_getElem? (i := 86) rfl))) (mvT hZ (hw _ (List.mem_of_getElem? (i := 85) rfl))) (notFace_of_selects (args := #[]) (mvT hZ (hw _ (List.mem_of_getElem? (i := 86) rfl)))) (by decide) (backOf (W := 0) (rmgva l Z a0 hw [] x1_376 y1_376 T376.heap n0 Z_387 Fvalue_x1_376) hZ (hw _ (List.mem_of_getElem? (i := 87) rfl)) (hw _ (List.mem_of_getElem? (i := 39) rfl)) (by decide) (by decide)) (by rw [hml]; rfl) (a := x1_376) (argsL := []) (rest := []) E_x1_376 (lenOf pd_9 rfl) rfl (Nat.le_of_ble_eq_true rfl) (hb hby at_163) rfl rfl (by decide) (by decide) fun T533 v533 L533 X533 hQ533 => ?_
      obtain ⟨rfl, Nq533, e533⟩ := hQ533
      have N533 := Fr.app N376 Nq533
      refine Owe.astore X533.here hx (hb hby at_166) rfl rfl (l' := #[.val (.int p1), .val (.int p2), .val (.int p3), .val (.int p4), .val (.int p5), .val (.ref x1_144), .val (.ref b145), .val (.ref b166), .val (.ref b166), .val (.ref x1_376), .val (.int (4 : Int32)), .val (.ref y1_376), .unset, .unset]) rfl ?_
      refine Owe.iconst X533.here hx (hb hby at_168) (w := (0 : Int32)) rfl ?_
      refine Owe.istore X533.here hx (hb hby at_169) rfl (l' := #[.val (.int p1), .val (.int p2), .val (.int p3), .val (.int p4), .val (.int p5), .val (.ref x1_144), .val (.ref b145), .val (.ref b166), .val (.ref b166), .val (.ref x1_376), .val (.int (4 : Int32)), .val (.ref y1_376), .val (.int (0 : Int32)), .unset]) rfl ?_
      refine Owe.new X533 hx hZ hown (hw _ (List.mem_of_getElem? (i := 68) rfl)) (hw _ (List.mem_of_getElem? (i := 42) rfl)) (hw _ (List.mem_of_getElem? (i := 39) rfl)) e533 (hb hby at_171) (by decide) (by decide) fun T534 h534 b534 g534 X534 e534 E534 A534 D534 => ?_
      have ne_d1_b534 : d1 ≠ b534 := Nat.ne_of_lt (Nat.lt_of_lt_of_le E_d1_378.lt (Nat.le_of_eq g534.symm))
      have ne_d3_b534 : d3 ≠ b534 := Nat.ne_of_lt (Nat.lt_of_lt_of_le E_d3_379.lt (Nat.le_of_eq g534.symm))
      have ne_d0_b534 : d0 ≠ b534 := Nat.ne_of_lt (Nat.lt_of_lt_of_le E_d0_380.lt (Nat.le_of_eq g534.symm))
      have ne_d2_b534 : d2 ≠ b534 := Nat.ne_of_lt (Nat.lt_of_lt_of_le E_d2_381.lt (Nat.le_of_eq g534.symm))
      have ne_b145_b534 : b145 ≠ b534 := Nat.ne_of_lt (Nat.lt_of_lt_of_le V159_382.lt (Nat.le_of_eq g534.symm))
      have ne_b166_b534 : b166 ≠ b534 := Nat.ne_of_lt (Nat.lt_of_lt_of_le Ex175_383.lt (Nat.le_of_eq g534.symm))
      have ne_t175_b534 : t175 ≠ b534 := Nat.ne_of_lt (Nat.lt_of_lt_of_le Vt175_386.lt (Nat.le_of_eq g534.symm))
      have ne_x1_376_b534 : x1_376 ≠ b534 := Nat.ne_of_lt (Nat.lt_of_lt_of_le E_x1_376.lt (Nat.le_of_eq g534.symm))
      have ne_y1_376_b534 : y1_376 ≠ b534 := Nat.ne_of_lt (Nat.lt_of_lt_of_le E_y1_376.lt (Nat.le_of_eq g534.symm))
      have ge_b534 := Nat.le_trans Z_387 (Nat.le_of_eq g534.symm)
      have Ol_535 := Ol_377.ext E534
      have E_d1_536 := E_d1_378.ext E534
      have E_d3_537 := E_d3_379.ext E534
      have E_d0_538 := E_d0_380.ext E534
      have E_d2_539 := E_d2_381.ext E534
      have V159_540 := V159_382.ext E534
      have Ex175_541 := Ex175_383.ext E534
      have Fc175_542 := Fc175_384.ext E534
      have Fv175_543 := Fv175_385.ext E534
      have Vt175_544 := Vt175_386.ext E534
      have E_x1_545 := E_x1_376.ext E534
      have E_y1_546 := E_y1_376.ext E534
      have Fvalue_x1_547 := Fvalue_x1_376.ext E534
      have Z_548 := Nat.le_trans Z_387 E534.1
      have Ftype_b534 : Fld Z h534 b534 "com/example/gatemark/gatemark/model/AttributeValue" "type" "Lcom/example/gatemark/gatemark/model/DataType;" .null := D534 (Or.inr (hw _ (List.mem_of_getElem? (i := 64) rfl))) (ty := (.object "com/example/gatemark/gatemark/model/DataType")) (by decide)
      have Fvalue_b534 : Fld Z h534 b534 "com/example/gatemark/gatemark/model/AttributeValue" "value" "Ljava/lang/Object;" .null := D534 (Or.inr (hw _ (List.mem_of_getElem? (i := 66) rfl))) (ty := (.object "java/lang/Object")) (by decide)
      refine Owe.dup X534.here hx (hb hby at_174) rfl rfl ?_
      refine Owe.aload X534.here hx (hb hby at_175) rfl rfl ?_
      refine Owe.aload X534.here hx (hb hby at_177) rfl rfl ?_
      refine Owe.special X534 hx (y := (⟨"com/example/gatemark/gatemark/model/AttributeValue", "<init>", "(Lcom/example/gatemark/gatemark/model/DataType;Ljava/lang/Object;)V"⟩ : MethodName)) rfl hown (mvT hZ (hw _ (List.mem_of_getElem? (i := 69) rfl))) (mvT hZ (hw _ (List.mem_of_getElem? (i := 60) rfl))) (mvT hZ (hw _ (List.mem_of_getElem? (i := 61) rfl))) (by decide) (backOf (W := 1) (rmavr l Z a0 hw [] b534 x1_144 y1_376 .null .null h534 n0 Z_548 A534 Ftype_b534 Fvalue_b534 ge_b534) hZ (hw _ (List.mem_of_getElem? (i := 61) rfl)) (hw _ (List.mem_of_getElem? (i := 39) rfl)) (by decide) (by decide)) (by rw [hml]; rfl) (a := b534) (argsL := [(.ref x1_144), (.ref y1_376)]) (rest := [(.ref b534)]) (lenOf pd_2 rfl) rfl (Nat.le_of_ble_eq_true rfl) (hb hby at_179) rfl e534 (by decide) (by decide) fun T549 v549 L549 X549 hQ549 => ?_
      obtain ⟨rfl, Nq549, K549, E_a1_549, Fvalue_a1_549⟩ := hQ549
      have N549 := Fr.app N533 Nq549
      have Ol_550 := Ol_535.keep K549 (allS ge_b534 all0)
      have E_d1_551 := E_d1_536.keep K549
      have E_d3_552 := E_d3_537.keep K549
      have E_d0_553 := E_d0_538.keep K549
      have E_d2_554 := E_d2_539.keep K549
      have V159_555 := V159_540.keep K549 (ninS ne_b145_b534 nin0)
      have Ex175_556 := Ex175_541.keep K549
      have Fc175_557 := Fc175_542.keep K549 (ninS ne_b166_b534 nin0)
      have Fv175_558 := Fv175_543.keep K549 (ninS ne_b166_b534 nin0)
      have Vt175_559 := Vt175_544.keep K549 (ninS ne_t175_b534 nin0)
      have E_x1_560 := E_x1_545.keep K549
      have E_y1_561 := E_y1_546.keep K549
      have Fvalue_x1_562 := Fvalue_x1_547.keep K549 (ninS ne_x1_376_b534 nin0)
      have A534_563 := A534.keep K549
      have Z_564 := Nat.le_trans Z_548 K549.1
      refine Owe.astore X549.here hx (hb hby at_182) rfl rfl (l' := #[.val (.int p1), .val (.int p2), .val (.int p3), .val (.int p4), .val (.int p5), .val (.ref x1_144), .val (.ref b145), .val (.ref b166), .val (.ref b166), .val (.ref x1_376), .val (.int (4 : Int32)), .val (.ref y1_376), .val (.int (0 : Int32)), .val (.ref b534)]) rfl ?_
      refine Owe.aload X549.here hx (hb hby at_184) rfl rfl ?_
      refine Owe.virt X549 hx hZ (y := (⟨"com/example/gatemark/gatemark/model/AttributeValue", "isRead", "()Z"⟩ : MethodName)) (z := (⟨"com/example/gatemark/gatemark/model/AttributeValue", "isRead", "()Z"⟩ : MethodName)) hown (mvT hZ (hw _ (List.mem_of_getElem? (i := 70) rfl))) (mvT hZ (hw _ (List.mem_of_getElem? (i := 71) rfl))) (mvT hZ (hw _ (List.mem_of_getElem? (i := 73) rfl))) (mvT hZ (hw _ (List.mem_of_getElem? (i := 72) rfl))) (notFace_of_selects (args := #[]) (mvT hZ (hw _ (List.mem_of_getElem? (i := 73) rfl)))) (by decide) (backOf (W := 0) (rmiru l Z a0 hw [] b534 y1_376 T549.heap n0 Z_564 Fvalue_a1_549 E_y1_561) hZ (hw _ (List.mem_of_getElem? (i := 74) rfl)) (hw _ (List.mem_of_getElem? (i := 39) rfl)) (by decide) (by decide)) (by rw [hml]; rfl) (a := b534) (argsL := []) (rest := []) E_a1_549 (lenOf pd_7 rfl) rfl (Nat.le_of_ble_eq_true rfl) (hb hby at_186) rfl rfl (by decide) (by decide) fun T565 v565 L565 X565 hQ565 => ?_
      obtain ⟨rfl, Nq565, e565⟩ := hQ565
      have N565 := Fr.app N549 Nq565
      refine Owe.iload X565.here hx (hb hby at_189) rfl ?_
      refine Owe.icmpNo X565.here hx (hb hby at_191) rfl (teq (by decide)).2 ?_
      refine Owe.iconst X565.here hx (hb hby at_194) (w := (1 : Int32)) rfl ?_
      refine Owe.goto X565.here hx (hb hby at_195) (pc' := 199) (by decide) (by decide) ?_
      refine Owe.retN X565 hx hlk (t := .boolean) Bd.returns (by simp) (hb hby at_199) rfl fun fs hE => ?_
      rw [hG]
      refine ⟨_, _, rfl, ?_, frameMono hE (by decide) (by decide)⟩
      show Q0 Z p1 p2 p3 p4 p5 G1 d1 d3 d0 d2 ca cl h0 n0 _ T565.heap _
      rw [e565]
      exact ⟨rfl, N565⟩
    · rw [hk]
      refine Owe.istore X376.here hx (hb hby at_75) rfl (l' := #[.val (.int p1), .val (.int p2), .val (.int p3), .val (.int p4), .val (.int p5), .val (.ref x1_144), .val (.ref b145), .val (.ref b166), .val (.ref b166), .val (.ref x1_376), .val (.int (5 : Int32)), .unset, .unset, .unset]) rfl ?_
      refine Owe.iload X376.here hx (hb hby at_77) rfl ?_
      refine Owe.iconst X376.here hx (hb hby at_79) (w := (5 : Int32)) rfl ?_
      refine Owe.icmpNo X376.here hx (hb hby at_80) rfl (teq (by decide)).2 ?_
      refine Owe.aload X376.here hx (hb hby at_83) rfl rfl ?_
      refine Owe.virt X376 hx hZ (y := (⟨"com/example/gatemark/gatemark/model/AttributeValue", "isRead", "()Z"⟩ : MethodName)) (z := (⟨"com/example/gatemark/gatemark/model/AttributeValue", "isRead", "()Z"⟩ : MethodName)) hown (mvT hZ (hw _ (List.mem_of_getElem? (i := 70) rfl))) (mvT hZ (hw _ (List.mem_of_getElem? (i := 71) rfl))) (mvT hZ (hw _ (List.mem_of_getElem? (i := 73) rfl))) (mvT hZ (hw _ (List.mem_of_getElem? (i := 72) rfl))) (notFace_of_selects (args := #[]) (mvT hZ (hw _ (List.mem_of_getElem? (i := 73) rfl)))) (by decide) (backOf (W := 0) (rmiru l Z a0 hw [] x1_376 y1_376 T376.heap n0 Z_387 Fvalue_x1_376 E_y1_376) hZ (hw _ (List.mem_of_getElem? (i := 74) rfl)) (hw _ (List.mem_of_getElem? (i := 39) rfl)) (by decide) (by decide)) (by rw [hml]; rfl) (a := x1_376) (argsL := []) (rest := []) E_x1_376 (lenOf pd_7 rfl) rfl (Nat.le_of_ble_eq_true rfl) (hb hby at_85) rfl rfl (by decide) (by decide) fun T566 v566 L566 X566 hQ566 => ?_
      obtain ⟨rfl, Nq566, e566⟩ := hQ566
      have N566 := Fr.app N376 Nq566
      refine Owe.ifNo X566.here hx (hb hby at_88) rfl ((if0 _ _).trans (teq (by decide)).2) ?_
      refine Owe.iconst X566.here hx (hb hby at_91) (w := (1 : Int32)) rfl ?_
      refine Owe.goto X566.here hx (hb hby at_92) (pc' := 96) (by decide) (by decide) ?_
      refine Owe.retN X566 hx hlk (t := .boolean) Bd.returns (by simp) (hb hby at_96) rfl fun fs hE => ?_
      rw [hG]
      refine ⟨_, _, rfl, ?_, frameMono hE (by decide) (by decide)⟩
      show Q0 Z p1 p2 p3 p4 p5 G1 d1 d3 d0 d2 ca cl h0 n0 _ T566.heap _
      rw [e566]
      exact ⟨rfl, N566⟩
set_option maxRecDepth 65536 in
set_option maxHeartbeats 40000000 in
theorem comes_1 {Post : Tables → Env → Array Value → State → Outcome → State → Prop} (hpost : ∀ tb e args s v u, (limb_1_1.after args s (.returned v) u = true ∧ limb_1_2.after args s (.returned v) u = true ∧ True) → FrameEnd s (.returned v) u (Jvm.fieldLocs frame_1_writes args s ++ Jvm.arrayLocs frame_1_arrays args s ++ Jvm.staticLocs frame_1_statics s) 24 128 → Post tb e args s (.returned v) u) :
    ArmFor flags0 classFile x code maxLocals ret World_1 tables_1 room_1 Calls_1 rest_1 Pre_1 Post := by
  intro l hfl _ _ p e ha hc hk s m args below hf hA hF happ hP
  obtain ⟨hcalls, hrest, hpre⟩ := hP
  obtain ⟨-, -, -, hnamed, -, -, -, hat⟩ := (Spec.applies_iff hf).mp happ
  obtain ⟨hg, hn⟩ := and_e (Cond.before_iff.mp (show (Jvm.Cond.and given_1 narrow_1).before args s = true from hpre))
  obtain ⟨g0, q0⟩ := and_e hg
  obtain ⟨g1, q1⟩ := and_e q0
  obtain ⟨g2, q2⟩ := and_e q1
  obtain ⟨g3, q3⟩ := and_e q2
  obtain ⟨g4, q4⟩ := and_e q3
  obtain ⟨w0, w1, w2, w3, w4, rfl⟩ : ∃ w0 w1 w2 w3 w4 : Value, args = #[w0, w1, w2, w3, w4] := by
    have hs : args.size = 5 := by simpa [Cond.value, given_1] using g0
    obtain ⟨L⟩ := args
    match L, hs with
    | [w0, w1, w2, w3, w4], _ => exact ⟨w0, w1, w2, w3, w4, rfl⟩
  have hw := fun d (hd : d ∈ tables_1) => atoms_spec (ws := Jvm.Cond.code x code maxLocals ret :: tables_1) hat d (List.mem_cons_of_mem _ hd)
  have hfit : Fit s := fun {y c} hc i hi => by
    obtain ⟨ha, rfl⟩ := Array.getElem?_eq_some_iff.mp hc
    have q := List.all_eq_true.mp ((Array.all_eq_true_iff_forall_mem.mp hF) _ (Array.getElem_mem ha)) i (List.mem_range.mpr hi)
    simpa [Array.getElem?_eq_getElem hi] using q
  obtain ⟨hsets, hown0⟩ := atoms_of _ (rest_1_c_eq ▸ (show rest_1_c.before _ s = true from hrest))
  have hr0 := Cond.before_iff.mp hown0
  obtain ⟨i0, ei0⟩ := is_v g1
  obtain rfl : w0 = (.int i0) := Option.some.inj ei0
  obtain ⟨i1, ei1⟩ := is_v g2
  obtain rfl : w1 = (.int i1) := Option.some.inj ei1
  obtain ⟨i2, ei2⟩ := is_v g3
  obtain rfl : w2 = (.int i2) := Option.some.inj ei2
  obtain ⟨i3, ei3⟩ := is_v g4
  obtain rfl : w3 = (.int i3) := Option.some.inj ei3
  obtain ⟨i4, ei4⟩ := is_v q4
  obtain rfl : w4 = (.int i4) := Option.some.inj ei4
  have n5 := not_v (Cond.before_iff.mp (hsets _ (List.mem_of_getElem? (i := 2) rfl)))
  obtain ⟨ics, ecs⟩ := is_v (Cond.before_iff.mp (hsets _ (List.mem_of_getElem? (i := 1) rfl)))
  have Scs : Sta s s.heap "java/lang/String" "COMPACT_STRINGS" "Z" (.int ics) := Sta.start ecs (Or.inl (hsets _ (List.mem_of_getElem? (i := 0) rfl)))
  have hcs0 : ¬ (ics = (0 : Int32)) := gotF (Cond.eq_ints ecs (Term.int_eval (0))) n5
  obtain ⟨nr0, nx0⟩ := and_e hn
  obtain ⟨nr1, nx1⟩ := and_e nx0
  obtain ⟨nr2, nx2⟩ := and_e nx1
  have nr3 := nx2
  obtain ⟨d1, ev_d1⟩ := exa_v nr0
  have S_d1 : Sta s s.heap "com/example/gatemark/gatemark/model/DataType" "INTEGER" "Lcom/example/gatemark/gatemark/model/DataType;" (.ref d1) := Sta.start ev_d1 (Or.inr ⟨(hw _ (List.mem_of_getElem? (i := 5) rfl)), (hw _ (List.mem_of_getElem? (i := 6) rfl))⟩)
  have E_d1 := Exa.start ev_d1 nr0
  obtain ⟨d3, ev_d3⟩ := exa_v nr1
  have S_d3 : Sta s s.heap "com/example/gatemark/gatemark/model/DataType" "XPATH_EXPRESSION" "Lcom/example/gatemark/gatemark/model/DataType;" (.ref d3) := Sta.start ev_d3 (Or.inr ⟨(hw _ (List.mem_of_getElem? (i := 5) rfl)), (hw _ (List.mem_of_getElem? (i := 78) rfl))⟩)
  have E_d3 := Exa.start ev_d3 nr1
  obtain ⟨d0, ev_d0⟩ := exa_v nr2
  have S_d0 : Sta s s.heap "com/example/gatemark/gatemark/model/DataType" "STRING" "Lcom/example/gatemark/gatemark/model/DataType;" (.ref d0) := Sta.start ev_d0 (Or.inr ⟨(hw _ (List.mem_of_getElem? (i := 5) rfl)), (hw _ (List.mem_of_getElem? (i := 82) rfl))⟩)
  have E_d0 := Exa.start ev_d0 nr2
  obtain ⟨d2, ev_d2⟩ := exa_v nr3
  have S_d2 : Sta s s.heap "com/example/gatemark/gatemark/model/DataType" "DOUBLE" "Lcom/example/gatemark/gatemark/model/DataType;" (.ref d2) := Sta.start ev_d2 (Or.inr ⟨(hw _ (List.mem_of_getElem? (i := 5) rfl)), (hw _ (List.mem_of_getElem? (i := 90) rfl))⟩)
  have E_d2 := Exa.start ev_d2 nr3
  have ehi := own_eq_int (Cond.before_iff.mp (hsets _ (List.mem_of_getElem? (i := 12) rfl)))
  have Shi : Sta s s.heap "java/lang/Integer$IntegerCache" "high" "I" (.int (127 : Int32)) := Sta.start ehi (Or.inl (hsets _ (List.mem_of_getElem? (i := 10) rfl)))
  obtain ⟨ca, eca⟩ := exa_v (Cond.before_iff.mp (hsets _ (List.mem_of_getElem? (i := 14) rfl)))
  have Sca : Sta s s.heap "java/lang/Integer$IntegerCache" "cache" "[Ljava/lang/Integer;" (.ref ca) := Sta.start eca (Or.inr ⟨(hw _ (List.mem_of_getElem? (i := 96) rfl)), (hsets _ (List.mem_of_getElem? (i := 11) rfl))⟩)
  obtain ⟨cl, cArr⟩ := Arr.start eca (Cond.before_iff.mp (hsets _ (List.mem_of_getElem? (i := 13) rfl)))
  have hat2 := cArr.fin (Vm.Alike.refl _)
  have cSz : cl.slots.size = 256 := by
    exact own_len256 eca hat2 (own_eq_int (Cond.before_iff.mp (hsets _ (List.mem_of_getElem? (i := 15) rfl))))
  have cEl : ∀ i, i < 256 → ∃ a, cl.slots[i]? = some (.ref a) ∧ Exa s s.heap a "java/lang/Integer" := fun i hi => by
    have q := Cond.all_elim eca hat2 (Cond.before_iff.mp (hsets _ (List.mem_of_getElem? (i := 16) rfl))) i (by rw [cSz]; exact hi)
    obtain ⟨q1, -⟩ := and_e q
    obtain ⟨x, ex⟩ := exa_v q1
    exact ⟨x, own_elem (show _ = some (Value.ref ca) from eca) hat2 ex hi, exa_at ex q1⟩
  obtain ⟨n, o, h1, h2, h3, _, L, rfl, ⟨rfl, N⟩, hq⟩ := rm0 l s _ hw tables_1 i0 i1 i2 i3 i4 ics d1 d3 d0 d2 ca cl s.heap s.heap.size (Nat.le_refl _) Scs hcs0 (Old.start s) S_d1 E_d1 S_d3 E_d3 S_d0 E_d0 S_d2 E_d2 Shi Sca cArr cSz cEl p e ha hc hk s m _ below hf ((Spec.applies_iff_loose hf).mp happ).1 ⟨rfl, State.Warmed39.refl s, rfl⟩ trivial
  refine ⟨n, _, h1, h2, h3, hpost _ _ _ _ _ _ ⟨Cond.after_iff.mpr rfl, Cond.after_iff.mpr (eq_i res_at (Term.int_eval (1)) rfl), trivial⟩ ⟨hq.1, hq.2.1, (hq.2.2.sift fun y hy => Or.inr (N y hy)).mono (by decide) (by decide)⟩⟩
theorem main_1_1 : Claimed_1_1 := comes_1 fun _ _ _ _ _ _ h hF => ⟨h.1, hF⟩
theorem main_1_2 : Claimed_1_2 := comes_1 fun _ _ _ _ _ _ h hF => ⟨h.2.1, hF⟩
end Jvm.Pilot.@@N@@
namespace Jvm.Pilot.@@N@@
open Jvm Jvm.ClassFile Sem Op Lib Jvm.Free Jvm.Stand Jvm.Pilot.@@N@@.Jvm.D
/-! MADE BY PROGRAM (witnessworld.py) out of the Statement's table words and the real class files: 29 classes; the members and pool entries that the words name. The judged class is class 1, her method 2. -/
namespace start1
open Jvm.ClassFile
def u (s : String) : CpInfo := .utf8 (stringToUtf16 s)
/-- a pool by its gaps: so many unusable entries, then the entry; so many at the end -/
def gap : Nat → List CpInfo → List CpInfo
  | 0, r => r
  | n + 1, r => .unusable :: gap n r
def poolList (es : List (Nat × CpInfo)) (last : Nat) : List CpInfo := es.foldr (fun e r => gap e.1 (e.2 :: r)) (gap last [])
def pool (es : List (Nat × CpInfo)) (last : Nat) : Array CpInfo := ⟨poolList es last⟩
def fileOf (pool : Array CpInfo) (this : Nat) (attrs : Array Attribute := #[]) (ms : Array MethodInfo := #[]) (fl : Nat := 33) (sup : Nat := 0) (ifs : Array Nat := #[]) (fds : Array FieldInfo := #[]) : ClassFile where
  minorVersion := 0
  majorVersion := 65
  constantPool := pool
  accessFlags := fl
  thisClass := this
  superClass := sup
  interfaces := ifs
  fields := fds
  methods := ms
  attributes := attrs
def plain (name : String) (sup : Option ClassId) : Class where
  name := name
  kind := .ordinary
  loader := none
  accessFlags := 33
  super := sup
  interfaces := #[]
  cf := none
  fields := #[]
  methods := #[]
  instanceTypes := #[]
  staticTypes := #[]
  resolved := #[]
  callSites := []
  init := .initialized
  statics := none
  mirror := none

def pool0 : Array CpInfo := pool [(5, u "<init>"), (0, u "()V"), (1, .class_ 10), (1, u "java/lang/Object")] 113

def k0c0 : Code := { maxStack := 0, maxLocals := 1, code := object_method_1_code, exceptionTable := #[], attributes := #[] }
def k0m0 : Method := { name := "<init>", desc := "()V", sig := { parameters := [], returnType := none }, accessFlags := 1, code := some k0c0 }
/-- java/lang/Object -/
def k0 : Class := { plain "java/lang/Object" none with
  accessFlags := 33
  interfaces := #[]
  cf := some (fileOf pool0 8 #[] #[{ accessFlags := 1, nameIndex := 5, descriptorIndex := 6, attributes := #[] }] 33 0 #[] #[])
  fields := #[]
  methods := #[k0m0]
  instanceTypes := #[]
  staticTypes := #[]
  resolved := Array.replicate 124 none
  statics := none }

def pool1 : Array CpInfo := pool [(2, .class_ 4), (1, u "java/lang/Object"), (0, u "<init>"), (0, u "()V"), (0, .fieldref 8 9), (0, .class_ 10), (0, .nameAndType 11 12), (0, u "com/example/gatemark/gatemark/model/DataType"), (0, u "STRING"), (0, u "Lcom/example/gatemark/gatemark/model/DataType;"), (0, .fieldref 8 14), (0, .nameAndType 15 12), (0, u "INTEGER"), (0, .fieldref 8 17), (0, .nameAndType 18 12), (0, u "DOUBLE"), (0, .fieldref 8 20), (0, .nameAndType 21 12), (0, u "XPATH_EXPRESSION"), (0, .methodref 23 24), (0, .class_ 25), (0, .nameAndType 26 27), (0, u "com/example/gatemark/gatemark/model/AttributeValueIsReadPinLaw"), (0, u "pickType"), (0, u "(I)Lcom/example/gatemark/gatemark/model/DataType;"), (0, .class_ 29), (0, u "java/lang/String"), (0, .methodref 28 31), (0, .nameAndType 5 32), (0, u "([C)V"), (0, .methodref 34 35), (0, .class_ 36), (0, .nameAndType 37 38), (0, u "com/example/gatemark/gatemark/model/AttributeValue"), (0, u "unread"), (0, u "(Lcom/example/gatemark/gatemark/model/DataType;Ljava/lang/String;Ljava/lang/String;)Lcom/example/gatemark/gatemark/model/AttributeValue;"), (0, .integer 2147483647), (0, .methodref 34 41), (0, .nameAndType 42 43), (0, u "isRead"), (0, u "()Z"), (0, .methodref 45 46), (0, .class_ 47), (0, .nameAndType 48 49), (0, u "java/lang/Integer"), (0, u "valueOf"), (0, u "(I)Ljava/lang/Integer;"), (0, .methodref 34 51), (0, .nameAndType 52 53), (0, u "value"), (0, u "()Ljava/lang/Object;"), (0, .methodref 34 55), (0, .nameAndType 5 56), (0, u "(Lcom/example/gatemark/gatemark/model/DataType;Ljava/lang/Object;)V"), (3, u "law"), (0, u "(IIIII)Z")] 4

def k1m0 : Method := { name := "<init>", desc := "()V", sig := { parameters := [], returnType := none }, accessFlags := 2, code := none }
def k1c1 : Code := { maxStack := 2, maxLocals := 2, code := method_2_code, exceptionTable := #[], attributes := #[] }
def k1m1 : Method := { name := "pickType", desc := "(I)Lcom/example/gatemark/gatemark/model/DataType;", sig := { parameters := [.int], returnType := some (.object "com/example/gatemark/gatemark/model/DataType") }, accessFlags := 10, code := some k1c1 }
def k1c2 : Code := { maxStack := 4, maxLocals := 14, code := code, exceptionTable := #[], attributes := #[] }
def k1m2 : Method := { name := "law", desc := "(IIIII)Z", sig := { parameters := [.int, .int, .int, .int, .int], returnType := some .boolean }, accessFlags := 9, code := some k1c2 }
/-- com/example/gatemark/gatemark/model/AttributeValueIsReadPinLaw -/
def k1 : Class := { plain "com/example/gatemark/gatemark/model/AttributeValueIsReadPinLaw" (some 0) with
  accessFlags := 49
  interfaces := #[]
  cf := some (fileOf pool1 23 #[] #[{ accessFlags := 2, nameIndex := 5, descriptorIndex := 6, attributes := #[] }, { accessFlags := 10, nameIndex := 26, descriptorIndex := 27, attributes := #[] }, { accessFlags := 9, nameIndex := 60, descriptorIndex := 61, attributes := #[] }] 49 2 #[] #[])
  fields := #[]
  methods := #[k1m0, k1m1, k1m2]
  instanceTypes := #[]
  staticTypes := #[]
  resolved := Array.replicate 66 none
  statics := none }

def pool2 : Array CpInfo := pool [(1, .class_ 2), (0, u "java/lang/constant/Constable"), (0, .class_ 4), (0, u "java/lang/Object")] 6

/-- java/lang/constant/Constable -/
def k2 : Class := { plain "java/lang/constant/Constable" (some 0) with
  accessFlags := 1537
  interfaces := #[]
  cf := some (fileOf pool2 1 #[] #[] 1537 3 #[] #[])
  fields := #[]
  methods := #[]
  instanceTypes := #[]
  staticTypes := #[]
  resolved := Array.replicate 11 none
  statics := none }

def pool3 : Array CpInfo := pool [(1, .class_ 2), (0, u "java/lang/Comparable"), (0, .class_ 4), (0, u "java/lang/Object")] 7

/-- java/lang/Comparable -/
def k3 : Class := { plain "java/lang/Comparable" (some 0) with
  accessFlags := 1537
  interfaces := #[]
  cf := some (fileOf pool3 1 #[] #[] 1537 3 #[] #[])
  fields := #[]
  methods := #[]
  instanceTypes := #[]
  staticTypes := #[]
  resolved := Array.replicate 12 none
  statics := none }

def pool4 : Array CpInfo := pool [(1, .class_ 2), (0, u "java/io/Serializable"), (0, .class_ 4), (0, u "java/lang/Object")] 2

/-- java/io/Serializable -/
def k4 : Class := { plain "java/io/Serializable" (some 0) with
  accessFlags := 1537
  interfaces := #[]
  cf := some (fileOf pool4 1 #[] #[] 1537 3 #[] #[])
  fields := #[]
  methods := #[]
  instanceTypes := #[]
  staticTypes := #[]
  resolved := Array.replicate 7 none
  statics := none }

def pool5 : Array CpInfo := pool [(2, .class_ 4), (1, u "java/lang/Enum"), (0, u "name"), (0, u "Ljava/lang/String;"), (2, u "ordinal"), (0, u "I"), (1, .class_ 14), (1, u "java/lang/Object"), (4, u "hash"), (86, .class_ 108), (1, u "java/lang/Enum$EnumDesc"), (2, .class_ 112), (0, u "java/lang/constant/Constable"), (0, .class_ 114), (0, u "java/lang/Comparable"), (0, .class_ 116), (0, u "java/io/Serializable")] 87

/-- java/lang/Enum -/
def k5 : Class := { plain "java/lang/Enum" (some 0) with
  accessFlags := 1057
  interfaces := #[2, 3, 4]
  cf := some (fileOf pool5 2 #[.nestMembers #[106]] #[] 1057 12 #[111, 113, 115] #[{ accessFlags := 18, nameIndex := 5, descriptorIndex := 6, attributes := #[] }, { accessFlags := 18, nameIndex := 9, descriptorIndex := 10, attributes := #[] }, { accessFlags := 2, nameIndex := 19, descriptorIndex := 10, attributes := #[] }])
  fields := #[{ name := "name", type := (.object "java/lang/String"), accessFlags := 18, slot := 0, constantValue := 0 }, { name := "ordinal", type := .int, accessFlags := 18, slot := 1, constantValue := 0 }, { name := "hash", type := .int, accessFlags := 2, slot := 2, constantValue := 0 }]
  methods := #[]
  instanceTypes := #[(.object "java/lang/String"), .int, .int]
  staticTypes := #[]
  resolved := Array.replicate 204 none
  statics := none }

def pool6 : Array CpInfo := pool [(1, .class_ 2), (0, u "com/example/gatemark/gatemark/model/DataType"), (2, u "STRING"), (0, u "Lcom/example/gatemark/gatemark/model/DataType;"), (2, u "BOOLEAN"), (2, u "INTEGER"), (2, u "DOUBLE"), (2, u "TIME"), (2, u "DATE"), (2, u "DATE_TIME"), (2, u "DAY_TIME_DURATION"), (2, u "YEAR_MONTH_DURATION"), (2, u "ANY_URI"), (2, u "HEX_BINARY"), (2, u "BASE64_BINARY"), (2, u "RFC822_NAME"), (2, u "X500_NAME"), (2, u "IP_ADDRESS"), (2, u "DNS_NAME"), (2, u "XPATH_EXPRESSION"), (2, u "$VALUES"), (0, u "[Lcom/example/gatemark/gatemark/model/DataType;"), (6, .class_ 67), (1, u "java/lang/Enum"), (11, u "id"), (0, u "Ljava/lang/String;"), (2, u "parser"), (0, u "Ljava/util/function/Function;"), (2, u "formatter"), (2, u "canonical"), (2, u "equality"), (0, u "Lcom/example/gatemark/gatemark/model/Equality;"), (2, u "order"), (0, u "Ljava/util/function/BiPredicate;"), (2, u "BY_ID"), (0, u "Ljava/util/Map;"), (120, .class_ 224), (0, u "com/example/gatemark/gatemark/model/DataType$Ids")] 373

/-- com/example/gatemark/gatemark/model/DataType -/
def k6 : Class := { plain "com/example/gatemark/gatemark/model/DataType" (some 5) with
  accessFlags := 16433
  interfaces := #[]
  cf := some (fileOf pool6 1 #[.nestMembers #[223]] #[] 16433 65 #[] #[{ accessFlags := 16409, nameIndex := 5, descriptorIndex := 6, attributes := #[] }, { accessFlags := 16409, nameIndex := 9, descriptorIndex := 6, attributes := #[] }, { accessFlags := 16409, nameIndex := 12, descriptorIndex := 6, attributes := #[] }, { accessFlags := 16409, nameIndex := 15, descriptorIndex := 6, attributes := #[] }, { accessFlags := 16409, nameIndex := 18, descriptorIndex := 6, attributes := #[] }, { accessFlags := 16409, nameIndex := 21, descriptorIndex := 6, attributes := #[] }, { accessFlags := 16409, nameIndex := 24, descriptorIndex := 6, attributes := #[] }, { accessFlags := 16409, nameIndex := 27, descriptorIndex := 6, attributes := #[] }, { accessFlags := 16409, nameIndex := 30, descriptorIndex := 6, attributes := #[] }, { accessFlags := 16409, nameIndex := 33, descriptorIndex := 6, attributes := #[] }, { accessFlags := 16409, nameIndex := 36, descriptorIndex := 6, attributes := #[] }, { accessFlags := 16409, nameIndex := 39, descriptorIndex := 6, attributes := #[] }, { accessFlags := 16409, nameIndex := 42, descriptorIndex := 6, attributes := #[] }, { accessFlags := 16409, nameIndex := 45, descriptorIndex := 6, attributes := #[] }, { accessFlags := 16409, nameIndex := 48, descriptorIndex := 6, attributes := #[] }, { accessFlags := 16409, nameIndex := 51, descriptorIndex := 6, attributes := #[] }, { accessFlags := 16409, nameIndex := 54, descriptorIndex := 6, attributes := #[] }, { accessFlags := 26, nameIndex := 101, descriptorIndex := 102, attributes := #[] }, { accessFlags := 18, nameIndex := 79, descriptorIndex := 80, attributes := #[] }, { accessFlags := 18, nameIndex := 83, descriptorIndex := 84, attributes := #[] }, { accessFlags := 18, nameIndex := 87, descriptorIndex := 84, attributes := #[] }, { accessFlags := 18, nameIndex := 90, descriptorIndex := 84, attributes := #[] }, { accessFlags := 18, nameIndex := 93, descriptorIndex := 94, attributes := #[] }, { accessFlags := 18, nameIndex := 97, descriptorIndex := 98, attributes := #[] }, { accessFlags := 4122, nameIndex := 57, descriptorIndex := 58, attributes := #[] }])
  fields := #[{ name := "STRING", type := (.object "com/example/gatemark/gatemark/model/DataType"), accessFlags := 16409, slot := 0, constantValue := 0 }, { name := "BOOLEAN", type := (.object "com/example/gatemark/gatemark/model/DataType"), accessFlags := 16409, slot := 1, constantValue := 0 }, { name := "INTEGER", type := (.object "com/example/gatemark/gatemark/model/DataType"), accessFlags := 16409, slot := 2, constantValue := 0 }, { name := "DOUBLE", type := (.object "com/example/gatemark/gatemark/model/DataType"), accessFlags := 16409, slot := 3, constantValue := 0 }, { name := "TIME", type := (.object "com/example/gatemark/gatemark/model/DataType"), accessFlags := 16409, slot := 4, constantValue := 0 }, { name := "DATE", type := (.object "com/example/gatemark/gatemark/model/DataType"), accessFlags := 16409, slot := 5, constantValue := 0 }, { name := "DATE_TIME", type := (.object "com/example/gatemark/gatemark/model/DataType"), accessFlags := 16409, slot := 6, constantValue := 0 }, { name := "DAY_TIME_DURATION", type := (.object "com/example/gatemark/gatemark/model/DataType"), accessFlags := 16409, slot := 7, constantValue := 0 }, { name := "YEAR_MONTH_DURATION", type := (.object "com/example/gatemark/gatemark/model/DataType"), accessFlags := 16409, slot := 8, constantValue := 0 }, { name := "ANY_URI", type := (.object "com/example/gatemark/gatemark/model/DataType"), accessFlags := 16409, slot := 9, constantValue := 0 }, { name := "HEX_BINARY", type := (.object "com/example/gatemark/gatemark/model/DataType"), accessFlags := 16409, slot := 10, constantValue := 0 }, { name := "BASE64_BINARY", type := (.object "com/example/gatemark/gatemark/model/DataType"), accessFlags := 16409, slot := 11, constantValue := 0 }, { name := "RFC822_NAME", type := (.object "com/example/gatemark/gatemark/model/DataType"), accessFlags := 16409, slot := 12, constantValue := 0 }, { name := "X500_NAME", type := (.object "com/example/gatemark/gatemark/model/DataType"), accessFlags := 16409, slot := 13, constantValue := 0 }, { name := "IP_ADDRESS", type := (.object "com/example/gatemark/gatemark/model/DataType"), accessFlags := 16409, slot := 14, constantValue := 0 }, { name := "DNS_NAME", type := (.object "com/example/gatemark/gatemark/model/DataType"), accessFlags := 16409, slot := 15, constantValue := 0 }, { name := "XPATH_EXPRESSION", type := (.object "com/example/gatemark/gatemark/model/DataType"), accessFlags := 16409, slot := 16, constantValue := 0 }, { name := "BY_ID", type := (.object "java/util/Map"), accessFlags := 26, slot := 17, constantValue := 0 }, { name := "id", type := (.object "java/lang/String"), accessFlags := 18, slot := 3, constantValue := 0 }, { name := "parser", type := (.object "java/util/function/Function"), accessFlags := 18, slot := 4, constantValue := 0 }, { name := "formatter", type := (.object "java/util/function/Function"), accessFlags := 18, slot := 5, constantValue := 0 }, { name := "canonical", type := (.object "java/util/function/Function"), accessFlags := 18, slot := 6, constantValue := 0 }, { name := "equality", type := (.object "com/example/gatemark/gatemark/model/Equality"), accessFlags := 18, slot := 7, constantValue := 0 }, { name := "order", type := (.object "java/util/function/BiPredicate"), accessFlags := 18, slot := 8, constantValue := 0 }, { name := "$VALUES", type := (.array (.object "com/example/gatemark/gatemark/model/DataType")), accessFlags := 4122, slot := 18, constantValue := 0 }]
  methods := #[]
  instanceTypes := #[(.object "java/lang/String"), .int, .int, (.object "java/lang/String"), (.object "java/util/function/Function"), (.object "java/util/function/Function"), (.object "java/util/function/Function"), (.object "com/example/gatemark/gatemark/model/Equality"), (.object "java/util/function/BiPredicate")]
  staticTypes := #[(.object "com/example/gatemark/gatemark/model/DataType"), (.object "com/example/gatemark/gatemark/model/DataType"), (.object "com/example/gatemark/gatemark/model/DataType"), (.object "com/example/gatemark/gatemark/model/DataType"), (.object "com/example/gatemark/gatemark/model/DataType"), (.object "com/example/gatemark/gatemark/model/DataType"), (.object "com/example/gatemark/gatemark/model/DataType"), (.object "com/example/gatemark/gatemark/model/DataType"), (.object "com/example/gatemark/gatemark/model/DataType"), (.object "com/example/gatemark/gatemark/model/DataType"), (.object "com/example/gatemark/gatemark/model/DataType"), (.object "com/example/gatemark/gatemark/model/DataType"), (.object "com/example/gatemark/gatemark/model/DataType"), (.object "com/example/gatemark/gatemark/model/DataType"), (.object "com/example/gatemark/gatemark/model/DataType"), (.object "com/example/gatemark/gatemark/model/DataType"), (.object "com/example/gatemark/gatemark/model/DataType"), (.object "java/util/Map"), (.array (.object "com/example/gatemark/gatemark/model/DataType"))]
  resolved := Array.replicate 598 none
  statics := some 0 }

def pool7 : Array CpInfo := pool [(2, .class_ 4), (1, u "java/lang/CharSequence"), (42, .class_ 48), (0, u "java/lang/CharSequence$1CodePointIterator"), (10, .class_ 60), (0, u "java/lang/CharSequence$1CharIterator"), (5, .class_ 67), (0, u "java/lang/Object")] 63

/-- java/lang/CharSequence -/
def k7 : Class := { plain "java/lang/CharSequence" (some 0) with
  accessFlags := 1537
  interfaces := #[]
  cf := some (fileOf pool7 2 #[.nestMembers #[47, 59]] #[] 1537 66 #[] #[])
  fields := #[]
  methods := #[]
  instanceTypes := #[]
  staticTypes := #[]
  resolved := Array.replicate 131 none
  statics := none }

def pool8 : Array CpInfo := pool [(1, .class_ 2), (0, u "java/lang/constant/ConstantDesc"), (0, .class_ 4), (0, u "java/lang/Object")] 32

/-- java/lang/constant/ConstantDesc -/
def k8 : Class := { plain "java/lang/constant/ConstantDesc" (some 0) with
  accessFlags := 1537
  interfaces := #[]
  cf := some (fileOf pool8 1 #[] #[] 1537 3 #[] #[])
  fields := #[]
  methods := #[]
  instanceTypes := #[]
  staticTypes := #[]
  resolved := Array.replicate 37 none
  statics := none }

def pool9 : Array CpInfo := pool [(1, .methodref 2 3), (0, .class_ 4), (0, .nameAndType 5 6), (0, u "java/lang/Object"), (0, u "<init>"), (0, u "()V"), (2, .fieldref 10 11), (0, .class_ 12), (0, .nameAndType 13 14), (0, u "java/lang/String"), (0, u "value"), (0, u "[B"), (0, .fieldref 10 16), (0, .nameAndType 17 18), (0, u "coder"), (0, u "B"), (2, u "hash"), (0, u "I"), (2, u "hashIsZero"), (0, u "Z"), (0, .methodref 10 28), (0, .nameAndType 5 29), (0, u "([CIILjava/lang/Void;)V"), (8, .fieldref 10 39), (0, .nameAndType 40 26), (0, u "COMPACT_STRINGS"), (1, .class_ 44), (1, u "java/lang/StringUTF16"), (0, u "compress"), (1, .methodref 42 48), (0, .nameAndType 49 50), (0, u "coderFromArrayLen"), (0, u "([BI)B"), (126, .methodref 42 178), (0, .nameAndType 45 179), (0, u "([CII)[B"), (395, .class_ 576), (0, u "java/lang/CharSequence"), (22, u "CASE_INSENSITIVE_ORDER"), (0, u "Ljava/util/Comparator;"), (409, u "([C)V"), (90, u "serialPersistentFields"), (0, u "[Ljava/io/ObjectStreamField;"), (0, .class_ 1104), (0, u "java/lang/String$CaseInsensitiveComparator"), (1, .class_ 1107), (0, u "java/io/Serializable"), (0, .class_ 1109), (0, u "java/lang/Comparable"), (0, .class_ 1111), (0, u "java/lang/constant/Constable"), (0, .class_ 1113), (0, u "java/lang/constant/ConstantDesc"), (2, u "serialVersionUID"), (0, u "J"), (3, u "REPL"), (0, u "C"), (2, u "LATIN1"), (1, u "UTF16")] 323

def k9m0 : Method := { name := "<init>", desc := "()V", sig := { parameters := [], returnType := none }, accessFlags := 1, code := none }
def k9c1 : Code := { maxStack := 5, maxLocals := 2, code := jdk_42_method_3_code, exceptionTable := #[], attributes := #[] }
def k9m1 : Method := { name := "<init>", desc := "([C)V", sig := { parameters := [(.array .char)], returnType := none }, accessFlags := 1, code := some k9c1 }
def k9c2 : Code := { maxStack := 4, maxLocals := 6, code := jdk_42_method_149_code, exceptionTable := #[], attributes := #[] }
def k9m2 : Method := { name := "<init>", desc := "([CIILjava/lang/Void;)V", sig := { parameters := [(.array .char), .int, .int, (.object "java/lang/Void")], returnType := none }, accessFlags := 2, code := some k9c2 }
/-- java/lang/String -/
def k9 : Class := { plain "java/lang/String" (some 0) with
  accessFlags := 49
  interfaces := #[4, 3, 7, 2, 8]
  cf := some (fileOf pool9 10 #[.nestMembers #[1103]] #[{ accessFlags := 1, nameIndex := 5, descriptorIndex := 6, attributes := #[] }, { accessFlags := 1, nameIndex := 5, descriptorIndex := 1010, attributes := #[] }, { accessFlags := 2, nameIndex := 5, descriptorIndex := 29, attributes := #[] }] 49 2 #[1106, 1108, 575, 1110, 1112] #[{ accessFlags := 18, nameIndex := 13, descriptorIndex := 14, attributes := #[] }, { accessFlags := 18, nameIndex := 17, descriptorIndex := 18, attributes := #[] }, { accessFlags := 2, nameIndex := 21, descriptorIndex := 22, attributes := #[] }, { accessFlags := 2, nameIndex := 25, descriptorIndex := 26, attributes := #[] }, { accessFlags := 26, nameIndex := 1116, descriptorIndex := 1117, attributes := #[] }, { accessFlags := 24, nameIndex := 40, descriptorIndex := 26, attributes := #[] }, { accessFlags := 26, nameIndex := 1101, descriptorIndex := 1102, attributes := #[] }, { accessFlags := 26, nameIndex := 1121, descriptorIndex := 1122, attributes := #[] }, { accessFlags := 25, nameIndex := 599, descriptorIndex := 600, attributes := #[] }, { accessFlags := 24, nameIndex := 1125, descriptorIndex := 18, attributes := #[] }, { accessFlags := 24, nameIndex := 1127, descriptorIndex := 18, attributes := #[] }])
  fields := #[{ name := "value", type := (.array .byte), accessFlags := 18, slot := 0, constantValue := 0 }, { name := "coder", type := .byte, accessFlags := 18, slot := 1, constantValue := 0 }, { name := "hash", type := .int, accessFlags := 2, slot := 2, constantValue := 0 }, { name := "hashIsZero", type := .boolean, accessFlags := 2, slot := 3, constantValue := 0 }, { name := "serialVersionUID", type := .long, accessFlags := 26, slot := 0, constantValue := 0 }, { name := "COMPACT_STRINGS", type := .boolean, accessFlags := 24, slot := 1, constantValue := 0 }, { name := "serialPersistentFields", type := (.array (.object "java/io/ObjectStreamField")), accessFlags := 26, slot := 2, constantValue := 0 }, { name := "REPL", type := .char, accessFlags := 26, slot := 3, constantValue := 0 }, { name := "CASE_INSENSITIVE_ORDER", type := (.object "java/util/Comparator"), accessFlags := 25, slot := 4, constantValue := 0 }, { name := "LATIN1", type := .byte, accessFlags := 24, slot := 5, constantValue := 0 }, { name := "UTF16", type := .byte, accessFlags := 24, slot := 6, constantValue := 0 }]
  methods := #[k9m0, k9m1, k9m2]
  instanceTypes := #[(.array .byte), .byte, .int, .boolean]
  staticTypes := #[.long, .boolean, (.array (.object "java/io/ObjectStreamField")), .char, (.object "java/util/Comparator"), .byte, .byte]
  resolved := Array.replicate 1451 none
  statics := some 1 }

def pool10 : Array CpInfo := pool [(6, .class_ 8), (1, u "java/lang/Object"), (0, u "<init>"), (0, u "()V"), (1, .class_ 14), (1, u "java/lang/StringUTF16"), (31, u "$assertionsDisabled"), (0, u "Z"), (13, u "HI_BYTE_SHIFT"), (0, u "I"), (2, u "LO_BYTE_SHIFT"), (49, .methodref 12 116), (0, .nameAndType 117 118), (0, u "compress"), (0, u "([CI[BII)I"), (3, u "([CII)[B"), (138, u "coderFromArrayLen"), (0, u "([BI)B"), (106, .class_ 371), (1, u "java/lang/StringUTF16$LinesSpliterator"), (58, u "MAX_LENGTH"), (196, .class_ 628), (0, u "java/lang/StringUTF16$CodePointsSpliterator"), (0, .class_ 630), (0, u "java/lang/StringUTF16$CharsSpliterator")] 4

def k10m0 : Method := { name := "<init>", desc := "()V", sig := { parameters := [], returnType := none }, accessFlags := 0, code := none }
def k10c1 : Code := { maxStack := 2, maxLocals := 2, code := jdk_52_method_15_code, exceptionTable := #[], attributes := #[] }
def k10m1 : Method := { name := "coderFromArrayLen", desc := "([BI)B", sig := { parameters := [(.array .byte), .int], returnType := some .byte }, accessFlags := 8, code := some k10c1 }
def k10c2 : Code := { maxStack := 5, maxLocals := 6, code := jdk_52_method_16_code, exceptionTable := #[], attributes := #[] }
def k10m2 : Method := { name := "compress", desc := "([CII)[B", sig := { parameters := [(.array .char), .int, .int], returnType := some (.array .byte) }, accessFlags := 9, code := some k10c2 }
def k10c3 : Code := { maxStack := 3, maxLocals := 7, code := jdk_52_method_21_code, exceptionTable := #[], attributes := #[] }
def k10m3 : Method := { name := "compress", desc := "([CI[BII)I", sig := { parameters := [(.array .char), .int, (.array .byte), .int, .int], returnType := some .int }, accessFlags := 9, code := some k10c3 }
/-- java/lang/StringUTF16 -/
def k10 : Class := { plain "java/lang/StringUTF16" (some 0) with
  accessFlags := 48
  interfaces := #[]
  cf := some (fileOf pool10 12 #[.nestMembers #[627, 629, 369]] #[{ accessFlags := 0, nameIndex := 9, descriptorIndex := 10, attributes := #[] }, { accessFlags := 8, nameIndex := 261, descriptorIndex := 262, attributes := #[] }, { accessFlags := 9, nameIndex := 117, descriptorIndex := 122, attributes := #[] }, { accessFlags := 9, nameIndex := 117, descriptorIndex := 118, attributes := #[] }] 48 6 #[] #[{ accessFlags := 26, nameIndex := 61, descriptorIndex := 62, attributes := #[] }, { accessFlags := 26, nameIndex := 65, descriptorIndex := 62, attributes := #[] }, { accessFlags := 24, nameIndex := 430, descriptorIndex := 62, attributes := #[] }, { accessFlags := 4120, nameIndex := 46, descriptorIndex := 47, attributes := #[] }])
  fields := #[{ name := "HI_BYTE_SHIFT", type := .int, accessFlags := 26, slot := 0, constantValue := 0 }, { name := "LO_BYTE_SHIFT", type := .int, accessFlags := 26, slot := 1, constantValue := 0 }, { name := "MAX_LENGTH", type := .int, accessFlags := 24, slot := 2, constantValue := 0 }, { name := "$assertionsDisabled", type := .boolean, accessFlags := 4120, slot := 3, constantValue := 0 }]
  methods := #[k10m0, k10m1, k10m2, k10m3]
  instanceTypes := #[]
  staticTypes := #[.int, .int, .int, .boolean]
  resolved := Array.replicate 635 none
  statics := none }

def pool11 : Array CpInfo := pool [(1, .methodref 2 3), (0, .class_ 4), (0, .nameAndType 5 6), (0, u "java/lang/Object"), (0, u "<init>"), (0, u "()V"), (0, .class_ 8), (0, u "java/lang/Record")] 13

def k11c0 : Code := { maxStack := 1, maxLocals := 1, code := jdk_30_method_1_code, exceptionTable := #[], attributes := #[] }
def k11m0 : Method := { name := "<init>", desc := "()V", sig := { parameters := [], returnType := none }, accessFlags := 4, code := some k11c0 }
/-- java/lang/Record -/
def k11 : Class := { plain "java/lang/Record" (some 0) with
  accessFlags := 1057
  interfaces := #[]
  cf := some (fileOf pool11 7 #[] #[{ accessFlags := 4, nameIndex := 5, descriptorIndex := 6, attributes := #[] }] 1057 2 #[] #[])
  fields := #[]
  methods := #[k11m0]
  instanceTypes := #[]
  staticTypes := #[]
  resolved := Array.replicate 22 none
  statics := none }

def pool12 : Array CpInfo := pool [(1, .class_ 2), (0, u "com/example/gatemark/gatemark/model/Expression"), (0, .class_ 4), (0, u "java/lang/Object")] 11

/-- com/example/gatemark/gatemark/model/Expression -/
def k12 : Class := { plain "com/example/gatemark/gatemark/model/Expression" (some 0) with
  accessFlags := 1537
  interfaces := #[]
  cf := some (fileOf pool12 1 #[] #[] 1537 3 #[] #[])
  fields := #[]
  methods := #[]
  instanceTypes := #[]
  staticTypes := #[]
  resolved := Array.replicate 16 none
  statics := none }

def pool13 : Array CpInfo := pool [(1, .methodref 2 3), (0, .class_ 4), (0, .nameAndType 5 6), (0, u "java/lang/Record"), (0, u "<init>"), (0, u "()V"), (0, .fieldref 8 9), (0, .class_ 10), (0, .nameAndType 11 12), (0, u "com/example/gatemark/gatemark/model/AttributeValue"), (0, u "type"), (0, u "Lcom/example/gatemark/gatemark/model/DataType;"), (0, .fieldref 8 14), (0, .nameAndType 15 16), (0, u "value"), (0, u "Ljava/lang/Object;"), (0, .class_ 18), (0, u "com/example/gatemark/gatemark/model/AttributeValue$Unread"), (0, .methodref 17 20), (0, .nameAndType 5 21), (0, u "(Ljava/lang/String;Ljava/lang/String;)V"), (0, .methodref 8 23), (0, .nameAndType 5 24), (0, u "(Lcom/example/gatemark/gatemark/model/DataType;Ljava/lang/Object;)V"), (2, u "isRead"), (0, u "()Z"), (75, .class_ 105), (0, u "com/example/gatemark/gatemark/model/Expression"), (3, u "unread"), (0, u "(Lcom/example/gatemark/gatemark/model/DataType;Ljava/lang/String;Ljava/lang/String;)Lcom/example/gatemark/gatemark/model/AttributeValue;"), (7, u "()Ljava/lang/Object;")] 33

def k13c0 : Code := { maxStack := 2, maxLocals := 3, code := prog_181_method_1_code, exceptionTable := #[], attributes := #[] }
def k13m0 : Method := { name := "<init>", desc := "(Lcom/example/gatemark/gatemark/model/DataType;Ljava/lang/Object;)V", sig := { parameters := [(.object "com/example/gatemark/gatemark/model/DataType"), (.object "java/lang/Object")], returnType := none }, accessFlags := 1, code := some k13c0 }
def k13c1 : Code := { maxStack := 7, maxLocals := 3, code := prog_181_method_2_code, exceptionTable := #[], attributes := #[] }
def k13m1 : Method := { name := "unread", desc := "(Lcom/example/gatemark/gatemark/model/DataType;Ljava/lang/String;Ljava/lang/String;)Lcom/example/gatemark/gatemark/model/AttributeValue;", sig := { parameters := [(.object "com/example/gatemark/gatemark/model/DataType"), (.object "java/lang/String"), (.object "java/lang/String")], returnType := some (.object "com/example/gatemark/gatemark/model/AttributeValue") }, accessFlags := 8, code := some k13c1 }
def k13c2 : Code := { maxStack := 1, maxLocals := 1, code := prog_181_method_3_code, exceptionTable := #[], attributes := #[] }
def k13m2 : Method := { name := "isRead", desc := "()Z", sig := { parameters := [], returnType := some .boolean }, accessFlags := 1, code := some k13c2 }
def k13c3 : Code := { maxStack := 1, maxLocals := 1, code := prog_181_method_16_code, exceptionTable := #[], attributes := #[] }
def k13m3 : Method := { name := "value", desc := "()Ljava/lang/Object;", sig := { parameters := [], returnType := some (.object "java/lang/Object") }, accessFlags := 1, code := some k13c3 }
/-- com/example/gatemark/gatemark/model/AttributeValue -/
def k13 : Class := { plain "com/example/gatemark/gatemark/model/AttributeValue" (some 11) with
  accessFlags := 49
  interfaces := #[12]
  cf := some (fileOf pool13 8 #[.nestMembers #[17]] #[{ accessFlags := 1, nameIndex := 5, descriptorIndex := 24, attributes := #[] }, { accessFlags := 8, nameIndex := 109, descriptorIndex := 110, attributes := #[] }, { accessFlags := 1, nameIndex := 27, descriptorIndex := 28, attributes := #[] }, { accessFlags := 1, nameIndex := 15, descriptorIndex := 118, attributes := #[] }] 49 2 #[104] #[{ accessFlags := 18, nameIndex := 11, descriptorIndex := 12, attributes := #[] }, { accessFlags := 18, nameIndex := 15, descriptorIndex := 16, attributes := #[] }])
  fields := #[{ name := "type", type := (.object "com/example/gatemark/gatemark/model/DataType"), accessFlags := 18, slot := 0, constantValue := 0 }, { name := "value", type := (.object "java/lang/Object"), accessFlags := 18, slot := 1, constantValue := 0 }]
  methods := #[k13m0, k13m1, k13m2, k13m3]
  instanceTypes := #[(.object "com/example/gatemark/gatemark/model/DataType"), (.object "java/lang/Object")]
  staticTypes := #[]
  resolved := ((Array.replicate 152 none).setIfInBounds 17 (some (.cls 14))).setIfInBounds 19 (some (.method ⟨14, 0⟩))
  statics := none }

def pool14 : Array CpInfo := pool [(1, .methodref 2 3), (0, .class_ 4), (0, .nameAndType 5 6), (0, u "java/lang/Record"), (0, u "<init>"), (0, u "()V"), (0, .fieldref 8 9), (0, .class_ 10), (0, .nameAndType 11 12), (0, u "com/example/gatemark/gatemark/model/AttributeValue$Unread"), (0, u "text"), (0, u "Ljava/lang/String;"), (0, .fieldref 8 14), (0, .nameAndType 15 12), (0, u "reason"), (12, u "(Ljava/lang/String;Ljava/lang/String;)V"), (9, .class_ 39), (0, u "com/example/gatemark/gatemark/model/AttributeValue")] 20

def k14c0 : Code := { maxStack := 2, maxLocals := 3, code := prog_182_method_1_code, exceptionTable := #[], attributes := #[] }
def k14m0 : Method := { name := "<init>", desc := "(Ljava/lang/String;Ljava/lang/String;)V", sig := { parameters := [(.object "java/lang/String"), (.object "java/lang/String")], returnType := none }, accessFlags := 2, code := some k14c0 }
/-- com/example/gatemark/gatemark/model/AttributeValue$Unread -/
def k14 : Class := { plain "com/example/gatemark/gatemark/model/AttributeValue$Unread" (some 11) with
  accessFlags := 48
  interfaces := #[]
  cf := some (fileOf pool14 8 #[.nestHost 38] #[{ accessFlags := 2, nameIndex := 5, descriptorIndex := 28, attributes := #[] }] 48 2 #[] #[{ accessFlags := 18, nameIndex := 11, descriptorIndex := 12, attributes := #[] }, { accessFlags := 18, nameIndex := 15, descriptorIndex := 12, attributes := #[] }])
  fields := #[{ name := "text", type := (.object "java/lang/String"), accessFlags := 18, slot := 0, constantValue := 0 }, { name := "reason", type := (.object "java/lang/String"), accessFlags := 18, slot := 1, constantValue := 0 }]
  methods := #[k14m0]
  instanceTypes := #[(.object "java/lang/String"), (.object "java/lang/String")]
  staticTypes := #[]
  resolved := Array.replicate 60 none
  statics := none }

def pool15 : Array CpInfo := pool [(1, .methodref 2 3), (0, .class_ 4), (0, .nameAndType 5 6), (0, u "java/lang/Object"), (0, u "<init>"), (0, u "()V"), (1, .class_ 10), (1, u "java/lang/Number"), (2, .class_ 14), (0, u "java/io/Serializable"), (0, u "serialVersionUID"), (0, u "J")] 20

def k15c0 : Code := { maxStack := 1, maxLocals := 1, code := jdk_18_method_1_code, exceptionTable := #[], attributes := #[] }
def k15m0 : Method := { name := "<init>", desc := "()V", sig := { parameters := [], returnType := none }, accessFlags := 1, code := some k15c0 }
/-- java/lang/Number -/
def k15 : Class := { plain "java/lang/Number" (some 0) with
  accessFlags := 1057
  interfaces := #[4]
  cf := some (fileOf pool15 8 #[] #[{ accessFlags := 1, nameIndex := 5, descriptorIndex := 6, attributes := #[] }] 1057 2 #[13] #[{ accessFlags := 26, nameIndex := 15, descriptorIndex := 16, attributes := #[] }])
  fields := #[{ name := "serialVersionUID", type := .long, accessFlags := 26, slot := 0, constantValue := 0 }]
  methods := #[k15m0]
  instanceTypes := #[]
  staticTypes := #[.long]
  resolved := Array.replicate 37 none
  statics := none }

def pool16 : Array CpInfo := pool [(1, .class_ 2), (0, u "java/lang/Integer"), (16, u "digits"), (0, u "[C"), (46, u "<init>"), (17, u "DigitOnes"), (0, u "[B"), (2, u "DigitTens"), (10, .nameAndType 67 101), (0, u "()V"), (85, u "valueOf"), (0, u "(I)Ljava/lang/Integer;"), (0, .class_ 190), (0, u "java/lang/Integer$IntegerCache"), (0, .fieldref 189 192), (0, .nameAndType 193 194), (0, u "high"), (0, u "I"), (0, .fieldref 189 196), (0, .nameAndType 197 198), (0, u "cache"), (0, u "[Ljava/lang/Integer;"), (0, .methodref 1 200), (0, .nameAndType 67 201), (0, u "(I)V"), (0, .methodref 203 100), (0, .class_ 204), (0, u "java/lang/Number"), (0, .fieldref 1 206), (0, .nameAndType 207 194), (0, u "value"), (94, u "TYPE"), (0, u "Ljava/lang/Class;"), (0, .class_ 305), (0, u "java/lang/Comparable"), (0, .class_ 307), (0, u "java/lang/constant/Constable"), (0, .class_ 309), (0, u "java/lang/constant/ConstantDesc"), (0, u "MIN_VALUE"), (1, u "MAX_VALUE"), (3, u "SIZE"), (1, u "BYTES"), (1, u "serialVersionUID"), (0, u "J")] 131

def k16c0 : Code := { maxStack := 3, maxLocals := 1, code := jdk_33_method_22_code, exceptionTable := #[], attributes := #[] }
def k16m0 : Method := { name := "valueOf", desc := "(I)Ljava/lang/Integer;", sig := { parameters := [.int], returnType := some (.object "java/lang/Integer") }, accessFlags := 9, code := some k16c0 }
def k16c1 : Code := { maxStack := 2, maxLocals := 2, code := jdk_33_method_23_code, exceptionTable := #[], attributes := #[] }
def k16m1 : Method := { name := "<init>", desc := "(I)V", sig := { parameters := [.int], returnType := none }, accessFlags := 1, code := some k16c1 }
/-- java/lang/Integer -/
def k16 : Class := { plain "java/lang/Integer" (some 15) with
  accessFlags := 49
  interfaces := #[3, 2, 8]
  cf := some (fileOf pool16 1 #[.nestMembers #[189]] #[{ accessFlags := 9, nameIndex := 187, descriptorIndex := 188, attributes := #[] }, { accessFlags := 1, nameIndex := 67, descriptorIndex := 201, attributes := #[] }] 49 203 #[304, 306, 308] #[{ accessFlags := 25, nameIndex := 310, descriptorIndex := 194, attributes := #[] }, { accessFlags := 25, nameIndex := 312, descriptorIndex := 194, attributes := #[] }, { accessFlags := 25, nameIndex := 302, descriptorIndex := 303, attributes := #[] }, { accessFlags := 24, nameIndex := 19, descriptorIndex := 20, attributes := #[] }, { accessFlags := 24, nameIndex := 89, descriptorIndex := 86, attributes := #[] }, { accessFlags := 24, nameIndex := 85, descriptorIndex := 86, attributes := #[] }, { accessFlags := 18, nameIndex := 207, descriptorIndex := 194, attributes := #[] }, { accessFlags := 25, nameIndex := 316, descriptorIndex := 194, attributes := #[] }, { accessFlags := 25, nameIndex := 318, descriptorIndex := 194, attributes := #[] }, { accessFlags := 26, nameIndex := 320, descriptorIndex := 321, attributes := #[] }])
  fields := #[{ name := "MIN_VALUE", type := .int, accessFlags := 25, slot := 0, constantValue := 0 }, { name := "MAX_VALUE", type := .int, accessFlags := 25, slot := 1, constantValue := 0 }, { name := "TYPE", type := (.object "java/lang/Class"), accessFlags := 25, slot := 2, constantValue := 0 }, { name := "digits", type := (.array .char), accessFlags := 24, slot := 3, constantValue := 0 }, { name := "DigitTens", type := (.array .byte), accessFlags := 24, slot := 4, constantValue := 0 }, { name := "DigitOnes", type := (.array .byte), accessFlags := 24, slot := 5, constantValue := 0 }, { name := "value", type := .int, accessFlags := 18, slot := 0, constantValue := 0 }, { name := "SIZE", type := .int, accessFlags := 25, slot := 6, constantValue := 0 }, { name := "BYTES", type := .int, accessFlags := 25, slot := 7, constantValue := 0 }, { name := "serialVersionUID", type := .long, accessFlags := 26, slot := 8, constantValue := 0 }]
  methods := #[k16m0, k16m1]
  instanceTypes := #[.int]
  staticTypes := #[.int, .int, (.object "java/lang/Class"), (.array .char), (.array .byte), (.array .byte), .int, .int, .long]
  resolved := Array.replicate 453 none
  statics := none }

def pool17 : Array CpInfo := pool [(2, .class_ 4), (1, u "java/lang/Object"), (0, u "<init>"), (0, u "()V"), (0, .class_ 8), (0, u "java/lang/Integer"), (7, .class_ 18), (1, u "java/lang/Integer$IntegerCache"), (0, u "$assertionsDisabled"), (0, u "Z"), (26, u "high"), (0, u "I"), (8, u "archivedCache"), (0, u "[Ljava/lang/Integer;"), (12, u "cache"), (0, u "low")] 27

def k17m0 : Method := { name := "<init>", desc := "()V", sig := { parameters := [], returnType := none }, accessFlags := 2, code := none }
/-- java/lang/Integer$IntegerCache -/
def k17 : Class := { plain "java/lang/Integer$IntegerCache" (some 0) with
  accessFlags := 48
  interfaces := #[]
  cf := some (fileOf pool17 16 #[.nestHost 7] #[{ accessFlags := 2, nameIndex := 5, descriptorIndex := 6, attributes := #[] }] 48 2 #[] #[{ accessFlags := 24, nameIndex := 72, descriptorIndex := 48, attributes := #[] }, { accessFlags := 24, nameIndex := 47, descriptorIndex := 48, attributes := #[] }, { accessFlags := 24, nameIndex := 71, descriptorIndex := 58, attributes := #[] }, { accessFlags := 8, nameIndex := 57, descriptorIndex := 58, attributes := #[] }, { accessFlags := 4120, nameIndex := 19, descriptorIndex := 20, attributes := #[] }])
  fields := #[{ name := "low", type := .int, accessFlags := 24, slot := 0, constantValue := 0 }, { name := "high", type := .int, accessFlags := 24, slot := 1, constantValue := 0 }, { name := "cache", type := (.array (.object "java/lang/Integer")), accessFlags := 24, slot := 2, constantValue := 0 }, { name := "archivedCache", type := (.array (.object "java/lang/Integer")), accessFlags := 8, slot := 3, constantValue := 0 }, { name := "$assertionsDisabled", type := .boolean, accessFlags := 4120, slot := 4, constantValue := 0 }]
  methods := #[k17m0]
  instanceTypes := #[]
  staticTypes := #[.int, .int, (.array (.object "java/lang/Integer")), (.array (.object "java/lang/Integer")), .boolean]
  resolved := Array.replicate 100 none
  statics := some 2 }

def pool18 : Array CpInfo := pool [(4, .class_ 6), (1, u "java/lang/Object"), (0, u "<init>"), (0, u "()V"), (5, .class_ 16), (1, u "java/lang/StringLatin1"), (104, u "$assertionsDisabled"), (0, u "Z"), (98, .class_ 223), (1, u "java/lang/StringLatin1$LinesSpliterator"), (166, .class_ 391), (0, u "java/lang/StringLatin1$CharsSpliterator")] 3

def k18m0 : Method := { name := "<init>", desc := "()V", sig := { parameters := [], returnType := none }, accessFlags := 0, code := none }
/-- java/lang/StringLatin1 -/
def k18 : Class := { plain "java/lang/StringLatin1" (some 0) with
  accessFlags := 48
  interfaces := #[]
  cf := some (fileOf pool18 14 #[.nestMembers #[390, 221]] #[{ accessFlags := 0, nameIndex := 7, descriptorIndex := 8, attributes := #[] }] 48 4 #[] #[{ accessFlags := 4120, nameIndex := 121, descriptorIndex := 122, attributes := #[] }])
  fields := #[{ name := "$assertionsDisabled", type := .boolean, accessFlags := 4120, slot := 0, constantValue := 0 }]
  methods := #[k18m0]
  instanceTypes := #[]
  staticTypes := #[.boolean]
  resolved := Array.replicate 395 none
  statics := none }

def pool19 : Array CpInfo := pool [(2, .class_ 4), (1, u "java/lang/Object"), (0, u "<init>"), (0, u "()V"), (17, .class_ 26), (1, u "jdk/internal/util/Preconditions"), (28, .class_ 56), (0, u "jdk/internal/util/Preconditions$4"), (57, .class_ 115), (0, u "jdk/internal/util/Preconditions$1"), (7, u "SIOOBE_FORMATTER"), (0, u "Ljava/util/function/BiFunction;"), (0, .class_ 126), (0, u "jdk/internal/util/Preconditions$2"), (3, u "AIOOBE_FORMATTER"), (0, .class_ 132), (0, u "jdk/internal/util/Preconditions$3"), (3, u "IOOBE_FORMATTER")] 57

def k19m0 : Method := { name := "<init>", desc := "()V", sig := { parameters := [], returnType := none }, accessFlags := 1, code := none }
/-- jdk/internal/util/Preconditions -/
def k19 : Class := { plain "jdk/internal/util/Preconditions" (some 0) with
  accessFlags := 33
  interfaces := #[]
  cf := some (fileOf pool19 24 #[.nestMembers #[55, 131, 125, 114]] #[{ accessFlags := 1, nameIndex := 5, descriptorIndex := 6, attributes := #[] }] 33 2 #[] #[{ accessFlags := 25, nameIndex := 123, descriptorIndex := 124, attributes := #[] }, { accessFlags := 25, nameIndex := 130, descriptorIndex := 124, attributes := #[] }, { accessFlags := 25, nameIndex := 136, descriptorIndex := 124, attributes := #[] }])
  fields := #[{ name := "SIOOBE_FORMATTER", type := (.object "java/util/function/BiFunction"), accessFlags := 25, slot := 0, constantValue := 0 }, { name := "AIOOBE_FORMATTER", type := (.object "java/util/function/BiFunction"), accessFlags := 25, slot := 1, constantValue := 0 }, { name := "IOOBE_FORMATTER", type := (.object "java/util/function/BiFunction"), accessFlags := 25, slot := 2, constantValue := 0 }]
  methods := #[k19m0]
  instanceTypes := #[]
  staticTypes := #[(.object "java/util/function/BiFunction"), (.object "java/util/function/BiFunction"), (.object "java/util/function/BiFunction")]
  resolved := Array.replicate 194 none
  statics := some 3 }

def pool20 : Array CpInfo := pool [(9, u "<init>"), (6, .class_ 18), (1, u "java/lang/Object"), (0, u "()V"), (1, .class_ 23), (1, u "jdk/internal/util/ArraysSupport"), (0, u "LOG2_ARRAY_LONG_INDEX_SCALE"), (0, u "I"), (2, u "U"), (0, u "Ljdk/internal/misc/Unsafe;"), (8, u "BIG_ENDIAN"), (0, u "Z"), (8, u "LOG2_BYTE_BIT_SIZE"), (4, u "LOG2_ARRAY_INT_INDEX_SCALE"), (54, u "JLA"), (0, u "Ljdk/internal/access/JavaLangAccess;"), (11, u "LOG2_ARRAY_BOOLEAN_INDEX_SCALE"), (9, u "LOG2_ARRAY_BYTE_INDEX_SCALE"), (5, u "LOG2_ARRAY_CHAR_INDEX_SCALE"), (5, u "LOG2_ARRAY_SHORT_INDEX_SCALE"), (18, u "LOG2_ARRAY_FLOAT_INDEX_SCALE"), (24, u "LOG2_ARRAY_DOUBLE_INDEX_SCALE"), (89, u "T_BOOLEAN"), (2, u "T_CHAR"), (1, u "T_FLOAT"), (1, u "T_DOUBLE"), (1, u "T_BYTE"), (1, u "T_SHORT"), (1, u "T_INT"), (1, u "T_LONG"), (1, u "SOFT_MAX_ARRAY_LENGTH")] 83

def k20m0 : Method := { name := "<init>", desc := "()V", sig := { parameters := [], returnType := none }, accessFlags := 2, code := none }
/-- jdk/internal/util/ArraysSupport -/
def k20 : Class := { plain "jdk/internal/util/ArraysSupport" (some 0) with
  accessFlags := 33
  interfaces := #[]
  cf := some (fileOf pool20 21 #[] #[{ accessFlags := 2, nameIndex := 9, descriptorIndex := 19, attributes := #[] }] 33 16 #[] #[{ accessFlags := 24, nameIndex := 28, descriptorIndex := 29, attributes := #[] }, { accessFlags := 26, nameIndex := 38, descriptorIndex := 39, attributes := #[] }, { accessFlags := 25, nameIndex := 121, descriptorIndex := 25, attributes := #[] }, { accessFlags := 25, nameIndex := 131, descriptorIndex := 25, attributes := #[] }, { accessFlags := 25, nameIndex := 137, descriptorIndex := 25, attributes := #[] }, { accessFlags := 25, nameIndex := 143, descriptorIndex := 25, attributes := #[] }, { accessFlags := 25, nameIndex := 53, descriptorIndex := 25, attributes := #[] }, { accessFlags := 25, nameIndex := 24, descriptorIndex := 25, attributes := #[] }, { accessFlags := 25, nameIndex := 162, descriptorIndex := 25, attributes := #[] }, { accessFlags := 25, nameIndex := 187, descriptorIndex := 25, attributes := #[] }, { accessFlags := 26, nameIndex := 48, descriptorIndex := 25, attributes := #[] }, { accessFlags := 25, nameIndex := 277, descriptorIndex := 25, attributes := #[] }, { accessFlags := 25, nameIndex := 280, descriptorIndex := 25, attributes := #[] }, { accessFlags := 25, nameIndex := 282, descriptorIndex := 25, attributes := #[] }, { accessFlags := 25, nameIndex := 284, descriptorIndex := 25, attributes := #[] }, { accessFlags := 25, nameIndex := 286, descriptorIndex := 25, attributes := #[] }, { accessFlags := 25, nameIndex := 288, descriptorIndex := 25, attributes := #[] }, { accessFlags := 25, nameIndex := 290, descriptorIndex := 25, attributes := #[] }, { accessFlags := 25, nameIndex := 292, descriptorIndex := 25, attributes := #[] }, { accessFlags := 26, nameIndex := 108, descriptorIndex := 109, attributes := #[] }, { accessFlags := 25, nameIndex := 294, descriptorIndex := 25, attributes := #[] }])
  fields := #[{ name := "U", type := (.object "jdk/internal/misc/Unsafe"), accessFlags := 24, slot := 0, constantValue := 0 }, { name := "BIG_ENDIAN", type := .boolean, accessFlags := 26, slot := 1, constantValue := 0 }, { name := "LOG2_ARRAY_BOOLEAN_INDEX_SCALE", type := .int, accessFlags := 25, slot := 2, constantValue := 0 }, { name := "LOG2_ARRAY_BYTE_INDEX_SCALE", type := .int, accessFlags := 25, slot := 3, constantValue := 0 }, { name := "LOG2_ARRAY_CHAR_INDEX_SCALE", type := .int, accessFlags := 25, slot := 4, constantValue := 0 }, { name := "LOG2_ARRAY_SHORT_INDEX_SCALE", type := .int, accessFlags := 25, slot := 5, constantValue := 0 }, { name := "LOG2_ARRAY_INT_INDEX_SCALE", type := .int, accessFlags := 25, slot := 6, constantValue := 0 }, { name := "LOG2_ARRAY_LONG_INDEX_SCALE", type := .int, accessFlags := 25, slot := 7, constantValue := 0 }, { name := "LOG2_ARRAY_FLOAT_INDEX_SCALE", type := .int, accessFlags := 25, slot := 8, constantValue := 0 }, { name := "LOG2_ARRAY_DOUBLE_INDEX_SCALE", type := .int, accessFlags := 25, slot := 9, constantValue := 0 }, { name := "LOG2_BYTE_BIT_SIZE", type := .int, accessFlags := 26, slot := 10, constantValue := 0 }, { name := "T_BOOLEAN", type := .int, accessFlags := 25, slot := 11, constantValue := 0 }, { name := "T_CHAR", type := .int, accessFlags := 25, slot := 12, constantValue := 0 }, { name := "T_FLOAT", type := .int, accessFlags := 25, slot := 13, constantValue := 0 }, { name := "T_DOUBLE", type := .int, accessFlags := 25, slot := 14, constantValue := 0 }, { name := "T_BYTE", type := .int, accessFlags := 25, slot := 15, constantValue := 0 }, { name := "T_SHORT", type := .int, accessFlags := 25, slot := 16, constantValue := 0 }, { name := "T_INT", type := .int, accessFlags := 25, slot := 17, constantValue := 0 }, { name := "T_LONG", type := .int, accessFlags := 25, slot := 18, constantValue := 0 }, { name := "JLA", type := (.object "jdk/internal/access/JavaLangAccess"), accessFlags := 26, slot := 19, constantValue := 0 }, { name := "SOFT_MAX_ARRAY_LENGTH", type := .int, accessFlags := 25, slot := 20, constantValue := 0 }]
  methods := #[k20m0]
  instanceTypes := #[]
  staticTypes := #[(.object "jdk/internal/misc/Unsafe"), .boolean, .int, .int, .int, .int, .int, .int, .int, .int, .int, .int, .int, .int, .int, .int, .int, .int, .int, (.object "jdk/internal/access/JavaLangAccess"), .int]
  resolved := Array.replicate 378 none
  statics := none }

def pool21 : Array CpInfo := pool [(1, u "java/lang/Cloneable"), (0, .class_ 1), (0, u "java/lang/Object"), (0, .class_ 3)] 3

/-- java/lang/Cloneable -/
def k21 : Class := { plain "java/lang/Cloneable" (some 0) with
  accessFlags := 1537
  interfaces := #[]
  cf := some (fileOf pool21 2 #[] #[] 1537 4 #[] #[])
  fields := #[]
  methods := #[]
  instanceTypes := #[]
  staticTypes := #[]
  resolved := Array.replicate 8 none
  statics := none }

/-- the primitive byte -/
def k22 : Class := { plain "byte" none with kind := .primitive 'B', accessFlags := 0x411 }
/-- [B -/
def k23 : Class := { plain "[B" (some 0) with kind := .array 22 .byte, interfaces := #[21, 4], accessFlags := 1041 }

/-- the primitive char -/
def k24 : Class := { plain "char" none with kind := .primitive 'C', accessFlags := 0x411 }
/-- [C -/
def k25 : Class := { plain "[C" (some 0) with kind := .array 24 .char, interfaces := #[21, 4], accessFlags := 1041 }

/-- the primitive int -/
def k26 : Class := { plain "int" none with kind := .primitive 'I', accessFlags := 0x411 }
/-- [I -/
def k27 : Class := { plain "[I" (some 0) with kind := .array 26 .int, interfaces := #[21, 4], accessFlags := 1041 }

/-- [Ljava/lang/Integer; -/
def k28 : Class := { plain "[Ljava/lang/Integer;" (some 0) with kind := .array 16 (.object "java/lang/Integer"), interfaces := #[21, 4], accessFlags := 1041 }

def heap : Heap := #[{ cls := 6, slots := #[.ref 261, .null, .ref 262, .ref 263, .null, .null, .null, .null, .null, .null, .null, .null, .null, .null, .null, .null, .ref 264, .null, .null], vm := .statics 6 },
  { cls := 9, slots := #[.long 0, .int 1, .null, .int 0, .null, .int 0, .int 0], vm := .statics 9 },
  { cls := 17, slots := #[.int 0, .int 127, .ref 4, .null, .int 0], vm := .statics 17 },
  { cls := 19, slots := #[.null, .null, .null], vm := .statics 19 },
  { cls := 28, slots := #[.ref 5, .ref 6, .ref 7, .ref 8, .ref 9, .ref 10, .ref 11, .ref 12, .ref 13, .ref 14, .ref 15, .ref 16, .ref 17, .ref 18, .ref 19, .ref 20, .ref 21, .ref 22, .ref 23, .ref 24, .ref 25, .ref 26, .ref 27, .ref 28, .ref 29, .ref 30, .ref 31, .ref 32, .ref 33, .ref 34, .ref 35, .ref 36, .ref 37, .ref 38, .ref 39, .ref 40, .ref 41, .ref 42, .ref 43, .ref 44, .ref 45, .ref 46, .ref 47, .ref 48, .ref 49, .ref 50, .ref 51, .ref 52, .ref 53, .ref 54, .ref 55, .ref 56, .ref 57, .ref 58, .ref 59, .ref 60, .ref 61, .ref 62, .ref 63, .ref 64, .ref 65, .ref 66, .ref 67, .ref 68, .ref 69, .ref 70, .ref 71, .ref 72, .ref 73, .ref 74, .ref 75, .ref 76, .ref 77, .ref 78, .ref 79, .ref 80, .ref 81, .ref 82, .ref 83, .ref 84, .ref 85, .ref 86, .ref 87, .ref 88, .ref 89, .ref 90, .ref 91, .ref 92, .ref 93, .ref 94, .ref 95, .ref 96, .ref 97, .ref 98, .ref 99, .ref 100, .ref 101, .ref 102, .ref 103, .ref 104, .ref 105, .ref 106, .ref 107, .ref 108, .ref 109, .ref 110, .ref 111, .ref 112, .ref 113, .ref 114, .ref 115, .ref 116, .ref 117, .ref 118, .ref 119, .ref 120, .ref 121, .ref 122, .ref 123, .ref 124, .ref 125, .ref 126, .ref 127, .ref 128, .ref 129, .ref 130, .ref 131, .ref 132, .ref 133, .ref 134, .ref 135, .ref 136, .ref 137, .ref 138, .ref 139, .ref 140, .ref 141, .ref 142, .ref 143, .ref 144, .ref 145, .ref 146, .ref 147, .ref 148, .ref 149, .ref 150, .ref 151, .ref 152, .ref 153, .ref 154, .ref 155, .ref 156, .ref 157, .ref 158, .ref 159, .ref 160, .ref 161, .ref 162, .ref 163, .ref 164, .ref 165, .ref 166, .ref 167, .ref 168, .ref 169, .ref 170, .ref 171, .ref 172, .ref 173, .ref 174, .ref 175, .ref 176, .ref 177, .ref 178, .ref 179, .ref 180, .ref 181, .ref 182, .ref 183, .ref 184, .ref 185, .ref 186, .ref 187, .ref 188, .ref 189, .ref 190, .ref 191, .ref 192, .ref 193, .ref 194, .ref 195, .ref 196, .ref 197, .ref 198, .ref 199, .ref 200, .ref 201, .ref 202, .ref 203, .ref 204, .ref 205, .ref 206, .ref 207, .ref 208, .ref 209, .ref 210, .ref 211, .ref 212, .ref 213, .ref 214, .ref 215, .ref 216, .ref 217, .ref 218, .ref 219, .ref 220, .ref 221, .ref 222, .ref 223, .ref 224, .ref 225, .ref 226, .ref 227, .ref 228, .ref 229, .ref 230, .ref 231, .ref 232, .ref 233, .ref 234, .ref 235, .ref 236, .ref 237, .ref 238, .ref 239, .ref 240, .ref 241, .ref 242, .ref 243, .ref 244, .ref 245, .ref 246, .ref 247, .ref 248, .ref 249, .ref 250, .ref 251, .ref 252, .ref 253, .ref 254, .ref 255, .ref 256, .ref 257, .ref 258, .ref 259, .ref 260], vm := .none },
  { cls := 16, slots := #[.int (-128)], vm := .none },
  { cls := 16, slots := #[.int (-127)], vm := .none },
  { cls := 16, slots := #[.int (-126)], vm := .none },
  { cls := 16, slots := #[.int (-125)], vm := .none },
  { cls := 16, slots := #[.int (-124)], vm := .none },
  { cls := 16, slots := #[.int (-123)], vm := .none },
  { cls := 16, slots := #[.int (-122)], vm := .none },
  { cls := 16, slots := #[.int (-121)], vm := .none },
  { cls := 16, slots := #[.int (-120)], vm := .none },
  { cls := 16, slots := #[.int (-119)], vm := .none },
  { cls := 16, slots := #[.int (-118)], vm := .none },
  { cls := 16, slots := #[.int (-117)], vm := .none },
  { cls := 16, slots := #[.int (-116)], vm := .none },
  { cls := 16, slots := #[.int (-115)], vm := .none },
  { cls := 16, slots := #[.int (-114)], vm := .none },
  { cls := 16, slots := #[.int (-113)], vm := .none },
  { cls := 16, slots := #[.int (-112)], vm := .none },
  { cls := 16, slots := #[.int (-111)], vm := .none },
  { cls := 16, slots := #[.int (-110)], vm := .none },
  { cls := 16, slots := #[.int (-109)], vm := .none },
  { cls := 16, slots := #[.int (-108)], vm := .none },
  { cls := 16, slots := #[.int (-107)], vm := .none },
  { cls := 16, slots := #[.int (-106)], vm := .none },
  { cls := 16, slots := #[.int (-105)], vm := .none },
  { cls := 16, slots := #[.int (-104)], vm := .none },
  { cls := 16, slots := #[.int (-103)], vm := .none },
  { cls := 16, slots := #[.int (-102)], vm := .none },
  { cls := 16, slots := #[.int (-101)], vm := .none },
  { cls := 16, slots := #[.int (-100)], vm := .none },
  { cls := 16, slots := #[.int (-99)], vm := .none },
  { cls := 16, slots := #[.int (-98)], vm := .none },
  { cls := 16, slots := #[.int (-97)], vm := .none },
  { cls := 16, slots := #[.int (-96)], vm := .none },
  { cls := 16, slots := #[.int (-95)], vm := .none },
  { cls := 16, slots := #[.int (-94)], vm := .none },
  { cls := 16, slots := #[.int (-93)], vm := .none },
  { cls := 16, slots := #[.int (-92)], vm := .none },
  { cls := 16, slots := #[.int (-91)], vm := .none },
  { cls := 16, slots := #[.int (-90)], vm := .none },
  { cls := 16, slots := #[.int (-89)], vm := .none },
  { cls := 16, slots := #[.int (-88)], vm := .none },
  { cls := 16, slots := #[.int (-87)], vm := .none },
  { cls := 16, slots := #[.int (-86)], vm := .none },
  { cls := 16, slots := #[.int (-85)], vm := .none },
  { cls := 16, slots := #[.int (-84)], vm := .none },
  { cls := 16, slots := #[.int (-83)], vm := .none },
  { cls := 16, slots := #[.int (-82)], vm := .none },
  { cls := 16, slots := #[.int (-81)], vm := .none },
  { cls := 16, slots := #[.int (-80)], vm := .none },
  { cls := 16, slots := #[.int (-79)], vm := .none },
  { cls := 16, slots := #[.int (-78)], vm := .none },
  { cls := 16, slots := #[.int (-77)], vm := .none },
  { cls := 16, slots := #[.int (-76)], vm := .none },
  { cls := 16, slots := #[.int (-75)], vm := .none },
  { cls := 16, slots := #[.int (-74)], vm := .none },
  { cls := 16, slots := #[.int (-73)], vm := .none },
  { cls := 16, slots := #[.int (-72)], vm := .none },
  { cls := 16, slots := #[.int (-71)], vm := .none },
  { cls := 16, slots := #[.int (-70)], vm := .none },
  { cls := 16, slots := #[.int (-69)], vm := .none },
  { cls := 16, slots := #[.int (-68)], vm := .none },
  { cls := 16, slots := #[.int (-67)], vm := .none },
  { cls := 16, slots := #[.int (-66)], vm := .none },
  { cls := 16, slots := #[.int (-65)], vm := .none },
  { cls := 16, slots := #[.int (-64)], vm := .none },
  { cls := 16, slots := #[.int (-63)], vm := .none },
  { cls := 16, slots := #[.int (-62)], vm := .none },
  { cls := 16, slots := #[.int (-61)], vm := .none },
  { cls := 16, slots := #[.int (-60)], vm := .none },
  { cls := 16, slots := #[.int (-59)], vm := .none },
  { cls := 16, slots := #[.int (-58)], vm := .none },
  { cls := 16, slots := #[.int (-57)], vm := .none },
  { cls := 16, slots := #[.int (-56)], vm := .none },
  { cls := 16, slots := #[.int (-55)], vm := .none },
  { cls := 16, slots := #[.int (-54)], vm := .none },
  { cls := 16, slots := #[.int (-53)], vm := .none },
  { cls := 16, slots := #[.int (-52)], vm := .none },
  { cls := 16, slots := #[.int (-51)], vm := .none },
  { cls := 16, slots := #[.int (-50)], vm := .none },
  { cls := 16, slots := #[.int (-49)], vm := .none },
  { cls := 16, slots := #[.int (-48)], vm := .none },
  { cls := 16, slots := #[.int (-47)], vm := .none },
  { cls := 16, slots := #[.int (-46)], vm := .none },
  { cls := 16, slots := #[.int (-45)], vm := .none },
  { cls := 16, slots := #[.int (-44)], vm := .none },
  { cls := 16, slots := #[.int (-43)], vm := .none },
  { cls := 16, slots := #[.int (-42)], vm := .none },
  { cls := 16, slots := #[.int (-41)], vm := .none },
  { cls := 16, slots := #[.int (-40)], vm := .none },
  { cls := 16, slots := #[.int (-39)], vm := .none },
  { cls := 16, slots := #[.int (-38)], vm := .none },
  { cls := 16, slots := #[.int (-37)], vm := .none },
  { cls := 16, slots := #[.int (-36)], vm := .none },
  { cls := 16, slots := #[.int (-35)], vm := .none },
  { cls := 16, slots := #[.int (-34)], vm := .none },
  { cls := 16, slots := #[.int (-33)], vm := .none },
  { cls := 16, slots := #[.int (-32)], vm := .none },
  { cls := 16, slots := #[.int (-31)], vm := .none },
  { cls := 16, slots := #[.int (-30)], vm := .none },
  { cls := 16, slots := #[.int (-29)], vm := .none },
  { cls := 16, slots := #[.int (-28)], vm := .none },
  { cls := 16, slots := #[.int (-27)], vm := .none },
  { cls := 16, slots := #[.int (-26)], vm := .none },
  { cls := 16, slots := #[.int (-25)], vm := .none },
  { cls := 16, slots := #[.int (-24)], vm := .none },
  { cls := 16, slots := #[.int (-23)], vm := .none },
  { cls := 16, slots := #[.int (-22)], vm := .none },
  { cls := 16, slots := #[.int (-21)], vm := .none },
  { cls := 16, slots := #[.int (-20)], vm := .none },
  { cls := 16, slots := #[.int (-19)], vm := .none },
  { cls := 16, slots := #[.int (-18)], vm := .none },
  { cls := 16, slots := #[.int (-17)], vm := .none },
  { cls := 16, slots := #[.int (-16)], vm := .none },
  { cls := 16, slots := #[.int (-15)], vm := .none },
  { cls := 16, slots := #[.int (-14)], vm := .none },
  { cls := 16, slots := #[.int (-13)], vm := .none },
  { cls := 16, slots := #[.int (-12)], vm := .none },
  { cls := 16, slots := #[.int (-11)], vm := .none },
  { cls := 16, slots := #[.int (-10)], vm := .none },
  { cls := 16, slots := #[.int (-9)], vm := .none },
  { cls := 16, slots := #[.int (-8)], vm := .none },
  { cls := 16, slots := #[.int (-7)], vm := .none },
  { cls := 16, slots := #[.int (-6)], vm := .none },
  { cls := 16, slots := #[.int (-5)], vm := .none },
  { cls := 16, slots := #[.int (-4)], vm := .none },
  { cls := 16, slots := #[.int (-3)], vm := .none },
  { cls := 16, slots := #[.int (-2)], vm := .none },
  { cls := 16, slots := #[.int (-1)], vm := .none },
  { cls := 16, slots := #[.int (0)], vm := .none },
  { cls := 16, slots := #[.int (1)], vm := .none },
  { cls := 16, slots := #[.int (2)], vm := .none },
  { cls := 16, slots := #[.int (3)], vm := .none },
  { cls := 16, slots := #[.int (4)], vm := .none },
  { cls := 16, slots := #[.int (5)], vm := .none },
  { cls := 16, slots := #[.int (6)], vm := .none },
  { cls := 16, slots := #[.int (7)], vm := .none },
  { cls := 16, slots := #[.int (8)], vm := .none },
  { cls := 16, slots := #[.int (9)], vm := .none },
  { cls := 16, slots := #[.int (10)], vm := .none },
  { cls := 16, slots := #[.int (11)], vm := .none },
  { cls := 16, slots := #[.int (12)], vm := .none },
  { cls := 16, slots := #[.int (13)], vm := .none },
  { cls := 16, slots := #[.int (14)], vm := .none },
  { cls := 16, slots := #[.int (15)], vm := .none },
  { cls := 16, slots := #[.int (16)], vm := .none },
  { cls := 16, slots := #[.int (17)], vm := .none },
  { cls := 16, slots := #[.int (18)], vm := .none },
  { cls := 16, slots := #[.int (19)], vm := .none },
  { cls := 16, slots := #[.int (20)], vm := .none },
  { cls := 16, slots := #[.int (21)], vm := .none },
  { cls := 16, slots := #[.int (22)], vm := .none },
  { cls := 16, slots := #[.int (23)], vm := .none },
  { cls := 16, slots := #[.int (24)], vm := .none },
  { cls := 16, slots := #[.int (25)], vm := .none },
  { cls := 16, slots := #[.int (26)], vm := .none },
  { cls := 16, slots := #[.int (27)], vm := .none },
  { cls := 16, slots := #[.int (28)], vm := .none },
  { cls := 16, slots := #[.int (29)], vm := .none },
  { cls := 16, slots := #[.int (30)], vm := .none },
  { cls := 16, slots := #[.int (31)], vm := .none },
  { cls := 16, slots := #[.int (32)], vm := .none },
  { cls := 16, slots := #[.int (33)], vm := .none },
  { cls := 16, slots := #[.int (34)], vm := .none },
  { cls := 16, slots := #[.int (35)], vm := .none },
  { cls := 16, slots := #[.int (36)], vm := .none },
  { cls := 16, slots := #[.int (37)], vm := .none },
  { cls := 16, slots := #[.int (38)], vm := .none },
  { cls := 16, slots := #[.int (39)], vm := .none },
  { cls := 16, slots := #[.int (40)], vm := .none },
  { cls := 16, slots := #[.int (41)], vm := .none },
  { cls := 16, slots := #[.int (42)], vm := .none },
  { cls := 16, slots := #[.int (43)], vm := .none },
  { cls := 16, slots := #[.int (44)], vm := .none },
  { cls := 16, slots := #[.int (45)], vm := .none },
  { cls := 16, slots := #[.int (46)], vm := .none },
  { cls := 16, slots := #[.int (47)], vm := .none },
  { cls := 16, slots := #[.int (48)], vm := .none },
  { cls := 16, slots := #[.int (49)], vm := .none },
  { cls := 16, slots := #[.int (50)], vm := .none },
  { cls := 16, slots := #[.int (51)], vm := .none },
  { cls := 16, slots := #[.int (52)], vm := .none },
  { cls := 16, slots := #[.int (53)], vm := .none },
  { cls := 16, slots := #[.int (54)], vm := .none },
  { cls := 16, slots := #[.int (55)], vm := .none },
  { cls := 16, slots := #[.int (56)], vm := .none },
  { cls := 16, slots := #[.int (57)], vm := .none },
  { cls := 16, slots := #[.int (58)], vm := .none },
  { cls := 16, slots := #[.int (59)], vm := .none },
  { cls := 16, slots := #[.int (60)], vm := .none },
  { cls := 16, slots := #[.int (61)], vm := .none },
  { cls := 16, slots := #[.int (62)], vm := .none },
  { cls := 16, slots := #[.int (63)], vm := .none },
  { cls := 16, slots := #[.int (64)], vm := .none },
  { cls := 16, slots := #[.int (65)], vm := .none },
  { cls := 16, slots := #[.int (66)], vm := .none },
  { cls := 16, slots := #[.int (67)], vm := .none },
  { cls := 16, slots := #[.int (68)], vm := .none },
  { cls := 16, slots := #[.int (69)], vm := .none },
  { cls := 16, slots := #[.int (70)], vm := .none },
  { cls := 16, slots := #[.int (71)], vm := .none },
  { cls := 16, slots := #[.int (72)], vm := .none },
  { cls := 16, slots := #[.int (73)], vm := .none },
  { cls := 16, slots := #[.int (74)], vm := .none },
  { cls := 16, slots := #[.int (75)], vm := .none },
  { cls := 16, slots := #[.int (76)], vm := .none },
  { cls := 16, slots := #[.int (77)], vm := .none },
  { cls := 16, slots := #[.int (78)], vm := .none },
  { cls := 16, slots := #[.int (79)], vm := .none },
  { cls := 16, slots := #[.int (80)], vm := .none },
  { cls := 16, slots := #[.int (81)], vm := .none },
  { cls := 16, slots := #[.int (82)], vm := .none },
  { cls := 16, slots := #[.int (83)], vm := .none },
  { cls := 16, slots := #[.int (84)], vm := .none },
  { cls := 16, slots := #[.int (85)], vm := .none },
  { cls := 16, slots := #[.int (86)], vm := .none },
  { cls := 16, slots := #[.int (87)], vm := .none },
  { cls := 16, slots := #[.int (88)], vm := .none },
  { cls := 16, slots := #[.int (89)], vm := .none },
  { cls := 16, slots := #[.int (90)], vm := .none },
  { cls := 16, slots := #[.int (91)], vm := .none },
  { cls := 16, slots := #[.int (92)], vm := .none },
  { cls := 16, slots := #[.int (93)], vm := .none },
  { cls := 16, slots := #[.int (94)], vm := .none },
  { cls := 16, slots := #[.int (95)], vm := .none },
  { cls := 16, slots := #[.int (96)], vm := .none },
  { cls := 16, slots := #[.int (97)], vm := .none },
  { cls := 16, slots := #[.int (98)], vm := .none },
  { cls := 16, slots := #[.int (99)], vm := .none },
  { cls := 16, slots := #[.int (100)], vm := .none },
  { cls := 16, slots := #[.int (101)], vm := .none },
  { cls := 16, slots := #[.int (102)], vm := .none },
  { cls := 16, slots := #[.int (103)], vm := .none },
  { cls := 16, slots := #[.int (104)], vm := .none },
  { cls := 16, slots := #[.int (105)], vm := .none },
  { cls := 16, slots := #[.int (106)], vm := .none },
  { cls := 16, slots := #[.int (107)], vm := .none },
  { cls := 16, slots := #[.int (108)], vm := .none },
  { cls := 16, slots := #[.int (109)], vm := .none },
  { cls := 16, slots := #[.int (110)], vm := .none },
  { cls := 16, slots := #[.int (111)], vm := .none },
  { cls := 16, slots := #[.int (112)], vm := .none },
  { cls := 16, slots := #[.int (113)], vm := .none },
  { cls := 16, slots := #[.int (114)], vm := .none },
  { cls := 16, slots := #[.int (115)], vm := .none },
  { cls := 16, slots := #[.int (116)], vm := .none },
  { cls := 16, slots := #[.int (117)], vm := .none },
  { cls := 16, slots := #[.int (118)], vm := .none },
  { cls := 16, slots := #[.int (119)], vm := .none },
  { cls := 16, slots := #[.int (120)], vm := .none },
  { cls := 16, slots := #[.int (121)], vm := .none },
  { cls := 16, slots := #[.int (122)], vm := .none },
  { cls := 16, slots := #[.int (123)], vm := .none },
  { cls := 16, slots := #[.int (124)], vm := .none },
  { cls := 16, slots := #[.int (125)], vm := .none },
  { cls := 16, slots := #[.int (126)], vm := .none },
  { cls := 16, slots := #[.int (127)], vm := .none },
  { cls := 6, slots := #[.null, .int 0, .int 0, .null, .null, .null, .null, .null, .null], vm := .none },
  { cls := 6, slots := #[.null, .int 1, .int 0, .null, .null, .null, .null, .null, .null], vm := .none },
  { cls := 6, slots := #[.null, .int 2, .int 0, .null, .null, .null, .null, .null, .null], vm := .none },
  { cls := 6, slots := #[.null, .int 3, .int 0, .null, .null, .null, .null, .null, .null], vm := .none }]
def classes : Array Class := #[k0, k1, k2, k3, k4, k5, k6, k7, k8, k9, k10, k11, k12, k13, k14, k15, k16, k17, k18, k19, k20, k21, k22, k23, k24, k25, k26, k27, k28]
def interned : List (Array UInt16 × Addr) := []
def slotsUsed : Nat := 582
def theMethod : MethodId := ⟨1, 2⟩
def args0 : Array Value := #[.int 5, .int 5, .int 5, .int 5, .int 5]
def aboutOver (below : List Frame) : State where
  vm := { classes := classes, interned := interned.toArray }
  heap := heap
  slotsUsed := slotsUsed
  threads := #[{ frames := .invoking theMethod args0 :: below }]
def below0 : List Frame := [.native { method := ⟨0, 0⟩, args := #[] }]
def about1 : State := aboutOver below0
def p0 : Program := .bare "" "" ""
def e0 : Env := launch0.env 0 0 0
theorem w_frames : about1.frames = Frame.invoking theMethod args0 :: below0 := rfl
set_option maxRecDepth 65536 in
theorem w_args : argsFit about1.vm theMethod args0 = true := by decide +kernel
set_option maxRecDepth 65536 in
theorem w_heap : heapFits about1 = true := by decide +kernel
set_option maxRecDepth 65536 in
theorem w_runnable : about1.curStatus? = some .runnable := by decide +kernel
set_option maxRecDepth 65536 in
theorem w_alone : about1.alone = true := by decide +kernel
set_option maxRecDepth 65536 in
theorem w_named : about1.methodNamed? x = some theMethod := by decide +kernel
set_option maxRecDepth 65536 in
theorem w_hears : about1.hears theMethod below0 = true := by decide +kernel
set_option maxRecDepth 65536 in
theorem w_ripe : about1.ripe theMethod args0 below0 = true := by decide +kernel
theorem w_running : about1.status = .running := rfl
set_option maxRecDepth 65536 in
theorem w_room : about1.hasRoom e0.platform room_1 = true :=
  launch0.hasRoom_least _ room_1 (by decide +kernel) (by decide +kernel) (by decide +kernel) (by decide +kernel) (by decide +kernel) (by decide +kernel)
theorem allAtoms_all (ts : List Jvm.Cond) (a : Array Jvm.Value) (st : Jvm.State) : (allAtoms ts).before a st = ts.all (fun c => c.before a st) := by
  induction ts with
  | nil => rfl
  | cons c t ih =>
    show (Jvm.Cond.and c (allAtoms t)).before a st = _
    rw [Jvm.Cond.before_and, ih, List.all_cons]
def words1 : List Jvm.Cond := Jvm.Cond.code x code maxLocals ret :: tables_1
/-- a 'code' word, met by the world's own term for the bytes: nothing is compared byte by byte -/
theorem code_word {y : MethodName} {bytes : ByteArray} {mx : Nat} {rt : Option FieldType} {a : Array Value} {s : State} {m : MethodId} {meth : Method} {c : Code} (h1 : s.methodNamed? y = some m) (h2 : s.vm.method? m = some meth) (h3 : meth.code = some c) (h4 : c.code = bytes)
    (h5 : (c.maxLocals == mx && c.exceptionTable.isEmpty && decide (c.maxStack ≤ mostOperands) && decide (meth.sig.returnType = rt) && !meth.locks && decide (parseMethodDescriptor y.desc = some meth.sig)) = true) : (Jvm.Cond.code y bytes mx rt).before a s = true := by
  simp only [Bool.and_eq_true, beq_iff_eq, Bool.not_eq_true', decide_eq_true_eq] at h5
  obtain ⟨⟨⟨⟨⟨g1, g2⟩, g3⟩, g4⟩, g5⟩, g6⟩ := h5
  simp [Cond.before, Cond.holds, Cond.value, h1, h2, h3, h4, g1, g2, g3, g4, g5, g6]
def isCode : Jvm.Cond → Bool
  | .code _ _ _ _ => true
  | _ => false
theorem all_split {L : List Jvm.Cond} {P : Jvm.Cond → Bool} (h1 : L.all (fun c => isCode c || P c) = true) (h2 : ∀ c ∈ L.filter isCode, P c = true) : L.all P = true := by
  refine List.all_eq_true.mpr fun c hc => ?_
  have h := List.all_eq_true.mp h1 c hc
  rcases Bool.eq_false_or_eq_true (isCode c) with hi | hi
  · exact h2 c (List.mem_filter.mpr ⟨hc, hi⟩)
  · simpa [hi] using h
set_option maxRecDepth 65536 in
theorem w_c0 : (Jvm.Cond.code x code maxLocals ret).before args0 about1 = true := code_word (m := ⟨1, 2⟩) (meth := k1m2) (c := k1c2) (by decide +kernel) rfl rfl rfl (by decide +kernel)
set_option maxRecDepth 65536 in
theorem w_c1 : (Jvm.Cond.code ({ cls := "com/example/gatemark/gatemark/model/AttributeValueIsReadPinLaw", name := "pickType", desc := "(I)Lcom/example/gatemark/gatemark/model/DataType;" } : Jvm.MethodName) method_2_code (2 : Nat) (Option.some (Jvm.ClassFile.FieldType.object "com/example/gatemark/gatemark/model/DataType"))).before args0 about1 = true := code_word (m := ⟨1, 1⟩) (meth := k1m1) (c := k1c1) (by decide +kernel) rfl rfl rfl (by decide +kernel)
set_option maxRecDepth 65536 in
theorem w_c2 : (Jvm.Cond.code ({ cls := "java/lang/String", name := "<init>", desc := "([C)V" } : Jvm.MethodName) jdk_42_method_3_code (2 : Nat) (Option.none : Option Jvm.ClassFile.FieldType)).before args0 about1 = true := code_word (m := ⟨9, 1⟩) (meth := k9m1) (c := k9c1) (by decide +kernel) rfl rfl rfl (by decide +kernel)
set_option maxRecDepth 65536 in
theorem w_c3 : (Jvm.Cond.code ({ cls := "java/lang/String", name := "<init>", desc := "([CIILjava/lang/Void;)V" } : Jvm.MethodName) jdk_42_method_149_code (6 : Nat) (Option.none : Option Jvm.ClassFile.FieldType)).before args0 about1 = true := code_word (m := ⟨9, 2⟩) (meth := k9m2) (c := k9c2) (by decide +kernel) rfl rfl rfl (by decide +kernel)
set_option maxRecDepth 65536 in
theorem w_c4 : (Jvm.Cond.code ({ cls := "java/lang/Object", name := "<init>", desc := "()V" } : Jvm.MethodName) object_method_1_code (1 : Nat) (Option.none : Option Jvm.ClassFile.FieldType)).before args0 about1 = true := code_word (m := ⟨0, 0⟩) (meth := k0m0) (c := k0c0) (by decide +kernel) rfl rfl rfl (by decide +kernel)
set_option maxRecDepth 65536 in
theorem w_c5 : (Jvm.Cond.code ({ cls := "java/lang/StringUTF16", name := "compress", desc := "([CII)[B" } : Jvm.MethodName) jdk_52_method_16_code (6 : Nat) (Option.some (Jvm.ClassFile.FieldType.array Jvm.ClassFile.FieldType.byte))).before args0 about1 = true := code_word (m := ⟨10, 2⟩) (meth := k10m2) (c := k10c2) (by decide +kernel) rfl rfl rfl (by decide +kernel)
set_option maxRecDepth 65536 in
theorem w_c6 : (Jvm.Cond.code ({ cls := "java/lang/StringUTF16", name := "compress", desc := "([CI[BII)I" } : Jvm.MethodName) jdk_52_method_21_code (7 : Nat) (Option.some Jvm.ClassFile.FieldType.int)).before args0 about1 = true := code_word (m := ⟨10, 3⟩) (meth := k10m3) (c := k10c3) (by decide +kernel) rfl rfl rfl (by decide +kernel)
set_option maxRecDepth 65536 in
theorem w_c7 : (Jvm.Cond.code ({ cls := "java/lang/StringUTF16", name := "coderFromArrayLen", desc := "([BI)B" } : Jvm.MethodName) jdk_52_method_15_code (2 : Nat) (Option.some Jvm.ClassFile.FieldType.byte)).before args0 about1 = true := code_word (m := ⟨10, 1⟩) (meth := k10m1) (c := k10c1) (by decide +kernel) rfl rfl rfl (by decide +kernel)
set_option maxRecDepth 65536 in
theorem w_c8 : (Jvm.Cond.code ({ cls := "com/example/gatemark/gatemark/model/AttributeValue", name := "unread", desc := "(Lcom/example/gatemark/gatemark/model/DataType;Ljava/lang/String;Ljava/lang/String;)Lcom/example/gatemark/gatemark/model/AttributeValue;" } : Jvm.MethodName) prog_181_method_2_code (3 : Nat) (Option.some (Jvm.ClassFile.FieldType.object "com/example/gatemark/gatemark/model/AttributeValue"))).before args0 about1 = true := code_word (m := ⟨13, 1⟩) (meth := k13m1) (c := k13c1) (by decide +kernel) rfl rfl rfl (by decide +kernel)
set_option maxRecDepth 65536 in
theorem w_c9 : (Jvm.Cond.code ({ cls := "com/example/gatemark/gatemark/model/AttributeValue$Unread", name := "<init>", desc := "(Ljava/lang/String;Ljava/lang/String;)V" } : Jvm.MethodName) prog_182_method_1_code (3 : Nat) (Option.none : Option Jvm.ClassFile.FieldType)).before args0 about1 = true := code_word (m := ⟨14, 0⟩) (meth := k14m0) (c := k14c0) (by decide +kernel) rfl rfl rfl (by decide +kernel)
set_option maxRecDepth 65536 in
theorem w_c10 : (Jvm.Cond.code ({ cls := "java/lang/Record", name := "<init>", desc := "()V" } : Jvm.MethodName) jdk_30_method_1_code (1 : Nat) (Option.none : Option Jvm.ClassFile.FieldType)).before args0 about1 = true := code_word (m := ⟨11, 0⟩) (meth := k11m0) (c := k11c0) (by decide +kernel) rfl rfl rfl (by decide +kernel)
set_option maxRecDepth 65536 in
theorem w_c11 : (Jvm.Cond.code ({ cls := "com/example/gatemark/gatemark/model/AttributeValue", name := "<init>", desc := "(Lcom/example/gatemark/gatemark/model/DataType;Ljava/lang/Object;)V" } : Jvm.MethodName) prog_181_method_1_code (3 : Nat) (Option.none : Option Jvm.ClassFile.FieldType)).before args0 about1 = true := code_word (m := ⟨13, 0⟩) (meth := k13m0) (c := k13c0) (by decide +kernel) rfl rfl rfl (by decide +kernel)
set_option maxRecDepth 65536 in
theorem w_c12 : (Jvm.Cond.code ({ cls := "com/example/gatemark/gatemark/model/AttributeValue", name := "isRead", desc := "()Z" } : Jvm.MethodName) prog_181_method_3_code (1 : Nat) (Option.some Jvm.ClassFile.FieldType.boolean)).before args0 about1 = true := code_word (m := ⟨13, 2⟩) (meth := k13m2) (c := k13c2) (by decide +kernel) rfl rfl rfl (by decide +kernel)
set_option maxRecDepth 65536 in
theorem w_c13 : (Jvm.Cond.code ({ cls := "com/example/gatemark/gatemark/model/AttributeValue", name := "value", desc := "()Ljava/lang/Object;" } : Jvm.MethodName) prog_181_method_16_code (1 : Nat) (Option.some (Jvm.ClassFile.FieldType.object "java/lang/Object"))).before args0 about1 = true := code_word (m := ⟨13, 3⟩) (meth := k13m3) (c := k13c3) (by decide +kernel) rfl rfl rfl (by decide +kernel)
set_option maxRecDepth 65536 in
theorem w_c14 : (Jvm.Cond.code ({ cls := "java/lang/Integer", name := "valueOf", desc := "(I)Ljava/lang/Integer;" } : Jvm.MethodName) jdk_33_method_22_code (1 : Nat) (Option.some (Jvm.ClassFile.FieldType.object "java/lang/Integer"))).before args0 about1 = true := code_word (m := ⟨16, 0⟩) (meth := k16m0) (c := k16c0) (by decide +kernel) rfl rfl rfl (by decide +kernel)
set_option maxRecDepth 65536 in
theorem w_c15 : (Jvm.Cond.code ({ cls := "java/lang/Integer", name := "<init>", desc := "(I)V" } : Jvm.MethodName) jdk_33_method_23_code (2 : Nat) (Option.none : Option Jvm.ClassFile.FieldType)).before args0 about1 = true := code_word (m := ⟨16, 1⟩) (meth := k16m1) (c := k16c1) (by decide +kernel) rfl rfl rfl (by decide +kernel)
set_option maxRecDepth 65536 in
theorem w_c16 : (Jvm.Cond.code ({ cls := "java/lang/Number", name := "<init>", desc := "()V" } : Jvm.MethodName) jdk_18_method_1_code (1 : Nat) (Option.none : Option Jvm.ClassFile.FieldType)).before args0 about1 = true := code_word (m := ⟨15, 0⟩) (meth := k15m0) (c := k15c0) (by decide +kernel) rfl rfl rfl (by decide +kernel)
def codes1 : List Jvm.Cond := [Jvm.Cond.code x code maxLocals ret, Jvm.Cond.code ({ cls := "com/example/gatemark/gatemark/model/AttributeValueIsReadPinLaw", name := "pickType", desc := "(I)Lcom/example/gatemark/gatemark/model/DataType;" } : Jvm.MethodName) method_2_code (2 : Nat) (Option.some (Jvm.ClassFile.FieldType.object "com/example/gatemark/gatemark/model/DataType")), Jvm.Cond.code ({ cls := "java/lang/String", name := "<init>", desc := "([C)V" } : Jvm.MethodName) jdk_42_method_3_code (2 : Nat) (Option.none : Option Jvm.ClassFile.FieldType), Jvm.Cond.code ({ cls := "java/lang/String", name := "<init>", desc := "([CIILjava/lang/Void;)V" } : Jvm.MethodName) jdk_42_method_149_code (6 : Nat) (Option.none : Option Jvm.ClassFile.FieldType), Jvm.Cond.code ({ cls := "java/lang/Object", name := "<init>", desc := "()V" } : Jvm.MethodName) object_method_1_code (1 : Nat) (Option.none : Option Jvm.ClassFile.FieldType), Jvm.Cond.code ({ cls := "java/lang/StringUTF16", name := "compress", desc := "([CII)[B" } : Jvm.MethodName) jdk_52_method_16_code (6 : Nat) (Option.some (Jvm.ClassFile.FieldType.array Jvm.ClassFile.FieldType.byte)), Jvm.Cond.code ({ cls := "java/lang/StringUTF16", name := "compress", desc := "([CI[BII)I" } : Jvm.MethodName) jdk_52_method_21_code (7 : Nat) (Option.some Jvm.ClassFile.FieldType.int), Jvm.Cond.code ({ cls := "java/lang/StringUTF16", name := "coderFromArrayLen", desc := "([BI)B" } : Jvm.MethodName) jdk_52_method_15_code (2 : Nat) (Option.some Jvm.ClassFile.FieldType.byte), Jvm.Cond.code ({ cls := "com/example/gatemark/gatemark/model/AttributeValue", name := "unread", desc := "(Lcom/example/gatemark/gatemark/model/DataType;Ljava/lang/String;Ljava/lang/String;)Lcom/example/gatemark/gatemark/model/AttributeValue;" } : Jvm.MethodName) prog_181_method_2_code (3 : Nat) (Option.some (Jvm.ClassFile.FieldType.object "com/example/gatemark/gatemark/model/AttributeValue")), Jvm.Cond.code ({ cls := "com/example/gatemark/gatemark/model/AttributeValue$Unread", name := "<init>", desc := "(Ljava/lang/String;Ljava/lang/String;)V" } : Jvm.MethodName) prog_182_method_1_code (3 : Nat) (Option.none : Option Jvm.ClassFile.FieldType), Jvm.Cond.code ({ cls := "java/lang/Record", name := "<init>", desc := "()V" } : Jvm.MethodName) jdk_30_method_1_code (1 : Nat) (Option.none : Option Jvm.ClassFile.FieldType), Jvm.Cond.code ({ cls := "com/example/gatemark/gatemark/model/AttributeValue", name := "<init>", desc := "(Lcom/example/gatemark/gatemark/model/DataType;Ljava/lang/Object;)V" } : Jvm.MethodName) prog_181_method_1_code (3 : Nat) (Option.none : Option Jvm.ClassFile.FieldType), Jvm.Cond.code ({ cls := "com/example/gatemark/gatemark/model/AttributeValue", name := "isRead", desc := "()Z" } : Jvm.MethodName) prog_181_method_3_code (1 : Nat) (Option.some Jvm.ClassFile.FieldType.boolean), Jvm.Cond.code ({ cls := "com/example/gatemark/gatemark/model/AttributeValue", name := "value", desc := "()Ljava/lang/Object;" } : Jvm.MethodName) prog_181_method_16_code (1 : Nat) (Option.some (Jvm.ClassFile.FieldType.object "java/lang/Object")), Jvm.Cond.code ({ cls := "java/lang/Integer", name := "valueOf", desc := "(I)Ljava/lang/Integer;" } : Jvm.MethodName) jdk_33_method_22_code (1 : Nat) (Option.some (Jvm.ClassFile.FieldType.object "java/lang/Integer")), Jvm.Cond.code ({ cls := "java/lang/Integer", name := "<init>", desc := "(I)V" } : Jvm.MethodName) jdk_33_method_23_code (2 : Nat) (Option.none : Option Jvm.ClassFile.FieldType), Jvm.Cond.code ({ cls := "java/lang/Number", name := "<init>", desc := "()V" } : Jvm.MethodName) jdk_18_method_1_code (1 : Nat) (Option.none : Option Jvm.ClassFile.FieldType)]
set_option maxRecDepth 65536 in
theorem codes_eq : words1.filter isCode = codes1 := rfl
theorem w_codes : ∀ c ∈ words1.filter isCode, c.before args0 about1 = true := by
  rw [codes_eq]
  intro c hc
  simp only [codes1, List.mem_cons, List.not_mem_nil, or_false] at hc
  rcases hc with rfl | rfl | rfl | rfl | rfl | rfl | rfl | rfl | rfl | rfl | rfl | rfl | rfl | rfl | rfl | rfl | rfl
  · exact w_c0
  · exact w_c1
  · exact w_c2
  · exact w_c3
  · exact w_c4
  · exact w_c5
  · exact w_c6
  · exact w_c7
  · exact w_c8
  · exact w_c9
  · exact w_c10
  · exact w_c11
  · exact w_c12
  · exact w_c13
  · exact w_c14
  · exact w_c15
  · exact w_c16
set_option maxRecDepth 65536 in
theorem w_t1 : (words1.take 24).all (fun c => isCode c || c.before args0 about1) = true := by decide +kernel
set_option maxRecDepth 65536 in
theorem w_t2 : ((words1.drop 24).take 24).all (fun c => isCode c || c.before args0 about1) = true := by decide +kernel
set_option maxRecDepth 65536 in
theorem w_t3 : (((words1.drop 24).drop 24).take 24).all (fun c => isCode c || c.before args0 about1) = true := by decide +kernel
set_option maxRecDepth 65536 in
theorem w_t4 : ((((words1.drop 24).drop 24).drop 24).take 24).all (fun c => isCode c || c.before args0 about1) = true := by decide +kernel
set_option maxRecDepth 65536 in
theorem w_t5 : ((((words1.drop 24).drop 24).drop 24).drop 24).all (fun c => isCode c || c.before args0 about1) = true := by decide +kernel
theorem w_tables : (allAtoms (Jvm.Cond.code x code maxLocals ret :: tables_1)).before args0 about1 = true := by
  rw [allAtoms_all]
  show words1.all (fun c => c.before args0 about1) = true
  refine all_split ?_ w_codes
  rw [← List.take_append_drop 24 words1, List.all_append, w_t1, ← List.take_append_drop 24 (words1.drop 24), List.all_append, w_t2, ← List.take_append_drop 24 ((words1.drop 24).drop 24), List.all_append, w_t3, ← List.take_append_drop 24 (((words1.drop 24).drop 24).drop 24), List.all_append, w_t4, w_t5]
  rfl
set_option maxRecDepth 65536 in
theorem w_rest : rest_1_c.before args0 about1 = true := by decide +kernel
set_option maxRecDepth 65536 in
theorem w_case : (Jvm.Cond.and given_1 narrow_1).before args0 about1 = true := by decide +kernel
theorem w_applies : (headSpec (Jvm.Cond.code x code maxLocals ret :: tables_1) room_1).applies x e0.platform about1 = true :=
  (Spec.applies_iff w_frames).mpr ⟨w_running, w_runnable, w_alone, w_named, w_hears, w_ripe, w_room, w_tables⟩
theorem atStart : AtStart classFile x code maxLocals ret World_1 tables_1 room_1 Calls_1 rest_1 Pre_1 launch0 p0 e0 about1 theMethod args0 below0 :=
  ⟨lists_1, trivial, launch0.admits_env _ _ _, launch0.least_env, fairChoices_fair.cas, fairChoices_fair.clock, w_frames, w_args, w_heap, w_applies, trivial, w_rest, w_case⟩
end start1
theorem witness_1 : WitnessClaimed_1 := ⟨start1.p0, start1.e0, start1.about1, start1.theMethod, start1.args0, start1.below0, start1.atStart⟩
end Jvm.Pilot.@@N@@
