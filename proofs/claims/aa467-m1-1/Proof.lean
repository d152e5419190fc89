import JvmDerived
import JvmDerived.Pilot.@@N@@Statement
import JvmDerived.Pilot.@@N@@Code
set_option linter.unusedVariables false
set_option linter.unusedSimpArgs false
/- laws to paste: Road.backV (cut by pick.py; bodies as the Statement names them) -/
namespace Jvm.Pilot.@@N@@
namespace StrChars
open Jvm Sem ClassFile Op Lib Jvm.Stand Jvm.Free.XT Jvm.Free.ALB Jvm.Free.JM Jvm.Free
open Jvm.Lib.Cold (StaticIs)
/-- a char array whose places are chars -/
def Ch (a : Addr) (A : Cell) (U : State) : Prop := Arr .char a A U ∧ Typed .char A
theorem Ch.mv {a : Addr} {A : Cell} {U U' : State} (h : Ch a A U) (hal : U.vm.Alike U'.vm) (hh : U'.heap = U.heap) : Ch a A U' := ⟨h.1.mv hal hh, h.2⟩
theorem Ch.keep {a : Addr} {A : Cell} {U U' : State} (h : Ch a A U) (hal : U.vm.Alike U'.vm) (hk : U'.heap[a]? = some A) : Ch a A U' := ⟨h.1.keep hal hk, h.2⟩
/-- what place i of a char[]'s cell holds -/
def cv (A : Cell) (i : Nat) : Int32 := match A.slots[i]? with | some (.int x) => x | _ => 0
theorem Ch.get {a : Addr} {A : Cell} {U : State} (h : Ch a A U) {i : Nat} (hi : i < A.slots.size) : A.slots[i]? = some (.int (cv A i)) := by
  have e := Array.getElem?_eq_getElem hi
  have f := h.2 i _ e
  unfold cv; rw [e]
  generalize A.slots[i] = v at f
  cases v <;> simp [fits] at f ⊢
/-- the byte that i2b leaves of a char -/
def lo8 (x : Int32) : Int32 := x.toInt8.toInt32
theorem fits_lo8 (y : Int32) : fits .byte (.int (lo8 y)) = true := by
  have h1 := y.toInt8.le_toInt
  have h2 := y.toInt8.toInt_lt
  simp only [lo8, fits, Bool.and_eq_true, decide_eq_true_eq, Int32.le_iff_toInt_le, Int8.toInt_toInt32, show (-128 : Int32).toInt = -128 from by decide, show (127 : Int32).toInt = 127 from by decide]
  omega
/-- A' is A but that each place j of lo .. hi - 1 holds f j -/
def Laid (A A' : Cell) (lo hi : Nat) (f : Nat → Value) : Prop := A'.cls = A.cls ∧ A'.vm = A.vm ∧ A'.slots.size = A.slots.size ∧ ∀ i, A'.slots[i]? = if lo ≤ i ∧ i < hi then some (f i) else A.slots[i]?
theorem Laid.zero (A : Cell) (lo : Nat) (f : Nat → Value) : Laid A A lo (lo + 0) f := ⟨rfl, rfl, rfl, fun i => by rw [if_neg (by omega)]⟩
theorem Laid.step {A Ak : Cell} {lo k : Nat} {f : Nat → Value} {v : Value} (h : Laid A Ak lo k f) (hlo : lo ≤ k) (hk : k < Ak.slots.size) (hv : v = f k) : Laid A (Ak.setSlot k v) lo (k + 1) f := by
  refine ⟨h.1, h.2.1, by simpa [Cell.setSlot] using h.2.2.1, fun i => ?_⟩
  by_cases e : k = i
  · subst e; rw [Cell.slots_setSlot_self v hk, if_pos (by omega), hv]
  · rw [Cell.slots_setSlot_ne v e, h.2.2.2 i]
    by_cases q : lo ≤ i ∧ i < k
    · rw [if_pos q, if_pos (by omega)]
    · rw [if_neg q, if_neg (by omega)]
def U16 : String := "java/lang/StringUTF16"
namespace Cmp5
def yN : MethodName := ⟨"java/lang/StringUTF16", "compress", "([CI[BII)I"⟩
abbrev yB : ByteArray := jdk_52_method_21_code
theorem d0 : decode yB 0 = .ok (.iconst 0, 1) := by decide +kernel
theorem d1 : decode yB 1 = .ok (.istore 5, 2) := by decide +kernel
theorem d3 : decode yB 3 = .ok (.iload 5, 2) := by decide +kernel
theorem d5 : decode yB 5 = .ok (.iload 4, 2) := by decide +kernel
theorem d7 : decode yB 7 = .ok (.if_icmp (.ge) 37, 3) := by decide +kernel
theorem d10 : decode yB 10 = .ok (.aload_n 0, 1) := by decide +kernel
theorem d11 : decode yB 11 = .ok (.iload_n 1, 1) := by decide +kernel
theorem d12 : decode yB 12 = .ok (.caload, 1) := by decide +kernel
theorem d13 : decode yB 13 = .ok (.istore 6, 2) := by decide +kernel
theorem d15 : decode yB 15 = .ok (.iload 6, 2) := by decide +kernel
theorem d17 : decode yB 17 = .ok (.sipush 255, 3) := by decide +kernel
theorem d20 : decode yB 20 = .ok (.if_icmp (.le) 6, 3) := by decide +kernel
theorem d26 : decode yB 26 = .ok (.aload_n 2, 1) := by decide +kernel
theorem d27 : decode yB 27 = .ok (.iload_n 3, 1) := by decide +kernel
theorem d28 : decode yB 28 = .ok (.iload 6, 2) := by decide +kernel
theorem d30 : decode yB 30 = .ok (.i2b, 1) := by decide +kernel
theorem d31 : decode yB 31 = .ok (.bastore, 1) := by decide +kernel
theorem d32 : decode yB 32 = .ok (.iinc 1 1, 3) := by decide +kernel
theorem d35 : decode yB 35 = .ok (.iinc 3 1, 3) := by decide +kernel
theorem d38 : decode yB 38 = .ok (.iinc 5 1, 3) := by decide +kernel
theorem d41 : decode yB 41 = .ok (.goto (-38), 3) := by decide +kernel
theorem d44 : decode yB 44 = .ok (.iload 4, 2) := by decide +kernel
theorem d46 : decode yB 46 = .ok (.ireturn, 1) := by decide +kernel
def site : List Cond := []
def tab : Cond := tabOf yN yB 7 (some .int) site
def P (b : Addr) (A : Cell) (d : Addr) (B : Cell) (o q len : Nat) (args : Array Value) (s : State) : Prop := args = #[.ref b, .int (Int32.ofNat o), .ref d, .int (Int32.ofNat q), .int (Int32.ofNat len)] ∧ Ch b A s ∧ Arr .byte d B s ∧ b ≠ d ∧ o + len ≤ A.slots.size ∧ q + len ≤ B.slots.size ∧ ∀ i, i < len → ¬ 255 < cv A (o + i)
def E (b : Addr) (A : Cell) (d : Addr) (B : Cell) (o q len : Nat) (r : Option Value) (s u : State) : Prop := r = some (.int (Int32.ofNat len)) ∧ ∃ B', Put d B' s u ∧ Laid B B' q (q + len) (fun j => Value.int (lo8 (cv A (o + (j - q)))))
/-- no char of the range above 255: len; the places written hold each char's low byte -/
theorem law (l : Launch) (b : Addr) (A : Cell) (d : Addr) (B : Cell) (o q len : Nat) : Law l yN 5 5 0 0 yB 7 (some .int) site (P b A d B o q len) (E b A d B o q len) (copyLocs d q len) 0 0 := by
  refine Law.of_walk (plainFor_of_name (by decide +kernel)) (by decide +kernel) (by decide +kernel) (by decide) (fun _ _ h => by rw [h.1]; rfl) (fun _ U U' hal hh h => ⟨h.1, h.2.1.mv hal hh, h.2.2.1.mv hal hh, h.2.2.2⟩) (fun r U U' V V' h1 hal h2 h => ⟨h.1, h.2.elim fun B' q => ⟨B', q.1.mv h1 h2, q.2⟩⟩) ?_
  intro p e s m args below meth c s₁ X0 hexec hbytes hml hret hlk hnm hown hh0 W hP
  obtain ⟨rfl, hA, hB, hne, l1, l2, hp⟩ := hP
  have c1 : Steps p.tables e below (s₁.setTop (entryFrame m #[.ref b, .int (Int32.ofNat o), .ref d, .int (Int32.ofNat q), .int (Int32.ofNat len)] 7)) (s₁.setTop (mkF m 0 #[.val (.ref b), .val (.int (Int32.ofNat o)), .val (.ref d), .val (.int (Int32.ofNat q)), .val (.int (Int32.ofNat len)), .unset, .unset] [])) := entry rfl
  have hA0 := hA.1.mv X0.warmed.alike hh0
  have hB0 := hB.mv X0.warmed.alike hh0
  have a31 := hA.1.2.2.2
  have c2 : Steps p.tables e below (s₁.setTop (entryFrame m #[.ref b, .int (Int32.ofNat o), .ref d, .int (Int32.ofNat q), .int (Int32.ofNat len)] 7)) (s₁.setTop (mkF m 3 #[.val (.ref b), .val (.int (Int32.ofNat o)), .val (.ref d), .val (.int (Int32.ofNat q)), .val (.int (Int32.ofNat len)), .val (.int 0), .unset] [])) := c1.trans (by
    refine iconstV X0.here hexec rfl 0 (hb hbytes d0) (by decide) ?_
    refine XS.istore X0.here hexec rfl (hb hbytes d1) rfl rfl ?_
    exact Steps.refl _)
  have loop : ∀ (r i : Nat), i + r = len → ∀ (z : Slot), (z = .unset ∨ ∃ w, z = .val w ∧ w.category = 1) → ∀ (Tl : State) (Bk : Cell), Stand p l e { frames := 0, locals := 0, cells := 0, slots := 0 } s m #[.ref b, .int (Int32.ofNat o), .ref d, .int (Int32.ofNat q), .int (Int32.ofNat len)] below meth c Tl ([] ++ copyLocs d q i) 0 0 → Put d Bk s₁ Tl → Laid B Bk q (q + i) (fun j => Value.int (lo8 (cv A (o + (j - q))))) →
      Steps p.tables e below (s₁.setTop (entryFrame m #[.ref b, .int (Int32.ofNat o), .ref d, .int (Int32.ofNat q), .int (Int32.ofNat len)] 7)) (Tl.setTop (mkF m 3 #[.val (.ref b), .val (.int (Int32.ofNat (o + i))), .val (.ref d), .val (.int (Int32.ofNat (q + i))), .val (.int (Int32.ofNat len)), .val (.int (Int32.ofNat i)), z] [])) → ∃ (T' : State) (B' : Cell) (z' : Slot), Stand p l e { frames := 0, locals := 0, cells := 0, slots := 0 } s m #[.ref b, .int (Int32.ofNat o), .ref d, .int (Int32.ofNat q), .int (Int32.ofNat len)] below meth c T' ([] ++ copyLocs d q len) 0 0 ∧ Put d B' s₁ T' ∧ Laid B B' q (q + len) (fun j => Value.int (lo8 (cv A (o + (j - q))))) ∧
      Steps p.tables e below (s₁.setTop (entryFrame m #[.ref b, .int (Int32.ofNat o), .ref d, .int (Int32.ofNat q), .int (Int32.ofNat len)] 7)) (T'.setTop (mkF m 3 #[.val (.ref b), .val (.int (Int32.ofNat (o + len))), .val (.ref d), .val (.int (Int32.ofNat (q + len))), .val (.int (Int32.ofNat len)), .val (.int (Int32.ofNat len)), z'] [])) := by
    intro r
    induction r with
    | zero =>
      intro i hi z hz Tl Bk Xl pl fl cl
      have hil : i = len := by omega
      rw [hil] at Xl fl cl
      exact ⟨Tl, Bk, z, Xl, pl, fl, cl⟩
    | succ r ih =>
      intro i hi z hz Tl Bk Xl pl fl cl
      have all := X0.warmed.alike.symm.trans Xl.warmed.alike
      have hAl := hA0.keep all (pl.other hne hA0.1)
      have hBk := hB0.like all pl.1 fl.1 fl.2.1 fl.2.2.1
      have hlt : q + i < Bk.slots.size := by rw [fl.2.2.1]; omega
      have c3 : Steps p.tables e below (s₁.setTop (entryFrame m #[.ref b, .int (Int32.ofNat o), .ref d, .int (Int32.ofNat q), .int (Int32.ofNat len)] 7)) (Tl.setTop (mkF m 12 #[.val (.ref b), .val (.int (Int32.ofNat (o + i))), .val (.ref d), .val (.int (Int32.ofNat (q + i))), .val (.int (Int32.ofNat len)), .val (.int (Int32.ofNat i)), z] [.int (Int32.ofNat (o + i)), .ref b])) := cl.trans (by
        refine XS.iload Xl.here hexec rfl (hb hbytes d3) rfl ?_
        refine XS.iload Xl.here hexec rfl (hb hbytes d5) rfl ?_
        refine XS.icmpNo Xl.here hexec rfl (hb hbytes d7) rfl (ii_ge_f (lt32 (by omega) (by omega))) ?_
        refine XS.aloadN Xl.here hexec rfl (hb hbytes d10) rfl rfl ?_
        refine XS.iloadN Xl.here hexec rfl (hb hbytes d11) rfl ?_
        exact Steps.refl _)
      have c4 : Steps p.tables e below (s₁.setTop (entryFrame m #[.ref b, .int (Int32.ofNat o), .ref d, .int (Int32.ofNat q), .int (Int32.ofNat len)] 7)) (Tl.setTop (mkF m 13 #[.val (.ref b), .val (.int (Int32.ofNat (o + i))), .val (.ref d), .val (.int (Int32.ofNat (q + i))), .val (.int (Int32.ofNat len)), .val (.int (Int32.ofNat i)), z] [.int (cv A (o + i))])) := c3.trans (by
        refine Xl.aget hexec hAl rfl (hA.get (i := o + i) (by omega)) rfl rfl (hb hbytes d12) ?_
        exact Steps.refl _)
      have c5 : Steps p.tables e below (s₁.setTop (entryFrame m #[.ref b, .int (Int32.ofNat o), .ref d, .int (Int32.ofNat q), .int (Int32.ofNat len)] 7)) (Tl.setTop (mkF m 15 #[.val (.ref b), .val (.int (Int32.ofNat (o + i))), .val (.ref d), .val (.int (Int32.ofNat (q + i))), .val (.int (Int32.ofNat len)), .val (.int (Int32.ofNat i)), .val (.int (cv A (o + i)))] [])) := c4.trans (by
        refine XS.istoreS Xl.here hexec rfl (hb hbytes d13) rfl rfl hz ?_
        exact Steps.refl _)
      have c6 : Steps p.tables e below (s₁.setTop (entryFrame m #[.ref b, .int (Int32.ofNat o), .ref d, .int (Int32.ofNat q), .int (Int32.ofNat len)] 7)) (Tl.setTop (mkF m 31 #[.val (.ref b), .val (.int (Int32.ofNat (o + i))), .val (.ref d), .val (.int (Int32.ofNat (q + i))), .val (.int (Int32.ofNat len)), .val (.int (Int32.ofNat i)), .val (.int (cv A (o + i)))] [.int (lo8 (cv A (o + i))), .int (Int32.ofNat (q + i)), .ref d])) := c5.trans (by
        refine XS.iload Xl.here hexec rfl (hb hbytes d15) rfl ?_
        refine sipushV Xl.here hexec rfl 255 (hb hbytes d17) (by decide) ?_
        refine XS.icmpYes Xl.here hexec rfl (pc0 := 20) rfl (hb hbytes d20) rfl (ii_le_t (hp i (by omega))) (by decide) rfl ?_
        refine XS.aloadN Xl.here hexec rfl (hb hbytes d26) rfl rfl ?_
        refine XS.iloadN Xl.here hexec rfl (hb hbytes d27) rfl ?_
        refine XS.iload Xl.here hexec rfl (hb hbytes d28) rfl ?_
        refine i2b Xl.here hexec rfl (hb hbytes d30) rfl ?_
        exact Steps.refl _)
      obtain ⟨T7, X7, p7, st7⟩ := Xl.aput hexec hBk rfl hlt rfl (fits_lo8 (cv A (o + i))) (g := (mkF m 31 #[.val (.ref b), .val (.int (Int32.ofNat (o + i))), .val (.ref d), .val (.int (Int32.ofNat (q + i))), .val (.int (Int32.ofNat len)), .val (.int (Int32.ofNat i)), .val (.int (cv A (o + i)))] [.int (lo8 (cv A (o + i))), .int (Int32.ofNat (q + i)), .ref d])) rfl (rest := []) rfl (hb hbytes d31)
      have c8 : Steps p.tables e below (s₁.setTop (entryFrame m #[.ref b, .int (Int32.ofNat o), .ref d, .int (Int32.ofNat q), .int (Int32.ofNat len)] 7)) (T7.setTop (mkF m 32 #[.val (.ref b), .val (.int (Int32.ofNat (o + i))), .val (.ref d), .val (.int (Int32.ofNat (q + i))), .val (.int (Int32.ofNat len)), .val (.int (Int32.ofNat i)), .val (.int (cv A (o + i)))] [])) := c6.trans (st7 _ (Steps.refl _))
      have c9 : Steps p.tables e below (s₁.setTop (entryFrame m #[.ref b, .int (Int32.ofNat o), .ref d, .int (Int32.ofNat q), .int (Int32.ofNat len)] 7)) (T7.setTop (mkF m 3 #[.val (.ref b), .val (.int (Int32.ofNat (o + i) + 1)), .val (.ref d), .val (.int (Int32.ofNat (q + i) + 1)), .val (.int (Int32.ofNat len)), .val (.int (Int32.ofNat i + 1)), .val (.int (cv A (o + i)))] [])) := c8.trans (by
        refine iincV X7.here hexec rfl 1 (hb hbytes d32) (by decide) rfl rfl ?_
        refine iincV X7.here hexec rfl 1 (hb hbytes d35) (by decide) rfl rfl ?_
        refine iincV X7.here hexec rfl 1 (hb hbytes d38) (by decide) rfl rfl ?_
        refine XS.goto X7.here hexec rfl (pc0 := 41) rfl (hb hbytes d41) (by decide) rfl ?_
        exact Steps.refl _)
      have c10 : Steps p.tables e below (s₁.setTop (entryFrame m #[.ref b, .int (Int32.ofNat o), .ref d, .int (Int32.ofNat q), .int (Int32.ofNat len)] 7)) (T7.setTop (mkF m 3 #[.val (.ref b), .val (.int (Int32.ofNat (o + (i + 1)))), .val (.ref d), .val (.int (Int32.ofNat (q + (i + 1)))), .val (.int (Int32.ofNat len)), .val (.int (Int32.ofNat (i + 1))), .val (.int (cv A (o + i)))] [])) := by
        have := c9
        rw [succ32, succ32, succ32] at this
        exact this
      exact ih (i + 1) (by omega) _ (Or.inr ⟨_, rfl, rfl⟩) T7 _ (by rw [copyLocs_step, ← List.append_assoc]; exact X7) (pl.trans p7) (fl.step (by omega) hlt (by simp)) c10
  obtain ⟨T9, B9, z9, X9, p9, f9, g9⟩ := loop len 0 (by omega) .unset (Or.inl rfl) s₁ B (by simpa [copyLocs] using X0) ⟨hB0.1, fun _ _ => rfl, rfl⟩ (Laid.zero _ _ _) c2
  have c11 : Steps p.tables e below (s₁.setTop (entryFrame m #[.ref b, .int (Int32.ofNat o), .ref d, .int (Int32.ofNat q), .int (Int32.ofNat len)] 7)) (T9.setTop (mkF m 46 #[.val (.ref b), .val (.int (Int32.ofNat (o + len))), .val (.ref d), .val (.int (Int32.ofNat (q + len))), .val (.int (Int32.ofNat len)), .val (.int (Int32.ofNat len)), z9] [.int (Int32.ofNat len)])) := g9.trans (by
    refine XS.iload X9.here hexec rfl (hb hbytes d3) rfl ?_
    refine XS.iload X9.here hexec rfl (hb hbytes d5) rfl ?_
    refine XS.icmpYes X9.here hexec rfl (pc0 := 7) rfl (hb hbytes d7) rfl (ii_ge_t (nlt32 (by omega) (Nat.le_refl _))) (by decide) rfl ?_
    refine XS.iload X9.here hexec rfl (hb hbytes d44) rfl ?_
    exact Steps.refl _)
  exact ⟨T9, some (.int (Int32.ofNat len)), _, _, _, X9, by simp, rfl, rfl, (fun h => by cases h), ⟨rfl, B9, p9.from hh0, f9⟩, fun fs hl => c11.trans (X9.ireturnOut hexec hret rfl (Or.inl rfl) (hb hbytes d46) hl)⟩
end Cmp5
namespace Cmp3
def yN : MethodName := ⟨"java/lang/StringUTF16", "compress", "([CII)[B"⟩
abbrev yB : ByteArray := jdk_52_method_16_code
theorem d0 : decode yB 0 = .ok (.iload_n 2, 1) := by decide +kernel
theorem d1 : decode yB 1 = .ok (.newarray .byte, 2) := by decide +kernel
theorem d3 : decode yB 3 = .ok (.astore_n 3, 1) := by decide +kernel
theorem d4 : decode yB 4 = .ok (.aload_n 0, 1) := by decide +kernel
theorem d5 : decode yB 5 = .ok (.iload_n 1, 1) := by decide +kernel
theorem d6 : decode yB 6 = .ok (.aload_n 3, 1) := by decide +kernel
theorem d7 : decode yB 7 = .ok (.iconst 0, 1) := by decide +kernel
theorem d8 : decode yB 8 = .ok (.iload_n 2, 1) := by decide +kernel
theorem d9 : decode yB 9 = .ok (.invokestatic 115, 3) := by decide +kernel
theorem d12 : decode yB 12 = .ok (.istore 4, 2) := by decide +kernel
theorem d14 : decode yB 14 = .ok (.iload 4, 2) := by decide +kernel
theorem d16 : decode yB 16 = .ok (.iload_n 2, 1) := by decide +kernel
theorem d17 : decode yB 17 = .ok (.if_icmp (.eq) 40, 3) := by decide +kernel
theorem d57 : decode yB 57 = .ok (.aload_n 3, 1) := by decide +kernel
theorem d58 : decode yB 58 = .ok (.areturn, 1) := by decide +kernel
def site : List Cond := [.arrayClass .byte, Cmp5.tab] ++ staticW U16 115 Cmp5.yN
def tab : Cond := tabOf yN yB 6 (some (.array .byte)) site
def P (b : Addr) (A : Cell) (o len : Nat) (args : Array Value) (s : State) : Prop := args = #[.ref b, .int (Int32.ofNat o), .int (Int32.ofNat len)] ∧ Ch b A s ∧ o + len ≤ A.slots.size ∧ len ≤ 536870912 ∧ ∀ i, i < len → ¬ 255 < cv A (o + i)
def E (b : Addr) (A : Cell) (o len : Nat) (r : Option Value) (s u : State) : Prop := NewArr .byte "[B" len (fun j => .int (lo8 (cv A (o + j)))) r s u ∧ u.heap.size = s.heap.size + 1
/-- no char of the range above 255: a new byte[] of their low bytes -/
theorem law (l : Launch) (b : Addr) (A : Cell) (o len : Nat) : Law l yN 3 3 1 18 yB 6 (some (.array .byte)) site (P b A o len) (E b A o len) [] 1 len := by
  refine Law.of_walk (plainFor_of_name (by decide +kernel)) (by decide +kernel) (by decide +kernel) (by decide) (fun _ _ h => by rw [h.1]; rfl) (fun _ U U' hal hh h => ⟨h.1, h.2.1.mv hal hh, h.2.2⟩) (fun r U U' V V' h1 hal h2 h => ⟨NewArr.mv r U U' V V' h1 hal h2 h.1, by rw [h1, h2]; exact h.2⟩) ?_
  intro p e s m args below meth c s₁ X0 hexec hbytes hml hret hlk hnm hown hh0 W hP
  obtain ⟨rfl, hA, l1, l2, hp⟩ := hP
  have a31 := hA.1.2.2.2
  have c1 : Steps p.tables e below (s₁.setTop (entryFrame m #[.ref b, .int (Int32.ofNat o), .int (Int32.ofNat len)] 6)) (s₁.setTop (mkF m 0 #[.val (.ref b), .val (.int (Int32.ofNat o)), .val (.int (Int32.ofNat len)), .unset, .unset, .unset] [])) := entry rfl
  have c2 : Steps p.tables e below (s₁.setTop (entryFrame m #[.ref b, .int (Int32.ofNat o), .int (Int32.ofNat len)] 6)) (s₁.setTop (mkF m 1 #[.val (.ref b), .val (.int (Int32.ofNat o)), .val (.int (Int32.ofNat len)), .unset, .unset, .unset] [.int (Int32.ofNat len)])) := c1.trans (by
    refine XS.iloadN X0.here hexec rfl (hb hbytes d0) rfl ?_
    exact Steps.refl _)
  obtain ⟨T3, B3, X3, ba3, bs3, bv3, bh3, bf3, st3⟩ := X0.anew hexec (atype := .byte) (wk W (.arrayClass .byte)) rfl (by show len * 1 ≤ _; omega) (by omega) (g := (mkF m 1 #[.val (.ref b), .val (.int (Int32.ofNat o)), .val (.int (Int32.ofNat len)), .unset, .unset, .unset] [.int (Int32.ofNat len)])) rfl (hb hbytes d1) (rest := []) rfl (Nat.le_refl _) (by show 0 + len ≤ len; omega)
  rw [hh0] at ba3 st3
  have kp3 : XT.Kept s T3 := (XT.Kept.of_eq hh0).push bh3
  have hA3 := hA.keep X3.warmed.alike (kp3 _ _ hA.1.1)
  have hne : b ≠ s.heap.size := hA.1.ne
  have c4 : Steps p.tables e below (s₁.setTop (entryFrame m #[.ref b, .int (Int32.ofNat o), .int (Int32.ofNat len)] 6)) (T3.setTop (mkF m 3 #[.val (.ref b), .val (.int (Int32.ofNat o)), .val (.int (Int32.ofNat len)), .unset, .unset, .unset] [.ref s.heap.size])) := c2.trans (st3 _ (Steps.refl _))
  have c5 : Steps p.tables e below (s₁.setTop (entryFrame m #[.ref b, .int (Int32.ofNat o), .int (Int32.ofNat len)] 6)) (T3.setTop (mkF m 9 #[.val (.ref b), .val (.int (Int32.ofNat o)), .val (.int (Int32.ofNat len)), .val (.ref s.heap.size), .unset, .unset] [.int (Int32.ofNat len), .int 0, .ref s.heap.size, .int (Int32.ofNat o), .ref b])) := c4.trans (by
    refine XS.astoreN X3.here hexec rfl (hb hbytes d3) rfl rfl rfl ?_
    refine XS.aloadN X3.here hexec rfl (hb hbytes d4) rfl rfl ?_
    refine XS.iloadN X3.here hexec rfl (hb hbytes d5) rfl ?_
    refine XS.aloadN X3.here hexec rfl (hb hbytes d6) rfl rfl ?_
    refine iconstV X3.here hexec rfl 0 (hb hbytes d7) (by decide) ?_
    refine XS.iloadN X3.here hexec rfl (hb hbytes d8) rfl ?_
    exact Steps.refl _)
  obtain ⟨v6, T6, X6, E6, g6⟩ := X3.callS hexec (Cmp5.law l b A s.heap.size B3 o 0 len) hown (wks W (staticW U16 115 Cmp5.yN)) (wk W Cmp5.tab) (W := 0) (Nat.le_of_ble_eq_true rfl) (Nat.le_of_ble_eq_true rfl) (Nat.le_refl _) (by show 0 + len + 0 ≤ len; omega) (g := (mkF m 9 #[.val (.ref b), .val (.int (Int32.ofNat o)), .val (.int (Int32.ofNat len)), .val (.ref s.heap.size), .unset, .unset] [.int (Int32.ofNat len), .int (Int32.ofNat 0), .ref s.heap.size, .int (Int32.ofNat o), .ref b])) rfl (by rw [hml]; rfl) c5 (argsL := [.ref b, .int (Int32.ofNat o), .ref s.heap.size, .int (Int32.ofNat 0), .int (Int32.ofNat len)]) (rest := []) rfl rfl (by show 2 * 0 + 0 ≤ _; decide) (hb hbytes d9) (⟨rfl, hA3, ba3, hne, l1, by rw [bs3]; simp, hp⟩)
  obtain ⟨rfl, B6, p6, f6⟩ := E6
  have c7 : Steps p.tables e below (s₁.setTop (entryFrame m #[.ref b, .int (Int32.ofNat o), .int (Int32.ofNat len)] 6)) (T6.setTop (mkF m 12 #[.val (.ref b), .val (.int (Int32.ofNat o)), .val (.int (Int32.ofNat len)), .val (.ref s.heap.size), .unset, .unset] [.int (Int32.ofNat len)])) := g6
  have c8 : Steps p.tables e below (s₁.setTop (entryFrame m #[.ref b, .int (Int32.ofNat o), .int (Int32.ofNat len)] 6)) (T6.setTop (mkF m 58 #[.val (.ref b), .val (.int (Int32.ofNat o)), .val (.int (Int32.ofNat len)), .val (.ref s.heap.size), .val (.int (Int32.ofNat len)), .unset] [.ref s.heap.size])) := c7.trans (by
    refine XS.istore X6.here hexec rfl (hb hbytes d12) rfl rfl ?_
    refine XS.iload X6.here hexec rfl (hb hbytes d14) rfl ?_
    refine XS.iloadN X6.here hexec rfl (hb hbytes d16) rfl ?_
    refine XS.icmpYes X6.here hexec rfl (pc0 := 17) rfl (hb hbytes d17) rfl (ii_eq_t rfl) (by decide) rfl ?_
    refine XS.aloadN X6.here hexec rfl (hb hbytes d57) rfl rfl ?_
    exact Steps.refl _)
  have X8 := X6.wide (L' := []) (cells' := 1) (slots' := len) (fun x hx hlt => by
    simp only [List.nil_append, copyLocs, List.mem_map, List.mem_range] at hx
    obtain ⟨i, -, rfl⟩ := hx
    exact absurd hlt (Nat.lt_irrefl _)) (Nat.le_refl _) (by omega)
  exact ⟨T6, some (.ref s.heap.size), _, _, _, X8, rfl, rfl, rfl, (fun h => by cases h), ⟨⟨rfl, B6, ba3.like (X3.warmed.alike.symm.trans X6.warmed.alike) p6.1 f6.1 f6.2.1 f6.2.2.1, f6.2.1.trans bv3, by rw [X6.warmed.alike.findClass, f6.1]; exact bf3, by rw [f6.2.2.1, bs3]; simp, fun j hj => by rw [f6.2.2.2 j, if_pos (by omega)]; rfl, kp3.put p6 (Nat.le_refl _)⟩, by rw [p6.2.2, bh3, hh0]; simp⟩, fun fs hl => c8.trans (X8.areturnOut hexec rfl hret rfl (hb hbytes d58) hl)⟩
end Cmp3
namespace CodL
def yN : MethodName := ⟨"java/lang/StringUTF16", "coderFromArrayLen", "([BI)B"⟩
abbrev yB : ByteArray := jdk_52_method_15_code
theorem d0 : decode yB 0 = .ok (.iload_n 1, 1) := by decide +kernel
theorem d1 : decode yB 1 = .ok (.aload_n 0, 1) := by decide +kernel
theorem d2 : decode yB 2 = .ok (.arraylength, 1) := by decide +kernel
theorem d3 : decode yB 3 = .ok (.isub, 1) := by decide +kernel
theorem d4 : decode yB 4 = .ok (.bipush 31, 2) := by decide +kernel
theorem d6 : decode yB 6 = .ok (.iushr, 1) := by decide +kernel
theorem d7 : decode yB 7 = .ok (.i2b, 1) := by decide +kernel
theorem d8 : decode yB 8 = .ok (.ireturn, 1) := by decide +kernel
def site : List Cond := []
def tab : Cond := tabOf yN yB 2 (some .byte) site
def P (d : Addr) (B : Cell) (args : Array Value) (s : State) : Prop := args = #[.ref d, .int (Int32.ofNat B.slots.size)] ∧ Arr .byte d B s
def E (r : Option Value) (s u : State) : Prop := XT.PureE (some (.int 0)) r s u
/-- an array as long as the number of chars: LATIN1 -/
theorem law (l : Launch) (d : Addr) (B : Cell) : Law l yN 2 2 0 0 yB 2 (some .byte) site (P d B) E [] 0 0 := by
  refine Law.of_walk (plainFor_of_name (by decide +kernel)) (by decide +kernel) (by decide +kernel) (by decide) (fun _ _ h => by rw [h.1]; rfl) (fun _ U U' hal hh h => ⟨h.1, h.2.mv hal hh⟩) (fun r U U' V V' h1 hal h2 h => XT.PureE.mv r U U' V V' h1 hal h2 h) ?_
  intro p e s m args below meth c s₁ X0 hexec hbytes hml hret hlk hnm hown hh0 W hP
  obtain ⟨rfl, hB⟩ := hP
  have hB0 := hB.mv X0.warmed.alike hh0
  have c1 : Steps p.tables e below (s₁.setTop (entryFrame m #[.ref d, .int (Int32.ofNat B.slots.size)] 2)) (s₁.setTop (mkF m 0 #[.val (.ref d), .val (.int (Int32.ofNat B.slots.size))] [])) := entry rfl
  have c2 : Steps p.tables e below (s₁.setTop (entryFrame m #[.ref d, .int (Int32.ofNat B.slots.size)] 2)) (s₁.setTop (mkF m 2 #[.val (.ref d), .val (.int (Int32.ofNat B.slots.size))] [.ref d, .int (Int32.ofNat B.slots.size)])) := c1.trans (by
    refine XS.iloadN X0.here hexec rfl (hb hbytes d0) rfl ?_
    refine XS.aloadN X0.here hexec rfl (hb hbytes d1) rfl rfl ?_
    exact Steps.refl _)
  have c3 : Steps p.tables e below (s₁.setTop (entryFrame m #[.ref d, .int (Int32.ofNat B.slots.size)] 2)) (s₁.setTop (mkF m 8 #[.val (.ref d), .val (.int (Int32.ofNat B.slots.size))] [.int (lo8 (ushr (Int32.ofNat B.slots.size - Int32.ofNat B.slots.size) 31))])) := c2.trans (by
    refine X0.alen hexec hB0 rfl rfl (hb hbytes d2) ?_
    refine XS.isub X0.here hexec rfl (hb hbytes d3) rfl ?_
    refine bipushV X0.here hexec rfl 31 (hb hbytes d4) (by decide) ?_
    refine iushr X0.here hexec rfl (hb hbytes d6) rfl ?_
    refine i2b X0.here hexec rfl (hb hbytes d7) rfl ?_
    exact Steps.refl _)
  have e0 : lo8 (ushr (Int32.ofNat B.slots.size - Int32.ofNat B.slots.size) 31) = 0 := by rw [Int32.sub_self]; decide
  rw [e0] at c3
  exact ⟨s₁, some (.int 0), _, _, _, X0, rfl, rfl, rfl, (fun h => by cases h), ⟨rfl, hh0⟩, fun fs hl => c3.trans (X0.ireturnOut hexec hret rfl (Or.inr (Or.inr (Or.inl rfl))) (hb hbytes d8) hl)⟩
end CodL
/-- the String at a is Latin-1 over a new byte[] (the heap's one new cell): the low bytes of the len chars of A from o on; every cell but a is kept -/
def Got (a : Addr) (D : Cell) (fV fC : Field) (A : Cell) (o len : Nat) (r : Option Value) (s u : State) : Prop := r = none ∧ ∃ D' V : Cell, Blank "java/lang/String" a D' u ∧ Same D D' [fV.slot, fC.slot] ∧ D'.slots[fV.slot]? = some (.ref s.heap.size) ∧ D'.slots[fC.slot]? = some (.int 0) ∧ Arr .byte s.heap.size V u ∧ V.vm = .none ∧ u.vm.findClass "[B" = some V.cls ∧ V.slots.size = len ∧ (∀ j, j < len → V.slots[j]? = some (.int (lo8 (cv A (o + j))))) ∧ (∀ (y : Addr) (c : Cell), y ≠ a → s.heap[y]? = some c → u.heap[y]? = some c) ∧ u.heap.size = s.heap.size + 1
theorem Got.mv {a : Addr} {D A : Cell} {fV fC : Field} {o len : Nat} : ∀ r (U U' V V' : State), U'.heap = U.heap → V.vm.Alike V'.vm → V'.heap = V.heap → Got a D fV fC A o len r U V → Got a D fV fC A o len r U' V' :=
  fun r U U' V V' h1 hal h2 ⟨e0, D', X, a1, a2, a3, a4, a5, a6, a7, a8, a9, a10, a11⟩ => ⟨e0, D', X, a1.mv hal h2, a2, by rw [h1]; exact a3, a4, by rw [h1]; exact a5.mv hal h2, a6, by rw [hal.findClass]; exact a7, a8, a9, by rw [h1, h2]; exact a10, by rw [h1, h2]; exact a11⟩
namespace New4
def yN : MethodName := ⟨"java/lang/String", "<init>", "([CIILjava/lang/Void;)V"⟩
abbrev yB : ByteArray := jdk_42_method_149_code
theorem d0 : decode yB 0 = .ok (.aload_n 0, 1) := by decide +kernel
theorem d1 : decode yB 1 = .ok (.invokespecial 1, 3) := by decide +kernel
theorem d4 : decode yB 4 = .ok (.iload_n 3, 1) := by decide +kernel
theorem d5 : decode yB 5 = .ok (.ifCond (.ne) 22, 3) := by decide +kernel
theorem d27 : decode yB 27 = .ok (.getstatic 38, 3) := by decide +kernel
theorem d30 : decode yB 30 = .ok (.ifCond (.eq) 28, 3) := by decide +kernel
theorem d33 : decode yB 33 = .ok (.aload_n 1, 1) := by decide +kernel
theorem d34 : decode yB 34 = .ok (.iload_n 2, 1) := by decide +kernel
theorem d35 : decode yB 35 = .ok (.iload_n 3, 1) := by decide +kernel
theorem d36 : decode yB 36 = .ok (.invokestatic 177, 3) := by decide +kernel
theorem d39 : decode yB 39 = .ok (.astore 5, 2) := by decide +kernel
theorem d41 : decode yB 41 = .ok (.aload_n 0, 1) := by decide +kernel
theorem d42 : decode yB 42 = .ok (.aload 5, 2) := by decide +kernel
theorem d44 : decode yB 44 = .ok (.iload_n 3, 1) := by decide +kernel
theorem d45 : decode yB 45 = .ok (.invokestatic 47, 3) := by decide +kernel
theorem d48 : decode yB 48 = .ok (.putfield 15, 3) := by decide +kernel
theorem d51 : decode yB 51 = .ok (.aload_n 0, 1) := by decide +kernel
theorem d52 : decode yB 52 = .ok (.aload 5, 2) := by decide +kernel
theorem d54 : decode yB 54 = .ok (.putfield 9, 3) := by decide +kernel
theorem d57 : decode yB 57 = .ok (.return_, 1) := by decide +kernel
def site : List Cond := [.fieldLink "java/lang/String" 38 "java/lang/String" "COMPACT_STRINGS" "Z", Cmp3.tab, CodL.tab, .laysFinal "java/lang/String" "java/lang/String" "value" "[B", .fieldLink "java/lang/String" 9 "java/lang/String" "value" "[B", .laysFinal "java/lang/String" "java/lang/String" "coder" "B", .fieldLink "java/lang/String" 15 "java/lang/String" "coder" "B"] ++ objW "java/lang/String" 1 ++ staticW "java/lang/String" 177 Cmp3.yN ++ staticW "java/lang/String" 47 CodL.yN
def tab : Cond := tabOf yN yB 6 none site
def P (a : Addr) (D : Cell) (fV fC : Field) (b : Addr) (A : Cell) (z : Int32) (o len : Nat) (args : Array Value) (s : State) : Prop := args = #[.ref a, .ref b, .int (Int32.ofNat o), .int (Int32.ofNat len), .null] ∧ Blank "java/lang/String" a D s ∧ Found "java/lang/String" "value" "[B" fV s ∧ Found "java/lang/String" "coder" "B" fC s ∧ Ch b A s ∧ StaticIs s "java/lang/String" "COMPACT_STRINGS" "Z" (.int z) ∧ ¬ z = 0 ∧ 0 < len ∧ o + len ≤ A.slots.size ∧ len ≤ 536870912 ∧ ∀ i, i < len → ¬ 255 < cv A (o + i)
def E (a : Addr) (D : Cell) (fV fC : Field) (A : Cell) (o len : Nat) (r : Option Value) (s u : State) : Prop := Got a D fV fC A o len r s u
/-- len > 0, no char of the range above 255: a Latin-1 String of their low bytes -/
theorem law (l : Launch) (a : Addr) (D : Cell) (fV fC : Field) (b : Addr) (A : Cell) (z : Int32) (o len : Nat) : Law l yN 5 4 2 35 yB 6 none site (P a D fV fC b A z o len) (E a D fV fC A o len) [⟨a, fC.slot⟩, ⟨a, fV.slot⟩] 1 len := by
  refine Law.of_walk (plainFor_of_name (by decide +kernel)) (by decide +kernel) (by decide +kernel) (by decide) (fun _ _ h => by rw [h.1]; rfl) (fun _ U U' hal hh h => ⟨h.1, h.2.1.mv hal hh, h.2.2.1.al hal, h.2.2.2.1.al hal, h.2.2.2.2.1.mv hal hh, h.2.2.2.2.2.1.there hal hh, h.2.2.2.2.2.2⟩) (fun r U U' V V' h1 hal h2 h => Got.mv r U U' V V' h1 hal h2 h) ?_
  intro p e s m args below meth c s₁ X0 hexec hbytes hml hret hlk hnm hown hh0 W hP
  obtain ⟨rfl, hB, f1, f2, hA, s1, hz, l0, l1, l2, hp⟩ := hP
  have a31 := hA.1.2.2.2
  have c1 : Steps p.tables e below (s₁.setTop (entryFrame m #[.ref a, .ref b, .int (Int32.ofNat o), .int (Int32.ofNat len), .null] 6)) (s₁.setTop (mkF m 0 #[.val (.ref a), .val (.ref b), .val (.int (Int32.ofNat o)), .val (.int (Int32.ofNat len)), .val .null, .unset] [])) := entry rfl
  have c2 : Steps p.tables e below (s₁.setTop (entryFrame m #[.ref a, .ref b, .int (Int32.ofNat o), .int (Int32.ofNat len), .null] 6)) (s₁.setTop (mkF m 1 #[.val (.ref a), .val (.ref b), .val (.int (Int32.ofNat o)), .val (.int (Int32.ofNat len)), .val .null, .unset] [.ref a])) := c1.trans (by
    refine XS.aloadN X0.here hexec rfl (hb hbytes d0) rfl rfl ?_
    exact Steps.refl _)
  obtain ⟨T3, X3, q3, st3⟩ := X0.oinit hexec hown (wks W (objW "java/lang/String" 1)) (g := (mkF m 1 #[.val (.ref a), .val (.ref b), .val (.int (Int32.ofNat o)), .val (.int (Int32.ofNat len)), .val .null, .unset] [.ref a])) rfl (by rw [hml]; rfl) (rest := []) rfl (hb hbytes d1) (W := 0) (by show 2 * 0 + 0 ≤ _; decide) (Nat.le_of_ble_eq_true rfl) (Nat.le_of_ble_eq_true rfl)
  have hh3 := q3.trans hh0
  have c4 : Steps p.tables e below (s₁.setTop (entryFrame m #[.ref a, .ref b, .int (Int32.ofNat o), .int (Int32.ofNat len), .null] 6)) (T3.setTop (mkF m 27 #[.val (.ref a), .val (.ref b), .val (.int (Int32.ofNat o)), .val (.int (Int32.ofNat len)), .val .null, .unset] [])) := (c2.trans (st3 _ (Steps.refl _))).trans (by
    refine XS.iloadN X3.here hexec rfl (hb hbytes d4) rfl ?_
    refine XS.ifYes X3.here hexec rfl (pc0 := 5) rfl (hb hbytes d5) rfl (i0_ne_t (nz32 (by omega) l0)) (by decide) rfl ?_
    exact Steps.refl _)
  obtain ⟨T5, X5, q5, st5⟩ := X3.sget hexec hown (wk W (.fieldLink "java/lang/String" 38 "java/lang/String" "COMPACT_STRINGS" "Z")) s1 (fun _ _ h => by rw [hh3]; exact h) (g := (mkF m 27 #[.val (.ref a), .val (.ref b), .val (.int (Int32.ofNat o)), .val (.int (Int32.ofNat len)), .val .null, .unset] [])) rfl (hb hbytes d27)
  have hh5 := q5.trans hh3
  have c6 : Steps p.tables e below (s₁.setTop (entryFrame m #[.ref a, .ref b, .int (Int32.ofNat o), .int (Int32.ofNat len), .null] 6)) (T5.setTop (mkF m 30 #[.val (.ref a), .val (.ref b), .val (.int (Int32.ofNat o)), .val (.int (Int32.ofNat len)), .val .null, .unset] [.int z])) := c4.trans (st5 _ (Steps.refl _))
  have c7 : Steps p.tables e below (s₁.setTop (entryFrame m #[.ref a, .ref b, .int (Int32.ofNat o), .int (Int32.ofNat len), .null] 6)) (T5.setTop (mkF m 36 #[.val (.ref a), .val (.ref b), .val (.int (Int32.ofNat o)), .val (.int (Int32.ofNat len)), .val .null, .unset] [.int (Int32.ofNat len), .int (Int32.ofNat o), .ref b])) := c6.trans (by
    refine XS.ifNo X5.here hexec rfl (hb hbytes d30) rfl (i0_eq_f hz) ?_
    refine XS.aloadN X5.here hexec rfl (hb hbytes d33) rfl rfl ?_
    refine XS.iloadN X5.here hexec rfl (hb hbytes d34) rfl ?_
    refine XS.iloadN X5.here hexec rfl (hb hbytes d35) rfl ?_
    exact Steps.refl _)
  obtain ⟨v8, T8, X8, E8, g8⟩ := X5.callS hexec (Cmp3.law l b A o len) hown (wks W (staticW "java/lang/String" 177 Cmp3.yN)) (wk W Cmp3.tab) (W := 0) (Nat.le_of_ble_eq_true rfl) (Nat.le_of_ble_eq_true rfl) (Nat.le_refl _) (by show 0 + len ≤ len; omega) (g := (mkF m 36 #[.val (.ref a), .val (.ref b), .val (.int (Int32.ofNat o)), .val (.int (Int32.ofNat len)), .val .null, .unset] [.int (Int32.ofNat len), .int (Int32.ofNat o), .ref b])) rfl (by rw [hml]; rfl) c7 (argsL := [.ref b, .int (Int32.ofNat o), .int (Int32.ofNat len)]) (rest := []) rfl rfl (by show 2 * 0 + 0 ≤ _; decide) (hb hbytes d36) (⟨rfl, hA.mv X5.warmed.alike hh5, l1, l2, hp⟩)
  obtain ⟨e8, z8⟩ := E8
  obtain ⟨rfl, N, n1, n2, n3, n4, n5, n6⟩ := NewArr.mv _ T5 s _ _ hh5.symm (Vm.Alike.refl _) rfl e8
  rw [hh5] at z8
  have hB1 := hB.keep X8.warmed.alike (n6 _ _ hB.1)
  have hne : s.heap.size ≠ a := (Nat.ne_of_lt (Array.getElem?_eq_some_iff.mp hB.1).1).symm
  have c9 : Steps p.tables e below (s₁.setTop (entryFrame m #[.ref a, .ref b, .int (Int32.ofNat o), .int (Int32.ofNat len), .null] 6)) (T8.setTop (mkF m 39 #[.val (.ref a), .val (.ref b), .val (.int (Int32.ofNat o)), .val (.int (Int32.ofNat len)), .val .null, .unset] [.ref s.heap.size])) := g8
  have c10 : Steps p.tables e below (s₁.setTop (entryFrame m #[.ref a, .ref b, .int (Int32.ofNat o), .int (Int32.ofNat len), .null] 6)) (T8.setTop (mkF m 45 #[.val (.ref a), .val (.ref b), .val (.int (Int32.ofNat o)), .val (.int (Int32.ofNat len)), .val .null, .val (.ref s.heap.size)] [.int (Int32.ofNat N.slots.size), .ref s.heap.size, .ref a])) := by
    have hc : Steps p.tables e below (s₁.setTop (entryFrame m #[.ref a, .ref b, .int (Int32.ofNat o), .int (Int32.ofNat len), .null] 6)) (T8.setTop (mkF m 45 #[.val (.ref a), .val (.ref b), .val (.int (Int32.ofNat o)), .val (.int (Int32.ofNat len)), .val .null, .val (.ref s.heap.size)] [.int (Int32.ofNat len), .ref s.heap.size, .ref a])) := c9.trans (by
      refine XS.astore X8.here hexec rfl (hb hbytes d39) rfl rfl rfl ?_
      refine XS.aloadN X8.here hexec rfl (hb hbytes d41) rfl rfl ?_
      refine XS.aload X8.here hexec rfl (hb hbytes d42) rfl rfl ?_
      refine XS.iloadN X8.here hexec rfl (hb hbytes d44) rfl ?_
      exact Steps.refl _)
    rw [n4]; exact hc
  obtain ⟨v11, T11, X11, E11, g11⟩ := X8.callS hexec (CodL.law l s.heap.size N) hown (wks W (staticW "java/lang/String" 47 CodL.yN)) (wk W CodL.tab) (W := 1) (Nat.le_of_ble_eq_true rfl) (Nat.le_of_ble_eq_true rfl) (Nat.le_refl _) (by show 0 + len + 0 ≤ len; omega) (g := (mkF m 45 #[.val (.ref a), .val (.ref b), .val (.int (Int32.ofNat o)), .val (.int (Int32.ofNat len)), .val .null, .val (.ref s.heap.size)] [.int (Int32.ofNat N.slots.size), .ref s.heap.size, .ref a])) rfl (by rw [hml]; rfl) c10 (argsL := [.ref s.heap.size, .int (Int32.ofNat N.slots.size)]) (rest := [.ref a]) rfl rfl (by show 2 * 0 + (1 + 0) ≤ _; decide) (hb hbytes d45) (⟨rfl, n1⟩)
  obtain ⟨rfl, q11⟩ := E11
  have hB11 := hB1.mv (X8.warmed.alike.symm.trans X11.warmed.alike) q11
  have c12 : Steps p.tables e below (s₁.setTop (entryFrame m #[.ref a, .ref b, .int (Int32.ofNat o), .int (Int32.ofNat len), .null] 6)) (T11.setTop (mkF m 48 #[.val (.ref a), .val (.ref b), .val (.int (Int32.ofNat o)), .val (.int (Int32.ofNat len)), .val .null, .val (.ref s.heap.size)] [.int 0, .ref a])) := g11
  obtain ⟨T13, X13, p13, bl13, sl13, st13⟩ := X11.finit hexec hown (wk W (.fieldLink "java/lang/String" 15 "java/lang/String" "coder" "B")) (Or.inr ⟨_, (wk W (.laysFinal "java/lang/String" "java/lang/String" "coder" "B"))⟩) (Or.inl ⟨rfl, hnm⟩) f2 (Or.inl rfl) hB11 (t := .byte) (by decide +kernel) rfl (g := (mkF m 48 #[.val (.ref a), .val (.ref b), .val (.int (Int32.ofNat o)), .val (.int (Int32.ofNat len)), .val .null, .val (.ref s.heap.size)] [.int 0, .ref a])) rfl (rest := []) rfl (hb hbytes d48)
  have c14 : Steps p.tables e below (s₁.setTop (entryFrame m #[.ref a, .ref b, .int (Int32.ofNat o), .int (Int32.ofNat len), .null] 6)) (T13.setTop (mkF m 54 #[.val (.ref a), .val (.ref b), .val (.int (Int32.ofNat o)), .val (.int (Int32.ofNat len)), .val .null, .val (.ref s.heap.size)] [.ref s.heap.size, .ref a])) := (c12.trans (st13 _ (Steps.refl _))).trans (by
    refine XS.aloadN X13.here hexec rfl (hb hbytes d51) rfl rfl ?_
    refine XS.aload X13.here hexec rfl (hb hbytes d52) rfl rfl ?_
    exact Steps.refl _)
  obtain ⟨T15, X15, p15, bl15, sl15, st15⟩ := X13.finit hexec hown (wk W (.fieldLink "java/lang/String" 9 "java/lang/String" "value" "[B")) (Or.inr ⟨_, (wk W (.laysFinal "java/lang/String" "java/lang/String" "value" "[B"))⟩) (Or.inl ⟨rfl, hnm⟩) f1 (Or.inl rfl) bl13 (t := (.array .byte)) (by decide +kernel) rfl (g := (mkF m 54 #[.val (.ref a), .val (.ref b), .val (.int (Int32.ofNat o)), .val (.int (Int32.ofNat len)), .val .null, .val (.ref s.heap.size)] [.ref s.heap.size, .ref a])) rfl (rest := []) rfl (hb hbytes d54)
  have c16 : Steps p.tables e below (s₁.setTop (entryFrame m #[.ref a, .ref b, .int (Int32.ofNat o), .int (Int32.ofNat len), .null] 6)) (T15.setTop (mkF m 57 #[.val (.ref a), .val (.ref b), .val (.int (Int32.ofNat o)), .val (.int (Int32.ofNat len)), .val .null, .val (.ref s.heap.size)] [])) := c14.trans (st15 _ (Steps.refl _))
  have ap := apart (Or.inr ⟨_, (wk W (.laysFinal "java/lang/String" "java/lang/String" "value" "[B"))⟩) (Or.inr ⟨_, (wk W (.laysFinal "java/lang/String" "java/lang/String" "coder" "B"))⟩) f1 f2 (t₁ := .array .byte) (t₂ := .byte) (by decide +kernel) (by decide +kernel) (by decide)
  have al := X8.warmed.alike.symm.trans X15.warmed.alike
  have n7 : T11.heap[s.heap.size]? = some N := by rw [q11]; exact n1.1
  exact ⟨T15, none, _, _, _, X15, by simp, rfl, by omega, (fun _ => rfl), ⟨rfl, _, N, bl15, ((Same.refl D _).set _ (by simp)).set _ (by simp), sl15, (Cell.slots_setSlot_ne _ ap).trans sl13, n1.keep al (p15.other hne (p13.other hne n7)), n2, by rw [al.findClass]; exact n3, n4, n5, fun y c h1 h2 => p15.other h1 (p13.other h1 (by rw [q11]; exact n6 y c h2)), by rw [p15.2.2, p13.2.2, q11]; exact z8⟩, fun fs hl => c16.trans (X15.returnOut hexec hret (hb hbytes d57) hl)⟩
end New4
namespace New1
def yN : MethodName := ⟨"java/lang/String", "<init>", "([C)V"⟩
abbrev yB : ByteArray := jdk_42_method_3_code
theorem d0 : decode yB 0 = .ok (.aload_n 0, 1) := by decide +kernel
theorem d1 : decode yB 1 = .ok (.aload_n 1, 1) := by decide +kernel
theorem d2 : decode yB 2 = .ok (.iconst 0, 1) := by decide +kernel
theorem d3 : decode yB 3 = .ok (.aload_n 1, 1) := by decide +kernel
theorem d4 : decode yB 4 = .ok (.arraylength, 1) := by decide +kernel
theorem d5 : decode yB 5 = .ok (.aconst_null, 1) := by decide +kernel
theorem d6 : decode yB 6 = .ok (.invokespecial 27, 3) := by decide +kernel
theorem d9 : decode yB 9 = .ok (.return_, 1) := by decide +kernel
def site : List Cond := [New4.tab] ++ initW "java/lang/String" 27 New4.yN
def tab : Cond := tabOf yN yB 2 none site
def P (a : Addr) (D : Cell) (fV fC : Field) (b : Addr) (A : Cell) (z : Int32) (args : Array Value) (s : State) : Prop := args = #[.ref a, .ref b] ∧ Blank "java/lang/String" a D s ∧ Found "java/lang/String" "value" "[B" fV s ∧ Found "java/lang/String" "coder" "B" fC s ∧ Ch b A s ∧ StaticIs s "java/lang/String" "COMPACT_STRINGS" "Z" (.int z) ∧ ¬ z = 0 ∧ 0 < A.slots.size ∧ A.slots.size ≤ 536870912 ∧ ∀ i, i < A.slots.size → ¬ 255 < cv A i
def E (a : Addr) (D : Cell) (fV fC : Field) (A : Cell) (r : Option Value) (s u : State) : Prop := Got a D fV fC A 0 A.slots.size r s u
/-- new String(chars), not empty, no char above 255: a Latin-1 String of their low bytes -/
theorem law (l : Launch) (a : Addr) (D : Cell) (fV fC : Field) (b : Addr) (A : Cell) (z : Int32) : Law l yN 2 1 3 52 yB 2 none site (P a D fV fC b A z) (E a D fV fC A) [⟨a, fC.slot⟩, ⟨a, fV.slot⟩] 1 A.slots.size := by
  refine Law.of_walk (plainFor_of_name (by decide +kernel)) (by decide +kernel) (by decide +kernel) (by decide) (fun _ _ h => by rw [h.1]; rfl) (fun _ U U' hal hh h => ⟨h.1, h.2.1.mv hal hh, h.2.2.1.al hal, h.2.2.2.1.al hal, h.2.2.2.2.1.mv hal hh, h.2.2.2.2.2.1.there hal hh, h.2.2.2.2.2.2⟩) (fun r U U' V V' h1 hal h2 h => Got.mv r U U' V V' h1 hal h2 h) ?_
  intro p e s m args below meth c s₁ X0 hexec hbytes hml hret hlk hnm hown hh0 W hP
  obtain ⟨rfl, hB, f1, f2, hA, s1, hz, l0, l2, hp⟩ := hP
  have c1 : Steps p.tables e below (s₁.setTop (entryFrame m #[.ref a, .ref b] 2)) (s₁.setTop (mkF m 0 #[.val (.ref a), .val (.ref b)] [])) := entry rfl
  have c2 : Steps p.tables e below (s₁.setTop (entryFrame m #[.ref a, .ref b] 2)) (s₁.setTop (mkF m 6 #[.val (.ref a), .val (.ref b)] [.null, .int (Int32.ofNat A.slots.size), .int 0, .ref b, .ref a])) := c1.trans (by
    refine XS.aloadN X0.here hexec rfl (hb hbytes d0) rfl rfl ?_
    refine XS.aloadN X0.here hexec rfl (hb hbytes d1) rfl rfl ?_
    refine iconstV X0.here hexec rfl 0 (hb hbytes d2) (by decide) ?_
    refine XS.aloadN X0.here hexec rfl (hb hbytes d3) rfl rfl ?_
    refine X0.alen hexec (hA.1.mv X0.warmed.alike hh0) rfl rfl (hb hbytes d4) ?_
    refine XS.aconstNull X0.here hexec rfl (hb hbytes d5) ?_
    exact Steps.refl _)
  obtain ⟨v3, T3, X3, E3, g3⟩ := X0.callN hexec (New4.law l a D fV fC b A z 0 A.slots.size) rfl hown (wks W (initW "java/lang/String" 27 New4.yN)) (W New4.tab (by simp only [site, List.mem_cons, List.mem_append, true_or, or_true])) (W := 0) (Nat.le_of_ble_eq_true rfl) (Nat.le_of_ble_eq_true rfl) (Nat.le_refl _) (by show 0 + A.slots.size ≤ A.slots.size; omega) (g := (mkF m 6 #[.val (.ref a), .val (.ref b)] [.null, .int (Int32.ofNat A.slots.size), .int (Int32.ofNat 0), .ref b, .ref a])) rfl (by rw [hml]; rfl) c2 (argsL := [.ref b, .int (Int32.ofNat 0), .int (Int32.ofNat A.slots.size), .null]) (rest := []) rfl rfl (by show 2 * 0 + 0 ≤ _; decide) (hb hbytes d6) (⟨rfl, hB.mv X0.warmed.alike hh0, f1.al X0.warmed.alike, f2.al X0.warmed.alike, hA.mv X0.warmed.alike hh0, s1.there X0.warmed.alike hh0, hz, l0, by omega, l2, fun i hi => by rw [Nat.zero_add]; exact hp i hi⟩)
  have e0 := Got.mv _ s₁ s _ _ hh0.symm (Vm.Alike.refl _) rfl E3
  obtain rfl := e0.1
  have c4 : Steps p.tables e below (s₁.setTop (entryFrame m #[.ref a, .ref b] 2)) (T3.setTop (mkF m 9 #[.val (.ref a), .val (.ref b)] [])) := g3
  exact ⟨T3, none, _, _, _, X3, by simp, rfl, by omega, (fun _ => rfl), e0, fun fs hl => c4.trans (X3.returnOut hexec hret (hb hbytes d9) hl)⟩
theorem pays {l : Launch} {R : Room} {p : Program} {e : Env} {below : List Frame} {s : State} {sargs : Array Value} {len W : Nat} (a : Addr) (D : Cell) (fV fC : Field) (b : Addr) (A : Cell) (z : Int32) (htab : tab.before sargs s = true) (hfr : 4 ≤ R.frames) (hlo : W + 65 ≤ R.locals) :
    Back l R p e below s sargs yN len W (fun A₁ a₁ => A₁.cells + 1 ≤ R.cells ∧ A₁.slots + A.slots.size ≤ R.slots ∧ P a D fV fC b A z a₁ A₁.U) (fun A₁ _ v₁ B₁ => E a D fV fC A v₁ A₁.U B₁.U ∧ B₁.locs = A₁.locs ++ [⟨a, fC.slot⟩, ⟨a, fV.slot⟩] ∧ B₁.cells = A₁.cells + 1 ∧ B₁.slots = A₁.slots + A.slots.size) :=
  (law l a D fV fC b A z).pays htab hfr (by omega)
end New1
end StrChars
namespace StrChars.Road
open Jvm Sem ClassFile Op Lib Jvm.Stand Jvm.Free Jvm.Free.XT
open Jvm.Lib.Cold (StaticIs)
abbrev ST : String := "java/lang/String"
/-- every table word that New1's law asks, flat -/
abbrev words : List Jvm.Cond := [.code New1.yN New1.yB 2 none, .initialized ST, .methodLink ST 27 New4.yN, .instanceMethod New4.yN,
  .code New4.yN New4.yB 6 none, .fieldLink ST 38 ST "COMPACT_STRINGS" "Z", .laysFinal ST ST "value" "[B", .fieldLink ST 9 ST "value" "[B", .laysFinal ST ST "coder" "B", .fieldLink ST 15 ST "coder" "B",
  .methodLink ST 1 Lib.objectInit, .instanceMethod Lib.objectInit, .code Lib.objectInit ⟨#[0xb1]⟩ 1 none, .methodLink ST 177 Cmp3.yN, .static Cmp3.yN, .methodLink ST 47 CodL.yN, .static CodL.yN,
  .code Cmp3.yN Cmp3.yB 6 (some (.array .byte)), .initialized U16, .arrayClass .byte, .methodLink U16 115 Cmp5.yN, .static Cmp5.yN, .code Cmp5.yN Cmp5.yB 7 (some .int), .code CodL.yN CodL.yB 2 (some .byte)]
theorem tab_of {a : Array Value} {s : State} (h : ∀ w ∈ words, w.before a s = true) : New1.tab.before a s = true := by
  have h5 : Cmp5.tab.before a s = true := unparts (wk h (.code Cmp5.yN Cmp5.yB 7 (some .int))) (wks h (.initialized Cmp5.yN.cls :: Cmp5.site))
  have hc : CodL.tab.before a s = true := unparts (wk h (.code CodL.yN CodL.yB 2 (some .byte))) (wks h (.initialized CodL.yN.cls :: CodL.site))
  have q5 : ∀ w ∈ Cmp5.tab :: words, w.before a s = true := fun w hw => (List.mem_cons.mp hw).elim (fun e => e ▸ h5) (h w)
  have h3 : Cmp3.tab.before a s = true := unparts (wk q5 (.code Cmp3.yN Cmp3.yB 6 (some (.array .byte)))) (wks q5 (.initialized Cmp3.yN.cls :: Cmp3.site))
  have q3 : ∀ w ∈ Cmp3.tab :: CodL.tab :: words, w.before a s = true := fun w hw => (List.mem_cons.mp hw).elim (fun e => e ▸ h3) fun hw => (List.mem_cons.mp hw).elim (fun e => e ▸ hc) (h w)
  have h4 : New4.tab.before a s = true := unparts (wk q3 (.code New4.yN New4.yB 6 none)) (wks q3 (.initialized New4.yN.cls :: New4.site))
  have q4 : ∀ w ∈ New4.tab :: words, w.before a s = true := fun w hw => (List.mem_cons.mp hw).elim (fun e => e ▸ h4) (h w)
  exact unparts (wk q4 (.code New1.yN New1.yB 2 none)) (wks q4 (.initialized New1.yN.cls :: New1.site))
/-- the words ride from the start Z to the walk's own state -/
theorem moved {Z s : State} {a0 args : Array Value} (hZ : Z.Warmed39 s.vm) (hw : ∀ d ∈ words, d.before a0 Z = true) : ∀ d ∈ words, d.before args s = true := fun d hd => by
  have q := hw d hd
  have t : ∀ d ∈ words, d = .arrayClass .byte ∨ (d.onTables && d.keepsFace) = true := by decide +kernel
  rcases t d hd with rfl | t
  · exact RoadKit.mvA hZ q
  · exact RoadKit.mv hZ q t
/-- WHAT COMES BACK, over the tables of the start Z: h the heap at the call, h' behind it -/
def Q (Z : State) (x : Addr) (A : Cell) (h : Heap) (v : Option Value) (h' : Heap) (L : List Loc) : Prop := v = none ∧ (∀ y ∈ L, y.base = x) ∧ RoadKit.Keep h h' [x] ∧ h'.size = h.size + 1 ∧ RoadKit.Exa Z h' x ST ∧ RoadKit.Fld Z h' x ST "value" "[B" (.ref h.size) ∧ RoadKit.Fld Z h' x ST "coder" "B" (.int 0) ∧
  (∃ V : Cell, RoadKit.Arr Z h' h.size V .byte ∧ V.vm = .none ∧ Z.vm.findClass "[B" = some V.cls ∧ V.slots.size = A.slots.size ∧ ∀ j, j < A.slots.size → V.slots[j]? = some (.int (lo8 (cv A j)))) ∧
  ∀ (O n d : String) (w : Value), RoadKit.Fld Z h x O n d w → RoadKit.slotOf Z O n d ≠ RoadKit.slotOf Z ST "value" "[B" → RoadKit.slotOf Z O n d ≠ RoadKit.slotOf Z ST "coder" "B" → RoadKit.Fld Z h' x O n d w
/-- **new String(chars) AT A CALL, IN THE ROAD'S FORM**: for specialBack behind newO: x the fresh String, b the char[] with the cell A -/
theorem back {p : Program} {l : Launch} {e : Env} {R : Room} {s : State} {args : Array Value} {below : List Frame} {len W : Nat} {Z : State} {a0 : Array Value} {h : Heap} (hZ : Z.Warmed39 s.vm) (hw : ∀ d ∈ words, d.before a0 Z = true) {kI : Nat} (wi : (Jvm.Cond.instantiable ST kI).before a0 Z = true)
    {x b : Addr} {A : Cell} {z : Int32} {v0 c0 : Value} (E : RoadKit.Exa Z h x ST) (V : RoadKit.Fld Z h x ST "value" "[B" v0) (C : RoadKit.Fld Z h x ST "coder" "B" c0) (K : RoadKit.Arr Z h b A .char) (hty : Typed .char A) (S : RoadKit.Sta Z h ST "COMPACT_STRINGS" "Z" (.int z)) (hz : ¬ z = 0)
    (l0 : 0 < A.slots.size) (l2 : A.slots.size ≤ 536870912) (hp : ∀ i, i < A.slots.size → ¬ 255 < cv A i) (hfr : 4 ≤ R.frames) (hlo : W + 65 ≤ R.locals) :
    Back l R p e below s args New1.yN len W (fun P a => a = #[.ref x, .ref b] ∧ P.U.heap = h ∧ P.cells + 1 ≤ R.cells ∧ P.slots + A.slots.size ≤ R.slots)
      (fun P _ v B => ∃ L, Q Z x A h v B.U.heap L ∧ B.locs = P.locs ++ L ∧ B.cells = P.cells + 1 ∧ B.slots = P.slots + A.slots.size) := by
  intro m meth c P g ig mk a X hg hsize hdg hW hn hp'
  obtain ⟨rfl, rfl, r1, r2⟩ := hp'
  have al : Z.vm.Alike P.U.vm := hZ.alike.trans X.warmed.alike
  obtain ⟨D, cfV, kV, iV, fV, hD, gV, stV, knV, obV, asV, slV⟩ := id V
  obtain ⟨D', cfC, kC, iC, fC, hD', gC, stC, -, -, asC, slC⟩ := id C
  cases hD.symm.trans hD'
  obtain ⟨D2, kD, e1, e2, e3, e4, e5⟩ := id E
  cases hD.symm.trans e1
  obtain ⟨c2, k2, i1, i2, i3, -⟩ := Cond.instantiable_spec wi
  cases e2.symm.trans i1
  cases e3.symm.trans i2
  obtain ⟨kU, u1, u2⟩ := al.2.2 _ _ e3
  have hB : Blank ST x D P.U := ⟨hD, ⟨knV, fun q hq => by rw [hq] at obV; cases obV⟩, by rw [al.findClass]; exact e2, kU, u1, by rw [u2]; exact i3, by rw [u2]; exact e5 i3⟩
  have F1 : Found ST "value" "[B" fV P.U := ⟨SBG.found_only al ⟨cfV, kV, iV, gV⟩, stV⟩
  have F2 : Found ST "coder" "B" fC P.U := ⟨SBG.found_only al ⟨cfC, kC, iC, gC⟩, stC⟩
  have hA : Ch b A P.U := ⟨⟨K.1, State.isArrayOf_alike al K.2.1, K.2.2, by omega⟩, hty⟩
  have hS : StaticIs P.U ST "COMPACT_STRINGS" "Z" (.int z) := by
    obtain ⟨cfS, iS, kS, fS, st, cS, t1, t2, t3, t4, t5, t6, t7⟩ := S
    exact StaticIs.there (s := { Z with heap := P.U.heap }) ⟨cfS, iS, kS, fS, st, cS, t1, t2, t3, t4, t5, (fun q => by rw [q] at t6; cases t6), t7⟩ al rfl
  obtain ⟨v, B, X', ⟨⟨hv, E', V', q1, q2, q3, q4, q5, q6, q7, q8, q9, q10, q11⟩, hl, hc, hs⟩, st⟩ := New1.pays x D fV fC b A z (tab_of (moved hZ hw)) hfr hlo m meth c P g ig mk _ X hg hsize hdg hW hn ⟨r1, r2, rfl, hB, F1, F2, hA, hS, hz, l0, l2, hp⟩
  have al' : Z.vm.Alike B.U.vm := hZ.alike.trans X'.warmed.alike
  have hsz : E'.slots.size = D.slots.size := by
    obtain ⟨-, -, -, kB, w1, w2, w3⟩ := q1
    obtain ⟨kB', y1, y2⟩ := al'.2.2 _ _ e3
    rw [q2.2.1] at w1
    cases w1.symm.trans y1
    rw [w3, e5 i3, y2]
  refine ⟨v, B, X', ⟨_, ⟨hv, ?_, ⟨by omega, fun y cy hy hn' => q10 y cy (by simpa using hn') hy, fun y cy hy => ?_⟩, q11, ⟨E', _, q1.1, by rw [q2.2.1]; exact e2, by rw [q2.2.1]; exact e3, by rw [q2.1]; exact obV, fun _ => by rw [hsz]; exact e5 i3⟩,
    ⟨E', cfV, kV, iV, fV, q1.1, gV, stV, by rw [q2.1]; exact knV, by rw [q2.1]; exact obV, by rw [q2.2.1]; exact asV, q3⟩, ⟨E', cfC, kC, iC, fC, q1.1, gC, stC, by rw [q2.1]; exact knV, by rw [q2.1]; exact obV, by rw [q2.2.1]; exact asC, q4⟩,
    ⟨V', ⟨q5.1, State.isArrayOf_alike al'.symm q5.2.1, q5.2.2.1⟩, q6, by rw [← al'.findClass]; exact q7, q8, fun j hj => by have := q9 j hj; rwa [Nat.zero_add] at this⟩, fun O n d w F n1 n2 => ?_⟩, hl, hc, hs⟩, st⟩
  · intro y hy
    simp only [List.mem_cons, List.not_mem_nil, or_false] at hy
    rcases hy with rfl | rfl <;> rfl
  · by_cases q : y = x
    · subst q
      cases hD.symm.trans hy
      exact ⟨E', q1.1, q2.2.1, q2.1, hsz⟩
    · exact ⟨cy, q10 y cy q hy, rfl, rfl, rfl⟩
  · obtain ⟨D3, cf, k, i, f, g1, g2, g3, g4, g5, g6, g7⟩ := F
    cases hD.symm.trans g1
    simp only [RoadKit.slotOf, g2, gV, gC, Option.map_some, Option.getD_some] at n1 n2
    exact ⟨E', cf, k, i, f, q1.1, g2, g3, by rw [q2.1]; exact g4, by rw [q2.1]; exact g5, by rw [q2.2.1]; exact g6, by rw [q2.2.2 f.slot (by simp [n1, n2])]; exact g7⟩
end StrChars.Road
namespace StrChars.Road
open Jvm Sem ClassFile Op Lib Jvm.Stand Jvm.Free Jvm.Free.XT
/-- WHAT COMES BACK, the byte[] as a list of values -/
def QA (Z : State) (x : Addr) (zn : Int32) (cs : List Int32) (h : Heap) (v : Option Value) (h' : Heap) (L : List Loc) : Prop := v = none ∧ (∀ y ∈ L, y.base = x) ∧ RoadKit.Keep h h' [x] ∧ h'.size = h.size + 1 ∧ RoadKit.Exa Z h' x ST ∧ RoadKit.Fld Z h' x ST "value" "[B" (.ref h.size) ∧ RoadKit.Fld Z h' x ST "coder" "B" (.int 0) ∧
  (∃ kb, Z.vm.findClass "[B" = some kb ∧ RoadKit.Arv Z h' h.size kb .byte zn (cs.map fun c => .int (lo8 c)) (.int 0)) ∧
  ∀ (O n d : String) (w : Value), RoadKit.Fld Z h x O n d w → RoadKit.slotOf Z O n d ≠ RoadKit.slotOf Z ST "value" "[B" → RoadKit.slotOf Z O n d ≠ RoadKit.slotOf Z ST "coder" "B" → RoadKit.Fld Z h' x O n d w
/-- **new String(chars) AT A CALL, THE ARRAYS AS LISTS**: the char[] at b holds cs, not empty, no char above 255 -/
theorem backArv {p : Program} {l : Launch} {e : Env} {R : Room} {s : State} {args : Array Value} {below : List Frame} {len W : Nat} {Z : State} {a0 : Array Value} {h : Heap} (hZ : Z.Warmed39 s.vm) (hw : ∀ d ∈ words, d.before a0 Z = true) {kI : Nat} (wi : (Jvm.Cond.instantiable ST kI).before a0 Z = true)
    {x b : Addr} {k : ClassId} {zn z : Int32} {cs : List Int32} {dv v0 c0 : Value} (E : RoadKit.Exa Z h x ST) (V : RoadKit.Fld Z h x ST "value" "[B" v0) (C : RoadKit.Fld Z h x ST "coder" "B" c0) (K : RoadKit.Arv Z h b k .char zn (cs.map Value.int) dv) (S : RoadKit.Sta Z h ST "COMPACT_STRINGS" "Z" (.int z)) (hz : ¬ z = 0)
    (hlen : zn.toNatClampNeg = cs.length) (h0 : 0 < cs.length) (hbig : cs.length ≤ 536870912) (hall : ∀ c ∈ cs, ¬ 255 < c) (hfr : 4 ≤ R.frames) (hlo : W + 65 ≤ R.locals) :
    Back l R p e below s args New1.yN len W (fun P a => a = #[.ref x, .ref b] ∧ P.U.heap = h ∧ P.cells + 1 ≤ R.cells ∧ P.slots + cs.length ≤ R.slots)
      (fun P _ v B => ∃ L, QA Z x zn cs h v B.U.heap L ∧ B.locs = P.locs ++ L ∧ B.cells = P.cells + 1 ∧ B.slots = P.slots + cs.length) := by
  obtain ⟨A, K1, K2, K3, K4, K5, K6⟩ := K
  have e : A.slots.size = cs.length := K3.trans hlen
  have hat : ∀ (i : Nat) (hi : i < cs.length), A.slots[i]? = some (.int cs[i]) := fun i hi => by rw [K5 i (by omega)]; simp [List.getD_eq_getElem?_getD, hi]
  have hcv : ∀ (i : Nat) (hi : i < cs.length), cv A i = cs[i] := fun i hi => by unfold cv; rw [hat i hi]
  have hty : Typed .char A := fun i v hv => by
    have hi : i < A.slots.size := (Array.getElem?_eq_some_iff.mp hv).1
    have q := K5 i hi
    rw [hv] at q
    rw [Option.some.inj q]
    exact K6 i hi
  refine Back.mono (back hZ hw wi E V C K1 hty S hz (by omega) (by omega) (fun i hi => by rw [hcv i (by omega)]; exact hall _ (List.getElem_mem _)) hfr hlo) (fun P a hp => ⟨hp.1, hp.2.1, hp.2.2.1, by rw [e]; exact hp.2.2.2⟩) (fun P a v B hp hq => ?_)
  obtain ⟨L, ⟨q1, q2, q3, q4, q5, q6, q7, ⟨V', v1, v2, v3, v4, v5⟩, q9⟩, hl, hc, hs⟩ := hq
  refine ⟨L, ⟨q1, q2, q3, q4, q5, q6, q7, ⟨V'.cls, v3, V', v1, rfl, by rw [v4, e, hlen], K4, fun i hi => ?_, fun i hi => ?_⟩, q9⟩, hl, hc, by rw [hs, e]⟩
  · have hi' : i < cs.length := by omega
    rw [v5 i (by omega), hcv i hi']; simp [List.getD_eq_getElem?_getD, hi']
  · have hi' : i < cs.length := by omega
    simp only [List.getD_eq_getElem?_getD, List.getElem?_map, List.getElem?_eq_getElem hi', Option.map_some, Option.getD_some]
    exact fits_lo8 _
end StrChars.Road
namespace StrChars.Road
open Jvm Sem ClassFile Op Lib Jvm.Stand Jvm.Free Jvm.Free.XT
/-- WHAT COMES BACK, in the writer's own shape -/
def QV (Z : State) (x : Addr) (N : Int32) (bs : List Int32) (h : Heap) (n0 : Nat) (v : Option Value) (h' : Heap) (L : List Loc) : Prop := v = none ∧ RoadKit.Fr n0 L ∧ RoadKit.Keep h h' [x] ∧ RoadKit.Exa Z h' x ST ∧ RoadKit.Fld Z h' x ST "coder" "B" (.int 0) ∧
  ∃ (t : Addr) (kb : ClassId), n0 ≤ t ∧ h.size ≤ t ∧ ¬ t = x ∧ RoadKit.Fld Z h' x ST "value" "[B" (.ref t) ∧ RoadKit.Arv Z h' t kb .byte N (bs.map Value.int) (.int 0)
/-- **new String(chars) AT A CALL, FOR THE WRITER**: a char[] of n known ints, each 0 to 255 -/
theorem backV {p : Program} {l : Launch} {e : Env} {R : Room} {s : State} {args : Array Value} {below : List Frame} {len W : Nat} {Z : State} {a0 : Array Value} {h : Heap} (hZ : Z.Warmed39 s.vm) (hw : ∀ d ∈ words, d.before a0 Z = true) {kI : Nat} (wi : (Jvm.Cond.instantiable ST kI).before a0 Z = true)
    {x b : Addr} {kC : ClassId} {cs bs : List Int32} {d v0 c0 : Value} {z N : Int32} {n n0 : Nat} (hx0 : n0 ≤ x) (hh0 : n0 ≤ h.size) (E : RoadKit.Exa Z h x ST) (V : RoadKit.Fld Z h x ST "value" "[B" v0) (C : RoadKit.Fld Z h x ST "coder" "B" c0) (K : RoadKit.Arv Z h b kC .char N (cs.map Value.int) d) (S : RoadKit.Sta Z h ST "COMPACT_STRINGS" "Z" (.int z)) (hz : ¬ z = 0)
    (hn : cs.length = n) (hN : N = Int32.ofNat n) (l0 : 0 < n) (l2 : n ≤ 4000) (hp : ∀ c ∈ cs, ¬ c < 0 ∧ ¬ (255 : Int32) < c) (hb : bs = cs.map (fun c => c.toInt8.toInt32)) (hfr : 4 ≤ R.frames) (hlo : W + 65 ≤ R.locals) :
    Back l R p e below s args (⟨"java/lang/String", "<init>", "([C)V"⟩ : MethodName) len W (fun P a => a = #[.ref x, .ref b] ∧ P.U.heap = h ∧ P.cells + 1 ≤ R.cells ∧ P.slots + n ≤ R.slots)
      (fun P _ v B => ∃ L, QV Z x N bs h n0 v B.U.heap L ∧ B.locs = P.locs ++ L ∧ B.cells = P.cells + 1 ∧ B.slots = P.slots + n) := by
  subst hn hN hb
  refine Back.mono (backArv hZ hw wi E V C K S hz (n32 (by omega)) l0 (by omega) (fun c hc => (hp c hc).2) hfr hlo) (fun P a hp => hp) (fun P a v B hp hq => ?_)
  obtain ⟨L, ⟨q1, q2, q3, q4, q5, q6, q7, ⟨kb, v1, v2⟩, q9⟩, hl, hc, hs⟩ := hq
  exact ⟨L, ⟨q1, fun y hy => by rw [q2 y hy]; exact hx0, q3, q5, q7, h.size, kb, hh0, Nat.le_refl _, Nat.ne_of_gt E.lt, q6, by rw [List.map_map]; exact v2⟩, hl, hc, hs⟩
end StrChars.Road
end Jvm.Pilot.@@N@@
namespace Jvm.Pilot.@@N@@
namespace Own
open Jvm Jvm.ClassFile Sem Op Lib Jvm.Free Jvm.Stand Jvm.LawKit Jvm.RoadKit
/-! A WALK READ FORWARDS. 'Owe .. G T g': from the state T with the frame g on top the invocation comes back, and G holds of what it leaves. Each step's rule asks what is owed behind the step. -/
def Owe (tb : Tables) (e : Env) (below : List Frame) (G : Outcome → State → Prop) (T : State) (g : JFrame) : Prop := ∃ u o, Steps tb e below (T.setTop g) u ∧ u.status = .running ∧ Ended u below o ∧ G o u
theorem Owe.by {tb : Tables} {e : Env} {below : List Frame} {G : Outcome → State → Prop} {T T' : State} {g g' : JFrame} (k : ∀ t, Steps tb e below (T'.setTop g') t → Steps tb e below (T.setTop g) t) (h : Owe tb e below G T' g') : Owe tb e below G T g := by
  obtain ⟨u, o, h1, h2⟩ := h
  exact ⟨u, o, k _ h1, h2⟩
theorem Owe.cast {tb : Tables} {e : Env} {below : List Frame} {G : Outcome → State → Prop} {T : State} {g g' : JFrame} (q : g = g') (h : Owe tb e below G T g') : Owe tb e below G T g := q ▸ h
section Plain
variable {tb : Tables} [Ours tb] {e : Env} {below : List Frame} {G : Outcome → State → Prop} {T : State} {m : MethodId} {c : Code} {pc : Nat} {Ls : Array Slot} {st : List Value}
theorem Owe.aloadN (h : At T m c below) (hx : tb.exec = Jvm.exec) {k : Fin 4} {v : Value} (hd : decode c.code pc = .ok (.aload_n k, 1)) (hl : Ls[k.val]? = some (.val v)) (hv : v.isRef = true) (go : Owe tb e below G T (mkF m (pc + 1) Ls (v :: st))) : Owe tb e below G T (mkF m pc Ls st) := Owe.by (fun t k => XS.aloadN h hx rfl hd hl hv k) go
theorem Owe.aload (h : At T m c below) (hx : tb.exec = Jvm.exec) {k : Nat} {v : Value} (hd : decode c.code pc = .ok (.aload k, 2)) (hl : Ls[k]? = some (.val v)) (hv : v.isRef = true) (go : Owe tb e below G T (mkF m (pc + 2) Ls (v :: st))) : Owe tb e below G T (mkF m pc Ls st) := Owe.by (fun t k => XS.aload h hx rfl hd hl hv k) go
theorem Owe.iloadN (h : At T m c below) (hx : tb.exec = Jvm.exec) {k : Fin 4} {v : Int32} (hd : decode c.code pc = .ok (.iload_n k, 1)) (hl : Ls[k.val]? = some (.val (.int v))) (go : Owe tb e below G T (mkF m (pc + 1) Ls (.int v :: st))) : Owe tb e below G T (mkF m pc Ls st) := Owe.by (fun t k => XS.iloadN h hx rfl hd hl k) go
theorem Owe.iload (h : At T m c below) (hx : tb.exec = Jvm.exec) {k : Nat} {v : Int32} (hd : decode c.code pc = .ok (.iload k, 2)) (hl : Ls[k]? = some (.val (.int v))) (go : Owe tb e below G T (mkF m (pc + 2) Ls (.int v :: st))) : Owe tb e below G T (mkF m pc Ls st) := Owe.by (fun t k => XS.iload h hx rfl hd hl k) go
theorem Owe.iconst (h : At T m c below) (hx : tb.exec = Jvm.exec) {i : Int} (hd : decode c.code pc = .ok (.iconst i, 1)) {w : Int32} (hw : (Int32.ofInt i) = w) (go : Owe tb e below G T (mkF m (pc + 1) Ls (.int w :: st))) : Owe tb e below G T (mkF m pc Ls st) := by subst hw; exact Owe.by (fun t k => XS.iconst h hx rfl hd k) go
theorem Owe.bipush (h : At T m c below) (hx : tb.exec = Jvm.exec) {i : Int} (hd : decode c.code pc = .ok (.bipush i, 2)) {w : Int32} (hw : (Int8.ofInt i).toInt32 = w) (go : Owe tb e below G T (mkF m (pc + 2) Ls (.int w :: st))) : Owe tb e below G T (mkF m pc Ls st) := by subst hw; exact Owe.by (fun t k => XS.bipush h hx rfl hd k) go
theorem Owe.sipush (h : At T m c below) (hx : tb.exec = Jvm.exec) {i : Int} (hd : decode c.code pc = .ok (.sipush i, 3)) {w : Int32} (hw : (Int16.ofInt i).toInt32 = w) (go : Owe tb e below G T (mkF m (pc + 3) Ls (.int w :: st))) : Owe tb e below G T (mkF m pc Ls st) := by subst hw; exact Owe.by (fun t k => XS.sipush h hx rfl hd k) go
theorem Owe.aconstNull (h : At T m c below) (hx : tb.exec = Jvm.exec) (hd : decode c.code pc = .ok (.aconst_null, 1)) (go : Owe tb e below G T (mkF m (pc + 1) Ls (.null :: st))) : Owe tb e below G T (mkF m pc Ls st) := Owe.by (fun t k => XS.aconstNull h hx rfl hd k) go
theorem Owe.iadd (h : At T m c below) (hx : tb.exec = Jvm.exec) {x y : Int32} {rest : List Value} (hd : decode c.code pc = .ok (.iadd, 1)) (hs : st = .int y :: .int x :: rest) (go : Owe tb e below G T (mkF m (pc + 1) Ls (.int (x + y) :: rest))) : Owe tb e below G T (mkF m pc Ls st) := Owe.by (fun t k => XS.iadd h hx rfl hd hs k) go
theorem Owe.isub (h : At T m c below) (hx : tb.exec = Jvm.exec) {x y : Int32} {rest : List Value} (hd : decode c.code pc = .ok (.isub, 1)) (hs : st = .int y :: .int x :: rest) (go : Owe tb e below G T (mkF m (pc + 1) Ls (.int (x - y) :: rest))) : Owe tb e below G T (mkF m pc Ls st) := Owe.by (fun t k => XS.isub h hx rfl hd hs k) go
theorem Owe.imul (h : At T m c below) (hx : tb.exec = Jvm.exec) {x y : Int32} {rest : List Value} (hd : decode c.code pc = .ok (.imul, 1)) (hs : st = .int y :: .int x :: rest) (go : Owe tb e below G T (mkF m (pc + 1) Ls (.int (x * y) :: rest))) : Owe tb e below G T (mkF m pc Ls st) := Owe.by (fun t k => XS.imul h hx rfl hd hs k) go
theorem Owe.iand (h : At T m c below) (hx : tb.exec = Jvm.exec) {x y : Int32} {rest : List Value} (hd : decode c.code pc = .ok (.iand, 1)) (hs : st = .int y :: .int x :: rest) (go : Owe tb e below G T (mkF m (pc + 1) Ls (.int (x &&& y) :: rest))) : Owe tb e below G T (mkF m pc Ls st) := Owe.by (fun t k => XS.iand h hx rfl hd hs k) go
theorem Owe.ior (h : At T m c below) (hx : tb.exec = Jvm.exec) {x : Int32} {y : Int32} {rest : List Value} (hd : decode c.code pc = .ok (.ior, 1)) (hs : st = .int y :: .int x :: rest) (go : Owe tb e below G T (mkF m (pc + 1) Ls (.int (x ||| y) :: rest))) : Owe tb e below G T (mkF m pc Ls st) := Owe.by (fun t k => XS.ior h hx rfl hd hs k) go
theorem Owe.ixor (h : At T m c below) (hx : tb.exec = Jvm.exec) {x : Int32} {y : Int32} {rest : List Value} (hd : decode c.code pc = .ok (.ixor, 1)) (hs : st = .int y :: .int x :: rest) (go : Owe tb e below G T (mkF m (pc + 1) Ls (.int (x ^^^ y) :: rest))) : Owe tb e below G T (mkF m pc Ls st) := Owe.by (fun t k => XS.ixor h hx rfl hd hs k) go
theorem Owe.ishl (h : At T m c below) (hx : tb.exec = Jvm.exec) {x : Int32} {y : Int32} {rest : List Value} (hd : decode c.code pc = .ok (.ishl, 1)) (hs : st = .int y :: .int x :: rest) (go : Owe tb e below G T (mkF m (pc + 1) Ls (.int (x <<< (y &&& 31)) :: rest))) : Owe tb e below G T (mkF m pc Ls st) := Owe.by (fun t k => XS.ishl h hx rfl hd hs k) go
theorem Owe.ishr (h : At T m c below) (hx : tb.exec = Jvm.exec) {x : Int32} {y : Int32} {rest : List Value} (hd : decode c.code pc = .ok (.ishr, 1)) (hs : st = .int y :: .int x :: rest) (go : Owe tb e below G T (mkF m (pc + 1) Ls (.int (x >>> (y &&& 31)) :: rest))) : Owe tb e below G T (mkF m pc Ls st) := Owe.by (fun t k => XS.ishr h hx rfl hd hs k) go
theorem Owe.iushr (h : At T m c below) (hx : tb.exec = Jvm.exec) {x : Int32} {y : Int32} {rest : List Value} (hd : decode c.code pc = .ok (.iushr, 1)) (hs : st = .int y :: .int x :: rest) (go : Owe tb e below G T (mkF m (pc + 1) Ls (.int ((x.toUInt32 >>> (y &&& 31).toUInt32).toInt32) :: rest))) : Owe tb e below G T (mkF m pc Ls st) := Owe.by (fun t k => XS.iushr h hx rfl hd hs k) go
theorem Owe.irem (h : At T m c below) (hx : tb.exec = Jvm.exec) {x y : Int32} {rest : List Value} (hd : decode c.code pc = .ok (.irem, 1)) (hs : st = .int y :: .int x :: rest) (hy : y ≠ 0) (go : Owe tb e below G T (mkF m (pc + 1) Ls (.int (x - (x / y) * y) :: rest))) : Owe tb e below G T (mkF m pc Ls st) := Owe.by (fun t k => XS.irem h hx rfl hd hs hy k) go
theorem Owe.idiv (h : At T m c below) (hx : tb.exec = Jvm.exec) {x y : Int32} {rest : List Value} (hd : decode c.code pc = .ok (.idiv, 1)) (hs : st = .int y :: .int x :: rest) (hy : y ≠ 0) (go : Owe tb e below G T (mkF m (pc + 1) Ls (.int (x / y) :: rest))) : Owe tb e below G T (mkF m pc Ls st) := Owe.by (fun t k => XS.idiv h hx rfl hd hs hy k) go
theorem Owe.ineg (h : At T m c below) (hx : tb.exec = Jvm.exec) {x : Int32} {rest : List Value} (hd : decode c.code pc = .ok (.ineg, 1)) (hs : st = .int x :: rest) (go : Owe tb e below G T (mkF m (pc + 1) Ls (.int (-x) :: rest))) : Owe tb e below G T (mkF m pc Ls st) := Owe.by (fun t k => XS.ineg h hx rfl hd hs k) go
theorem Owe.iinc (h : At T m c below) (hx : tb.exec = Jvm.exec) {k : Nat} {cst : Int} {x : Int32} {l' : Array Slot} (hd : decode c.code pc = .ok (.iinc k cst, 3)) (hl : Ls[k]? = some (.val (.int x))) (hl' : storeLocals Ls k (.int (x + Int32.ofInt cst)) = some l') (go : Owe tb e below G T (mkF m (pc + 3) l' st)) : Owe tb e below G T (mkF m pc Ls st) := Owe.by (fun t k => XS.iinc h hx rfl hd hl hl' k) go
theorem Owe.dup (h : At T m c below) (hx : tb.exec = Jvm.exec) {x : Value} {rest : List Value} (hd : decode c.code pc = .ok (.dup, 1)) (hs : st = x :: rest) (hc : x.category = 1) (go : Owe tb e below G T (mkF m (pc + 1) Ls (x :: x :: rest))) : Owe tb e below G T (mkF m pc Ls st) := Owe.by (fun t k => XS.dup h hx rfl hd hs hc k) go
theorem Owe.pop (h : At T m c below) (hx : tb.exec = Jvm.exec) {x : Value} {rest : List Value} (hd : decode c.code pc = .ok (.pop, 1)) (hs : st = x :: rest) (hc : x.category = 1) (go : Owe tb e below G T (mkF m (pc + 1) Ls rest)) : Owe tb e below G T (mkF m pc Ls st) := Owe.by (fun t k => XS.pop h hx rfl hd hs hc k) go
theorem Owe.dupX1 (h : At T m c below) (hx : tb.exec = Jvm.exec) {x y : Value} {rest : List Value} (hd : decode c.code pc = .ok (.dup_x1, 1)) (hs : st = x :: y :: rest) (hc : x.category = 1) (hc2 : y.category = 1) (go : Owe tb e below G T (mkF m (pc + 1) Ls (x :: y :: x :: rest))) : Owe tb e below G T (mkF m pc Ls st) := Owe.by (fun t k => XS.dupX1 h hx rfl hd hs hc hc2 k) go
theorem Owe.dup2 (h : At T m c below) (hx : tb.exec = Jvm.exec) {x y : Value} {rest : List Value} (hd : decode c.code pc = .ok (.dup2, 1)) (hs : st = x :: y :: rest) (hc : x.category = 1) (hc' : y.category = 1) (go : Owe tb e below G T (mkF m (pc + 1) Ls (x :: y :: x :: y :: rest))) : Owe tb e below G T (mkF m pc Ls st) := Owe.by (fun t k => Jvm.Free.XT.dup2 h hx rfl hd hs hc hc' k) go
theorem Owe.istoreN (h : At T m c below) (hx : tb.exec = Jvm.exec) {k : Fin 4} {x : Int32} {rest : List Value} {l' : Array Slot} (hd : decode c.code pc = .ok (.istore_n k, 1)) (hs : st = .int x :: rest) (hl : storeLocals Ls k.val (.int x) = some l') (go : Owe tb e below G T (mkF m (pc + 1) l' rest)) : Owe tb e below G T (mkF m pc Ls st) := Owe.by (fun t k => XS.istoreN h hx rfl hd hs hl k) go
theorem Owe.istore (h : At T m c below) (hx : tb.exec = Jvm.exec) {k : Nat} {x : Int32} {rest : List Value} {l' : Array Slot} (hd : decode c.code pc = .ok (.istore k, 2)) (hs : st = .int x :: rest) (hl : storeLocals Ls k (.int x) = some l') (go : Owe tb e below G T (mkF m (pc + 2) l' rest)) : Owe tb e below G T (mkF m pc Ls st) := Owe.by (fun t k => XS.istore h hx rfl hd hs hl k) go
theorem Owe.astoreN (h : At T m c below) (hx : tb.exec = Jvm.exec) {k : Fin 4} {x : Value} {rest : List Value} {l' : Array Slot} (hd : decode c.code pc = .ok (.astore_n k, 1)) (hs : st = x :: rest) (hv : x.isRef = true) (hl : storeLocals Ls k.val x = some l') (go : Owe tb e below G T (mkF m (pc + 1) l' rest)) : Owe tb e below G T (mkF m pc Ls st) := Owe.by (fun t k => XS.astoreN h hx rfl hd hs hv hl k) go
theorem Owe.astore (h : At T m c below) (hx : tb.exec = Jvm.exec) {k : Nat} {x : Value} {rest : List Value} {l' : Array Slot} (hd : decode c.code pc = .ok (.astore k, 2)) (hs : st = x :: rest) (hv : x.isRef = true) (hl : storeLocals Ls k x = some l') (go : Owe tb e below G T (mkF m (pc + 2) l' rest)) : Owe tb e below G T (mkF m pc Ls st) := Owe.by (fun t k => XS.astore h hx rfl hd hs hv hl k) go
theorem Owe.goto (h : At T m c below) (hx : tb.exec = Jvm.exec) {o : Int} {pc' : Nat}  (hd : decode c.code pc = .ok (.goto o, 3)) (ho : 0 ≤ (pc : Int) + o) (hp : ((pc : Int) + o).toNat = pc') (go : Owe tb e below G T (mkF m pc' Ls st)) : Owe tb e below G T (mkF m pc Ls st) := Owe.by (fun t k => XS.goto h hx rfl rfl hd ho hp k) go
theorem Owe.ifYes (h : At T m c below) (hx : tb.exec = Jvm.exec) {cd : ClassFile.Cond} {x : Int32} {rest : List Value} {o : Int} {pc' : Nat}  (hd : decode c.code pc = .ok (.ifCond cd o, 3)) (hs : st = .int x :: rest) (hc : ifCond.holds cd x = true) (ho : 0 ≤ (pc : Int) + o) (hp : ((pc : Int) + o).toNat = pc') (go : Owe tb e below G T (mkF m pc' Ls rest)) : Owe tb e below G T (mkF m pc Ls st) := Owe.by (fun t k => XS.ifYes h hx rfl rfl hd hs hc ho hp k) go
theorem Owe.ifNo (h : At T m c below) (hx : tb.exec = Jvm.exec) {cd : ClassFile.Cond} {o : Int} {x : Int32} {rest : List Value} (hd : decode c.code pc = .ok (.ifCond cd o, 3)) (hs : st = .int x :: rest) (hc : ifCond.holds cd x = false) (go : Owe tb e below G T (mkF m (pc + 3) Ls rest)) : Owe tb e below G T (mkF m pc Ls st) := Owe.by (fun t k => XS.ifNo h hx rfl hd hs hc k) go
theorem Owe.icmpYes (h : At T m c below) (hx : tb.exec = Jvm.exec) {cd : ClassFile.Cond} {x y : Int32} {rest : List Value} {o : Int} {pc' : Nat}  (hd : decode c.code pc = .ok (.if_icmp cd o, 3)) (hs : st = .int y :: .int x :: rest) (hc : if_icmp.holds cd x y = true) (ho : 0 ≤ (pc : Int) + o) (hp : ((pc : Int) + o).toNat = pc') (go : Owe tb e below G T (mkF m pc' Ls rest)) : Owe tb e below G T (mkF m pc Ls st) := Owe.by (fun t k => XS.icmpYes h hx rfl rfl hd hs hc ho hp k) go
theorem Owe.icmpNo (h : At T m c below) (hx : tb.exec = Jvm.exec) {cd : ClassFile.Cond} {o : Int} {x y : Int32} {rest : List Value} (hd : decode c.code pc = .ok (.if_icmp cd o, 3)) (hs : st = .int y :: .int x :: rest) (hc : if_icmp.holds cd x y = false) (go : Owe tb e below G T (mkF m (pc + 3) Ls rest)) : Owe tb e below G T (mkF m pc Ls st) := Owe.by (fun t k => XS.icmpNo h hx rfl hd hs hc k) go
theorem Owe.ifnullYes (h : At T m c below) (hx : tb.exec = Jvm.exec) {rest : List Value} {o : Int} {pc' : Nat}  (hd : decode c.code pc = .ok (.ifnull o, 3)) (hs : st = .null :: rest) (ho : 0 ≤ (pc : Int) + o) (hp : ((pc : Int) + o).toNat = pc') (go : Owe tb e below G T (mkF m pc' Ls rest)) : Owe tb e below G T (mkF m pc Ls st) := Owe.by (fun t k => XS.ifnullYes h hx rfl rfl hd hs ho hp k) go
theorem Owe.ifnullNo (h : At T m c below) (hx : tb.exec = Jvm.exec) {o : Int} {b : Addr} {rest : List Value} (hd : decode c.code pc = .ok (.ifnull o, 3)) (hs : st = .ref b :: rest) (go : Owe tb e below G T (mkF m (pc + 3) Ls rest)) : Owe tb e below G T (mkF m pc Ls st) := Owe.by (fun t k => XS.ifnullNo h hx rfl hd hs k) go
theorem Owe.ifnonnullYes (h : At T m c below) (hx : tb.exec = Jvm.exec) {b : Addr} {rest : List Value} {o : Int} {pc' : Nat}  (hd : decode c.code pc = .ok (.ifnonnull o, 3)) (hs : st = .ref b :: rest) (ho : 0 ≤ (pc : Int) + o) (hp : ((pc : Int) + o).toNat = pc') (go : Owe tb e below G T (mkF m pc' Ls rest)) : Owe tb e below G T (mkF m pc Ls st) := Owe.by (fun t k => XS.ifnonnullYes h hx rfl rfl hd hs ho hp k) go
theorem Owe.ifnonnullNo (h : At T m c below) (hx : tb.exec = Jvm.exec) {o : Int} {rest : List Value} (hd : decode c.code pc = .ok (.ifnonnull o, 3)) (hs : st = .null :: rest) (go : Owe tb e below G T (mkF m (pc + 3) Ls rest)) : Owe tb e below G T (mkF m pc Ls st) := Owe.by (fun t k => XS.ifnonnullNo h hx rfl hd hs k) go
theorem Owe.acmpYes (h : At T m c below) (hx : tb.exec = Jvm.exec) {cd : ClassFile.ACond} {x y : Value} {rest : List Value} {o : Int} {pc' : Nat}  (hd : decode c.code pc = .ok (.if_acmp cd o, 3)) (hs : st = y :: x :: rest) (hx' : x.isRef = true) (hy' : y.isRef = true) (hc : Jvm.Free.XT.acmp cd x y = true) (ho : 0 ≤ (pc : Int) + o) (hp : ((pc : Int) + o).toNat = pc') (go : Owe tb e below G T (mkF m pc' Ls rest)) : Owe tb e below G T (mkF m pc Ls st) := Owe.by (fun t k => Jvm.Free.XT.acmpYes h hx rfl rfl hd hs hx' hy' hc ho hp k) go
theorem Owe.acmpNo (h : At T m c below) (hx : tb.exec = Jvm.exec) {cd : ClassFile.ACond} {o : Int} {x y : Value} {rest : List Value} (hd : decode c.code pc = .ok (.if_acmp cd o, 3)) (hs : st = y :: x :: rest) (hx' : x.isRef = true) (hy' : y.isRef = true) (hc : Jvm.Free.XT.acmp cd x y = false) (go : Owe tb e below G T (mkF m (pc + 3) Ls rest)) : Owe tb e below G T (mkF m pc Ls st) := Owe.by (fun t k => Jvm.Free.XT.acmpNo h hx rfl hd hs hx' hy' hc k) go
theorem Owe.ladd (h : At T m c below) (hx : tb.exec = Jvm.exec) {x : Int64} {y : Int64} {rest : List Value} (hd : decode c.code pc = .ok (.ladd, 1)) (hs : st = .long y :: .long x :: rest) (go : Owe tb e below G T (mkF m (pc + 1) Ls (.long (x + y) :: rest))) : Owe tb e below G T (mkF m pc Ls st) := Owe.by (fun t k => XS.ladd h hx rfl hd hs k) go
theorem Owe.lsub (h : At T m c below) (hx : tb.exec = Jvm.exec) {x : Int64} {y : Int64} {rest : List Value} (hd : decode c.code pc = .ok (.lsub, 1)) (hs : st = .long y :: .long x :: rest) (go : Owe tb e below G T (mkF m (pc + 1) Ls (.long (x - y) :: rest))) : Owe tb e below G T (mkF m pc Ls st) := Owe.by (fun t k => XS.lsub h hx rfl hd hs k) go
theorem Owe.lmul (h : At T m c below) (hx : tb.exec = Jvm.exec) {x : Int64} {y : Int64} {rest : List Value} (hd : decode c.code pc = .ok (.lmul, 1)) (hs : st = .long y :: .long x :: rest) (go : Owe tb e below G T (mkF m (pc + 1) Ls (.long (x * y) :: rest))) : Owe tb e below G T (mkF m pc Ls st) := Owe.by (fun t k => XS.lmul h hx rfl hd hs k) go
theorem Owe.land (h : At T m c below) (hx : tb.exec = Jvm.exec) {x : Int64} {y : Int64} {rest : List Value} (hd : decode c.code pc = .ok (.land, 1)) (hs : st = .long y :: .long x :: rest) (go : Owe tb e below G T (mkF m (pc + 1) Ls (.long (x &&& y) :: rest))) : Owe tb e below G T (mkF m pc Ls st) := Owe.by (fun t k => XS.land h hx rfl hd hs k) go
theorem Owe.lor (h : At T m c below) (hx : tb.exec = Jvm.exec) {x : Int64} {y : Int64} {rest : List Value} (hd : decode c.code pc = .ok (.lor, 1)) (hs : st = .long y :: .long x :: rest) (go : Owe tb e below G T (mkF m (pc + 1) Ls (.long (x ||| y) :: rest))) : Owe tb e below G T (mkF m pc Ls st) := Owe.by (fun t k => XS.lor h hx rfl hd hs k) go
theorem Owe.lxor (h : At T m c below) (hx : tb.exec = Jvm.exec) {x : Int64} {y : Int64} {rest : List Value} (hd : decode c.code pc = .ok (.lxor, 1)) (hs : st = .long y :: .long x :: rest) (go : Owe tb e below G T (mkF m (pc + 1) Ls (.long (x ^^^ y) :: rest))) : Owe tb e below G T (mkF m pc Ls st) := Owe.by (fun t k => XS.lxor h hx rfl hd hs k) go
theorem Owe.lshl (h : At T m c below) (hx : tb.exec = Jvm.exec) {x : Int64} {y : Int32} {rest : List Value} (hd : decode c.code pc = .ok (.lshl, 1)) (hs : st = .int y :: .long x :: rest) (go : Owe tb e below G T (mkF m (pc + 1) Ls (.long (x <<< (y &&& 0x3f).toInt64) :: rest))) : Owe tb e below G T (mkF m pc Ls st) := Owe.by (fun t k => XS.lshl h hx rfl hd hs k) go
theorem Owe.lshr (h : At T m c below) (hx : tb.exec = Jvm.exec) {x : Int64} {y : Int32} {rest : List Value} (hd : decode c.code pc = .ok (.lshr, 1)) (hs : st = .int y :: .long x :: rest) (go : Owe tb e below G T (mkF m (pc + 1) Ls (.long (x >>> (y &&& 0x3f).toInt64) :: rest))) : Owe tb e below G T (mkF m pc Ls st) := Owe.by (fun t k => XS.lshr h hx rfl hd hs k) go
theorem Owe.lushr (h : At T m c below) (hx : tb.exec = Jvm.exec) {x : Int64} {y : Int32} {rest : List Value} (hd : decode c.code pc = .ok (.lushr, 1)) (hs : st = .int y :: .long x :: rest) (go : Owe tb e below G T (mkF m (pc + 1) Ls (.long ((x.toUInt64 >>> (y &&& 0x3f).toInt64.toUInt64).toInt64) :: rest))) : Owe tb e below G T (mkF m pc Ls st) := Owe.by (fun t k => XS.lushr h hx rfl hd hs k) go
theorem Owe.lneg (h : At T m c below) (hx : tb.exec = Jvm.exec) {v : Int64} {rest : List Value} (hd : decode c.code pc = .ok (.lneg, 1)) (hs : st = .long v :: rest) (go : Owe tb e below G T (mkF m (pc + 1) Ls (.long (-v) :: rest))) : Owe tb e below G T (mkF m pc Ls st) := Owe.by (fun t k => XS.lneg h hx rfl hd hs k) go
theorem Owe.i2l (h : At T m c below) (hx : tb.exec = Jvm.exec) {v : Int32} {rest : List Value} (hd : decode c.code pc = .ok (.i2l, 1)) (hs : st = .int v :: rest) (go : Owe tb e below G T (mkF m (pc + 1) Ls (.long (v.toInt64) :: rest))) : Owe tb e below G T (mkF m pc Ls st) := Owe.by (fun t k => XS.i2l h hx rfl hd hs k) go
theorem Owe.l2i (h : At T m c below) (hx : tb.exec = Jvm.exec) {v : Int64} {rest : List Value} (hd : decode c.code pc = .ok (.l2i, 1)) (hs : st = .long v :: rest) (go : Owe tb e below G T (mkF m (pc + 1) Ls (.int (v.toInt32) :: rest))) : Owe tb e below G T (mkF m pc Ls st) := Owe.by (fun t k => XS.l2i h hx rfl hd hs k) go
theorem Owe.i2b (h : At T m c below) (hx : tb.exec = Jvm.exec) {v : Int32} {rest : List Value} (hd : decode c.code pc = .ok (.i2b, 1)) (hs : st = .int v :: rest) (go : Owe tb e below G T (mkF m (pc + 1) Ls (.int (v.toInt8.toInt32) :: rest))) : Owe tb e below G T (mkF m pc Ls st) := Owe.by (fun t k => XS.i2b h hx rfl hd hs k) go
theorem Owe.i2c (h : At T m c below) (hx : tb.exec = Jvm.exec) {v : Int32} {rest : List Value} (hd : decode c.code pc = .ok (.i2c, 1)) (hs : st = .int v :: rest) (go : Owe tb e below G T (mkF m (pc + 1) Ls (.int (v.toUInt32.toUInt16.toUInt32.toInt32) :: rest))) : Owe tb e below G T (mkF m pc Ls st) := Owe.by (fun t k => XS.i2c h hx rfl hd hs k) go
theorem Owe.i2s (h : At T m c below) (hx : tb.exec = Jvm.exec) {v : Int32} {rest : List Value} (hd : decode c.code pc = .ok (.i2s, 1)) (hs : st = .int v :: rest) (go : Owe tb e below G T (mkF m (pc + 1) Ls (.int (v.toInt16.toInt32) :: rest))) : Owe tb e below G T (mkF m pc Ls st) := Owe.by (fun t k => XS.i2s h hx rfl hd hs k) go
theorem Owe.lloadN (h : At T m c below) (hx : tb.exec = Jvm.exec) {k : Fin 4} {v : Int64} (hd : decode c.code pc = .ok (.lload_n k, 1)) (hl : Ls[k.val]? = some (.val (.long v))) (go : Owe tb e below G T (mkF m (pc + 1) Ls (.long v :: st))) : Owe tb e below G T (mkF m pc Ls st) := Owe.by (fun t k => XS.lloadN h hx rfl hd hl k) go
theorem Owe.lload (h : At T m c below) (hx : tb.exec = Jvm.exec) {k : Nat} {v : Int64} (hd : decode c.code pc = .ok (.lload k, 2)) (hl : Ls[k]? = some (.val (.long v))) (go : Owe tb e below G T (mkF m (pc + 2) Ls (.long v :: st))) : Owe tb e below G T (mkF m pc Ls st) := Owe.by (fun t k => XS.lload h hx rfl hd hl k) go
theorem Owe.lstoreN (h : At T m c below) (hx : tb.exec = Jvm.exec) {k : Fin 4} {x : Int64} {rest : List Value} {l' : Array Slot} (hd : decode c.code pc = .ok (.lstore_n k, 1)) (hs : st = .long x :: rest) (hl : storeLocals Ls k.val (.long x) = some l') (go : Owe tb e below G T (mkF m (pc + 1) l' rest)) : Owe tb e below G T (mkF m pc Ls st) := Owe.by (fun t k => XS.lstoreN h hx rfl hd hs hl k) go
theorem Owe.lstore (h : At T m c below) (hx : tb.exec = Jvm.exec) {k : Nat} {x : Int64} {rest : List Value} {l' : Array Slot} (hd : decode c.code pc = .ok (.lstore k, 2)) (hs : st = .long x :: rest) (hl : storeLocals Ls k (.long x) = some l') (go : Owe tb e below G T (mkF m (pc + 2) l' rest)) : Owe tb e below G T (mkF m pc Ls st) := Owe.by (fun t k => XS.lstore h hx rfl hd hs hl k) go
theorem Owe.lconst (h : At T m c below) (hx : tb.exec = Jvm.exec) {k : Fin 2} (hd : decode c.code pc = .ok (.lconst k, 1)) {w : Int64} (hw : (Int64.ofNat k) = w) (go : Owe tb e below G T (mkF m (pc + 1) Ls (.long w :: st))) : Owe tb e below G T (mkF m pc Ls st) := by subst hw; exact Owe.by (fun t k => XS.lconst h hx rfl hd k) go
theorem Owe.lcmp (h : At T m c below) (hx : tb.exec = Jvm.exec) {x y : Int64} {rest : List Value} (hd : decode c.code pc = .ok (.lcmp, 1)) (hs : st = .long y :: .long x :: rest) (go : Owe tb e below G T (mkF m (pc + 1) Ls (.int (lcmpW x y) :: rest))) : Owe tb e below G T (mkF m pc Ls st) := Owe.by (fun t k => XS.lcmp h hx rfl hd hs k) go
theorem Owe.tswIn (h : At T m c below) (hx : tb.exec = Jvm.exec) {dflt low high : Int} {offs : Array Int} {len : Nat} {o : Int} {pc' : Nat}  (hd : decode c.code pc = .ok (.tableswitch dflt low high offs, len)) {i : Int32} {rest : List Value} (hs : st = .int i :: rest) (hin : ¬ (i.toInt < low ∨ i.toInt > high)) (hoff : offs[(i.toInt - low).toNat]? = some o) (ho : 0 ≤ (pc : Int) + o) (hp : ((pc : Int) + o).toNat = pc') (go : Owe tb e below G T (mkF m pc' Ls rest)) : Owe tb e below G T (mkF m pc Ls st) := Owe.by (fun t k => XS.tswIn h hx rfl rfl hd hs hin hoff ho hp k) go
theorem Owe.tswOut (h : At T m c below) (hx : tb.exec = Jvm.exec) {dflt low high : Int} {offs : Array Int} {len : Nat} {pc' : Nat}  (hd : decode c.code pc = .ok (.tableswitch dflt low high offs, len)) {i : Int32} {rest : List Value} (hs : st = .int i :: rest) (hout : i.toInt < low ∨ i.toInt > high) (ho : 0 ≤ (pc : Int) + dflt) (hp : ((pc : Int) + dflt).toNat = pc') (go : Owe tb e below G T (mkF m pc' Ls rest)) : Owe tb e below G T (mkF m pc Ls st) := Owe.by (fun t k => XS.tswOut h hx rfl rfl hd hs hout ho hp k) go
theorem Owe.dload (h : At T m c below) (hx : tb.exec = Jvm.exec) {k : Nat} {v : UInt64} (hd : decode c.code pc = .ok (.dload k, 2)) (hl : Ls[k]? = some (.val (.double v))) (go : Owe tb e below G T (mkF m (pc + 2) Ls (.double v :: st))) : Owe tb e below G T (mkF m pc Ls st) := Owe.by (fun t k => XS.dload h hx rfl hd hl k) go
theorem Owe.dloadN (h : At T m c below) (hx : tb.exec = Jvm.exec) {k : Fin 4} {v : UInt64} (hd : decode c.code pc = .ok (.dload_n k, 1)) (hl : Ls[k.val]? = some (.val (.double v))) (go : Owe tb e below G T (mkF m (pc + 1) Ls (.double v :: st))) : Owe tb e below G T (mkF m pc Ls st) := Owe.by (fun t k => XS.dloadN h hx rfl hd hl k) go
theorem Owe.dstore (h : At T m c below) (hx : tb.exec = Jvm.exec) {k : Nat} {x : UInt64} {rest : List Value} {l' : Array Slot} (hd : decode c.code pc = .ok (.dstore k, 2)) (hs : st = .double x :: rest) (hl : storeLocals Ls k (.double x) = some l') (go : Owe tb e below G T (mkF m (pc + 2) l' rest)) : Owe tb e below G T (mkF m pc Ls st) := Owe.by (fun t k => XS.dstore h hx rfl hd hs hl k) go
theorem Owe.dstoreN (h : At T m c below) (hx : tb.exec = Jvm.exec) {k : Fin 4} {x : UInt64} {rest : List Value} {l' : Array Slot} (hd : decode c.code pc = .ok (.dstore_n k, 1)) (hs : st = .double x :: rest) (hl : storeLocals Ls k.val (.double x) = some l') (go : Owe tb e below G T (mkF m (pc + 1) l' rest)) : Owe tb e below G T (mkF m pc Ls st) := Owe.by (fun t k => XS.dstoreN h hx rfl hd hs hl k) go
theorem Owe.dconst0 (h : At T m c below) (hx : tb.exec = Jvm.exec) {v : UInt64} (hd : decode c.code pc = .ok (.dconst 0, 1)) (hv : FP.dconst0 = v) (go : Owe tb e below G T (mkF m (pc + 1) Ls (.double v :: st))) : Owe tb e below G T (mkF m pc Ls st) := Owe.by (fun t k => XS.dconst0 h hx rfl hd hv k) go
theorem Owe.dconst1 (h : At T m c below) (hx : tb.exec = Jvm.exec) {v : UInt64} (hd : decode c.code pc = .ok (.dconst 1, 1)) (hv : FP.dconst1 = v) (go : Owe tb e below G T (mkF m (pc + 1) Ls (.double v :: st))) : Owe tb e below G T (mkF m pc Ls st) := Owe.by (fun t k => XS.dconst1 h hx rfl hd hv k) go
theorem Owe.i2dS (h : At T m c below) (hx : tb.exec = Jvm.exec) {x : Int32} {v : UInt64} {rest : List Value} (hd : decode c.code pc = .ok (.i2d, 1)) (hs : st = .int x :: rest) (hv : FP.i2d x = v) (go : Owe tb e below G T (mkF m (pc + 1) Ls (.double v :: rest))) : Owe tb e below G T (mkF m pc Ls st) := Owe.by (fun t k => XS.i2dS h hx rfl hd hs hv k) go
theorem Owe.l2dS (h : At T m c below) (hx : tb.exec = Jvm.exec) {x : Int64} {v : UInt64} {rest : List Value} (hd : decode c.code pc = .ok (.l2d, 1)) (hs : st = .long x :: rest) (hv : FP.l2d x = v) (go : Owe tb e below G T (mkF m (pc + 1) Ls (.double v :: rest))) : Owe tb e below G T (mkF m pc Ls st) := Owe.by (fun t k => XS.l2dS h hx rfl hd hs hv k) go
theorem Owe.dcmpS (h : At T m c below) (hx : tb.exec = Jvm.exec) {o : CmpOp} {x y : UInt64} {v : Int32} {rest : List Value} (hd : decode c.code pc = .ok (.dcmp o, 1)) (hs : st = .double y :: .double x :: rest) (hv : cmpValue (FP.dcmp x y) o = v) (go : Owe tb e below G T (mkF m (pc + 1) Ls (.int v :: rest))) : Owe tb e below G T (mkF m pc Ls st) := Owe.by (fun t k => XS.dcmpS h hx rfl hd hs hv k) go
end Plain
section Heavy
variable {p : Program} {l : Launch} {e : Env} {R : Room} {s : State} {m : MethodId} {args : Array Value} {below : List Frame} {meth : Method} {c : Code} {T : State} {locs : List Loc} {cells slots : Nat} {Z : State} {a0 : Array Value} {h : Heap} {G : Outcome → State → Prop} {pc : Nat} {Ls : Array Slot} {st : List Value}
theorem Owe.ldcI (X : Stand p l e R s m args below meth c T locs cells slots) (hx : p.tables.exec = Jvm.exec) {own : String} {index : Nat} {v : Int32} (hown : s.vm.findClass own = some m.cls) (w : (Cond.constant own index v).before args s = true) (hd : decode c.code pc = .ok (.ldc index, 2)) (go : Owe p.tables e below G T (mkF m (pc + 2) Ls (.int v :: st))) : Owe p.tables e below G T (mkF m pc Ls st) :=
  Owe.by (X.ldcInt hx hown w (g := mkF m pc Ls st) rfl hd) go
theorem Owe.new (X : Stand p l e R s m args below meth c T locs cells slots) (hx : p.tables.exec = Jvm.exec) (hZ : Z.Warmed39 s.vm) {own C : String} {index n : Nat} (hown : s.vm.findClass own = some m.cls) (w : (Cond.classLink own index C).before a0 Z = true) (wi : (Cond.instantiable C n).before a0 Z = true) (wz : (Cond.initialized C).before a0 Z = true) (eT : T.heap = h) (hd : decode c.code pc = .ok (.new index, 3)) (hc : cells + 1 ≤ R.cells) (hl : slots + n ≤ R.slots)
    (go : ∀ (T' : State) (h' : Heap) (a : Addr), a = h.size → Stand p l e R s m args below meth c T' locs (cells + 1) (slots + n) → T'.heap = h' → Ext h h' → Exa Z h' a C → (∀ {O nm d : String} {ty : FieldType}, Laid Z a0 C O nm d → parseFieldDescriptor d = some ty → Fld Z h' a O nm d (defaultValue ty)) → Owe p.tables e below G T' (mkF m (pc + 3) Ls (.ref a :: st))) : Owe p.tables e below G T (mkF m pc Ls st) := by
  obtain ⟨T', h', X', e', E', A', D', -, st'⟩ := newO X hx hZ hown w wi wz eT (g := mkF m pc Ls st) rfl hd hc hl
  exact Owe.by st' (go T' h' _ rfl X' e' E' A' D')
theorem Owe.newarr (X : Stand p l e R s m args below meth c T locs cells slots) (hx : p.tables.exec = Jvm.exec) (hZ : Z.Warmed39 s.vm) {aty : ArrayType} (w : (Cond.arrayClass (newarray.typeOf aty)).before a0 Z = true) (eT : T.heap = h) (hd : decode c.code pc = .ok (.newarray aty, 2)) {n : Int32} {rest : List Value} (hs : st = .int n :: rest) (hn : ¬ n < 0) {cap : Nat} (hcap : n.toNatClampNeg ≤ cap) (hb : cap * 8 ≤ 536870912) (hc : cells + 1 ≤ R.cells) (hl : slots + cap ≤ R.slots)
    (go : ∀ (T' : State) (h' : Heap) (a : Addr) (k : ClassId), a = h.size → Stand p l e R s m args below meth c T' locs (cells + 1) (slots + cap) → T'.heap = h' → Ext h h' → Arv Z h' a k (newarray.typeOf aty) n [] (defaultValue (newarray.typeOf aty)) → Owe p.tables e below G T' (mkF m (pc + 2) Ls (.ref a :: rest))) : Owe p.tables e below G T (mkF m pc Ls st) := by
  obtain ⟨T', h', k, X', e', E', A', st'⟩ := newP X hx hZ w eT (g := mkF m pc Ls st) rfl hd hs hn hcap hb hc hl
  exact Owe.by st' (go T' h' _ k rfl X' e' E' (Arv.new A' hn))
theorem Owe.castore (X : Stand p l e R s m args below meth c T locs cells slots) (hx : p.tables.exec = Jvm.exec) (hZ : Z.Warmed39 s.vm) (eT : T.heap = h) {a : Addr} {k : ClassId} {n : Int32} {vs : List Value} {dv : Value} (V : Arv Z h a k .char n vs dv) {j x : Int32} (i : Nat) (hj : j.toNatClampNeg = i) (hi : i < vs.length) (hin : ¬ j < 0 ∧ j < n) (hd : decode c.code pc = .ok (.castore, 1)) {rest : List Value} (hs : st = .int x :: .int j :: .ref a :: rest)
    (go : ∀ (T' : State) (h' : Heap), Stand p l e R s m args below meth c T' (locs ++ [⟨a, j.toNatClampNeg⟩]) cells slots → T'.heap = h' → Wr h h' a j.toNatClampNeg (.int (nar .char x)) → Arv Z h' a k .char n (vs.set i (.int (nar .char x))) dv → Owe p.tables e below G T' (mkF m (pc + 1) Ls rest)) : Owe p.tables e below G T (mkF m pc Ls st) := by
  obtain ⟨cl, A, q, S, M, H, U⟩ := V
  obtain ⟨T', h', X', e', W', st'⟩ := stC X hx hZ eT A (j := j) (inb_of S hin) (g := mkF m pc Ls st) rfl hs hd
  exact Owe.by st' (go T' h' X' e' W' (Arv.set A q S M H U (fits_nar_char _) W' i hj hi))
theorem Owe.bastore (X : Stand p l e R s m args below meth c T locs cells slots) (hx : p.tables.exec = Jvm.exec) (hZ : Z.Warmed39 s.vm) (eT : T.heap = h) {a : Addr} {k : ClassId} {n : Int32} {vs : List Value} {dv : Value} (V : Arv Z h a k .byte n vs dv) {j x : Int32} (i : Nat) (hj : j.toNatClampNeg = i) (hi : i < vs.length) (hin : ¬ j < 0 ∧ j < n) (hd : decode c.code pc = .ok (.bastore, 1)) {rest : List Value} (hs : st = .int x :: .int j :: .ref a :: rest)
    (go : ∀ (T' : State) (h' : Heap), Stand p l e R s m args below meth c T' (locs ++ [⟨a, j.toNatClampNeg⟩]) cells slots → T'.heap = h' → Wr h h' a j.toNatClampNeg (.int (x.toInt8.toInt32)) → Arv Z h' a k .byte n (vs.set i (.int (x.toInt8.toInt32))) dv → Owe p.tables e below G T' (mkF m (pc + 1) Ls rest)) : Owe p.tables e below G T (mkF m pc Ls st) := by
  obtain ⟨cl, A, q, S, M, H, U⟩ := V
  obtain ⟨T', h', X', e', W', st'⟩ := stB X hx hZ eT A (j := j) (inb_of S hin) (g := mkF m pc Ls st) rfl hs hd
  exact Owe.by st' (go T' h' X' e' W' (Arv.set A q S M H U (fits_nar_byte _) W' i hj hi))
theorem Owe.caload (X : Stand p l e R s m args below meth c T locs cells slots) (hx : p.tables.exec = Jvm.exec) (hZ : Z.Warmed39 s.vm) (eT : T.heap = h) {a : Addr} {k : ClassId} {n : Int32} {vs : List Value} {dv : Value} (V : Arv Z h a k .char n vs dv) {j : Int32} {v : Value} (hin : ¬ j < 0 ∧ j < n) (hv : vs.getD j.toNatClampNeg dv = v) (hd : decode c.code pc = .ok (.caload, 1)) {rest : List Value} (hs : st = .int j :: .ref a :: rest)
    (go : Owe p.tables e below G T (mkF m (pc + 1) Ls (v :: rest))) : Owe p.tables e below G T (mkF m pc Ls st) := by
  obtain ⟨cl, A, q, S, M, H, U⟩ := V
  exact Owe.by (fun t k => X.caload hx (by rw [eT]; exact A.1) (State.isArrayOf_alike hZ.alike A.2.1) A.2.2 (inb_of S hin) (H.at (inb_of S hin) hv) (g := mkF m pc Ls st) rfl hs hd t k) go
theorem Owe.arrlen (X : Stand p l e R s m args below meth c T locs cells slots) (hx : p.tables.exec = Jvm.exec) (hZ : Z.Warmed39 s.vm) (eT : T.heap = h) {a : Addr} {k : ClassId} {ty : FieldType} {n : Int32} {vs : List Value} {dv : Value} (V : Arv Z h a k ty n vs dv) (hd : decode c.code pc = .ok (.arraylength, 1)) {rest : List Value} (hs : st = .ref a :: rest)
    (go : Owe p.tables e below G T (mkF m (pc + 1) Ls (.int n :: rest))) : Owe p.tables e below G T (mkF m pc Ls st) := by
  obtain ⟨cl, A, q, S, M, H, U⟩ := V
  refine Owe.by (fun t k => X.arraylength hx (by rw [eT]; exact A.1) (State.isArrayOf_alike hZ.alike A.2.1) (g := mkF m pc Ls st) rfl hs hd t ?_) go
  rw [len_of S M]; exact k
theorem Owe.getf (X : Stand p l e R s m args below meth c T locs cells slots) (hx : p.tables.exec = Jvm.exec) (hZ : Z.Warmed39 s.vm) {own R0 O n d host : String} {index : Nat} (hown : s.vm.findClass own = some m.cls) (w : (Cond.fieldLink own index R0 n d).before a0 Z = true ∨ (Cond.fieldLinkNest own index R0 n d host).before a0 Z = true) (via : Via Z R0 O n d) (eT : T.heap = h) {a : Addr} {v : Value} (F : Fld Z h a O n d v) (hd : decode c.code pc = .ok (.getfield index, 3)) {rest : List Value} (hs : st = .ref a :: rest)
    (go : ∀ T' : State, Stand p l e R s m args below meth c T' locs cells slots → T'.heap = h → Owe p.tables e below G T' (mkF m (pc + 3) Ls (v :: rest))) : Owe p.tables e below G T (mkF m pc Ls st) := by
  obtain ⟨T', X', e', st'⟩ := getF X hx hZ hown w via eT F (g := mkF m pc Ls st) rfl hs hd
  exact Owe.by st' (go T' X' e')
theorem Owe.gets (X : Stand p l e R s m args below meth c T locs cells slots) (hx : p.tables.exec = Jvm.exec) (hZ : Z.Warmed39 s.vm) {own R0 O n d : String} {index : Nat} (hown : s.vm.findClass own = some m.cls) (w : (Cond.fieldLink own index R0 n d).before a0 Z = true) (via : Via Z R0 O n d) (eT : T.heap = h) {v : Value} (F : Sta Z h O n d v) (hd : decode c.code pc = .ok (.getstatic index, 3))
    (go : ∀ T' : State, Stand p l e R s m args below meth c T' locs cells slots → T'.heap = h → Owe p.tables e below G T' (mkF m (pc + 3) Ls (v :: st))) : Owe p.tables e below G T (mkF m pc Ls st) := by
  obtain ⟨T', X', e', st'⟩ := getS X hx hZ (host := "") hown w via eT F (g := mkF m pc Ls st) rfl hd
  exact Owe.by st' (go T' X' e')
theorem Owe.putf (X : Stand p l e R s m args below meth c T locs cells slots) (hx : p.tables.exec = Jvm.exec) (hZ : Z.Warmed39 s.vm) {own R0 O n d host C : String} {index kk : Nat} {ty : FieldType} (hown : s.vm.findClass own = some m.cls) (w : (Cond.fieldLink own index R0 n d).before a0 Z = true ∨ (Cond.fieldLinkNest own index R0 n d host).before a0 Z = true) (via : Via Z R0 O n d) (eT : T.heap = h) {a : Addr} {v old : Value} (F : Fld Z h a O n d old) (E : Exa Z h a C)
    (L : (Cond.lays C O n d).before a0 Z = true ∨ ((Cond.laysFinal C O n d).before a0 Z = true ∧ own = O ∧ meth.name = "<init>")) (wi : (Cond.instantiable C kk).before a0 Z = true) (hty : parseFieldDescriptor d = some ty) (hn : narrow ty v = v) (hf : fits ty v = true) (hd : decode c.code pc = .ok (.putfield index, 3)) {rest : List Value} (hs : st = v :: .ref a :: rest)
    (go : ∀ (T' : State) (h' : Heap), Stand p l e R s m args below meth c T' (locs ++ [⟨a, Jvm.RoadKit.slotOf Z O n d⟩]) cells slots → T'.heap = h' → Wr h h' a (Jvm.RoadKit.slotOf Z O n d) v → Owe p.tables e below G T' (mkF m (pc + 3) Ls rest)) : Owe p.tables e below G T (mkF m pc Ls st) := by
  obtain ⟨T', h', X', e', W', st'⟩ := putF X hx hZ hown w via eT F E L wi hty hn hf (g := mkF m pc Ls st) rfl hs hd
  exact Owe.by st' (go T' h' X' e' W')
theorem Owe.objinit (X : Stand p l e R s m args below meth c T locs cells slots) (hx : p.tables.exec = Jvm.exec) (hZ : Z.Warmed39 s.vm) {own : String} {idx : Nat} (hown : s.vm.findClass own = some m.cls) (w1 : (Cond.methodLink own idx Lib.objectInit).before a0 Z = true) (w2 : (Cond.instanceMethod Lib.objectInit).before a0 Z = true) (w3 : (Cond.code Lib.objectInit ⟨#[0xb1]⟩ 1 none).before a0 Z = true) (eT : T.heap = h) (hsize : Ls.size = c.maxLocals) {a : Addr} {rest : List Value} (hs : st = .ref a :: rest) (hd : decode c.code pc = .ok (.invokespecial idx, 3)) (hf : 1 ≤ R.frames) {W : Nat} (hW : (rest.map fun v => v.category).sum ≤ W) (hl : W + 12 ≤ R.locals)
    (go : ∀ T' : State, Stand p l e R s m args below meth c T' locs cells slots → T'.heap = h → Owe p.tables e below G T' (mkF m (pc + 3) Ls rest)) : Owe p.tables e below G T (mkF m pc Ls st) := by
  obtain ⟨T', X', e', st'⟩ := initO X hx hZ hown w1 w2 w3 eT (g := mkF m pc Ls st) rfl hsize hs hd hf (W := W) (by show 2 * 0 + _ ≤ W; omega) hl
  exact Owe.by st' (go T' X' e')
theorem Owe.castY (X : Stand p l e R s m args below meth c T locs cells slots) (hx : p.tables.exec = Jvm.exec) (hZ : Z.Warmed39 s.vm) {own K : String} {index : Nat} (hown : s.vm.findClass own = some m.cls) (w : (Cond.classLink own index K).before a0 Z = true) (eT : T.heap = h) {a : Addr} (F : Ins Z h a K true) (hd : decode c.code pc = .ok (.checkcast index, 3)) {rest : List Value} (hs : st = .ref a :: rest)
    (go : ∀ T' : State, Stand p l e R s m args below meth c T' locs cells slots → T'.heap = h → Owe p.tables e below G T' (mkF m (pc + 3) Ls st)) : Owe p.tables e below G T (mkF m pc Ls st) := by
  obtain ⟨T', X', e', st'⟩ := Jvm.RoadKit.castY X hx hZ hown w eT F (g := mkF m pc Ls st) rfl hs hd
  exact Owe.by st' (go T' X' e')
theorem Owe.instY (X : Stand p l e R s m args below meth c T locs cells slots) (hx : p.tables.exec = Jvm.exec) (hZ : Z.Warmed39 s.vm) {own K : String} {index : Nat} (hown : s.vm.findClass own = some m.cls) (w : (Cond.classLink own index K).before a0 Z = true) (eT : T.heap = h) {a : Addr} (F : Ins Z h a K true) (hd : decode c.code pc = .ok (.instanceof index, 3)) {rest : List Value} (hs : st = .ref a :: rest)
    (go : ∀ T' : State, Stand p l e R s m args below meth c T' locs cells slots → T'.heap = h → Owe p.tables e below G T' (mkF m (pc + 3) Ls (.int 1 :: rest))) : Owe p.tables e below G T (mkF m pc Ls st) := by
  obtain ⟨T', X', e', st'⟩ := Jvm.RoadKit.instY X hx hZ hown w eT F (g := mkF m pc Ls st) rfl hs hd
  exact Owe.by st' (go T' X' e')
theorem Owe.instNo (X : Stand p l e R s m args below meth c T locs cells slots) (hx : p.tables.exec = Jvm.exec) (hZ : Z.Warmed39 s.vm) {own K C : String} {index : Nat} (hown : s.vm.findClass own = some m.cls) (w : (Cond.classLink own index K).before a0 Z = true) (eT : T.heap = h) {a : Addr} (E : Exa Z h a C) (F : ∃ c t, Z.vm.findClass C = some c ∧ Z.vm.findClass K = some t ∧ Z.vm.assignable c t = false) (hd : decode c.code pc = .ok (.instanceof index, 3)) {rest : List Value} (hs : st = .ref a :: rest)
    (go : ∀ T' : State, Stand p l e R s m args below meth c T' locs cells slots → T'.heap = h → Owe p.tables e below G T' (mkF m (pc + 3) Ls (.int 0 :: rest))) : Owe p.tables e below G T (mkF m pc Ls st) := by
  obtain ⟨T', X', e', st'⟩ := Jvm.RoadKit.instNo X hx hZ hown w eT E F (g := mkF m pc Ls st) rfl hs hd
  exact Owe.by st' (go T' X' e')
theorem Owe.instNull (X : Stand p l e R s m args below meth c T locs cells slots) (hx : p.tables.exec = Jvm.exec) {index : Nat} (hd : decode c.code pc = .ok (.instanceof index, 3)) {rest : List Value} (hs : st = .null :: rest) (go : Owe p.tables e below G T (mkF m (pc + 3) Ls (.int 0 :: rest))) : Owe p.tables e below G T (mkF m pc Ls st) :=
  Owe.by (Jvm.Stand.instanceofNull X hx (g := mkF m pc Ls st) rfl hs hd) go
theorem Owe.aaload (X : Stand p l e R s m args below meth c T locs cells slots) (hx : p.tables.exec = Jvm.exec) (hZ : Z.Warmed39 s.vm) (eT : T.heap = h) {a : Addr} {cl : Cell} {ty : FieldType} (A : Jvm.RoadKit.Arr Z h a cl ty) (hty : ty.isReference = true) {j : Int32} {v : Value} (hin : ¬ (j < 0 ∨ cl.slots.size ≤ j.toNatClampNeg)) (hv : cl.slots[j.toNatClampNeg]? = some v) (hd : decode c.code pc = .ok (.aaload, 1)) {rest : List Value} (hs : st = .int j :: .ref a :: rest)
    (go : Owe p.tables e below G T (mkF m (pc + 1) Ls (v :: rest))) : Owe p.tables e below G T (mkF m pc Ls st) :=
  Owe.by (fun t k => X.aaload hx (by rw [eT]; exact A.1) (State.isArrayOf_alike hZ.alike A.2.1) hty A.2.2 hin hv (g := mkF m pc Ls st) rfl hs hd t k) go
/-! calls by a contract in the Back form of 'backOf' and of the pasted String laws -/
variable {y z : MethodName} {as' : Array Value} {Q : Option Value → Heap → List Loc → Prop} {W kc ks : Nat}
theorem Owe.special (X : Stand p l e R s m args below meth c T locs cells slots) (hx : p.tables.exec = Jvm.exec) {own : String} {index : Nat} (hy1 : y.name = "<init>") (hown : s.vm.findClass own = some m.cls) (hlink : (Cond.methodLink own index y).before args s = true) (hinst : (Cond.instanceMethod y).before args s = true) {bytes : ByteArray} {maxL : Nat} (hcode : (Cond.code y bytes maxL none).before args s = true) (hy : y.cls ≠ "java/lang/invoke/MethodHandle" ∧ y.cls ≠ "java/lang/invoke/VarHandle")
    (hK : Back l R p e below s args y 3 W (fun A a => a = as' ∧ A.U.heap = h ∧ A.cells + kc ≤ R.cells ∧ A.slots + ks ≤ R.slots) (fun A _ v B => ∃ L, Q v B.U.heap L ∧ B.locs = A.locs ++ L ∧ B.cells = A.cells + kc ∧ B.slots = A.slots + ks))
    (hsize : Ls.size = c.maxLocals) {a : Addr} {argsL rest : List Value} (hlen : ∀ sig, parseMethodDescriptor y.desc = some sig → argsL.length = sig.parameters.length) (hs : st = argsL.reverse ++ .ref a :: rest) (hW : (rest.map fun v => v.category).sum ≤ W) (hd : decode c.code pc = .ok (.invokespecial index, 3))
    (has : (.ref a :: argsL).toArray = as') (eT : T.heap = h) (hc : cells + kc ≤ R.cells) (hl : slots + ks ≤ R.slots)
    (go : ∀ (T' : State) (v : Option Value) (L : List Loc), Stand p l e R s m args below meth c T' (locs ++ L) (cells + kc) (slots + ks) → Q v T'.heap L → Owe p.tables e below G T' (mkF m (pc + 3) Ls (v.toList ++ rest))) : Owe p.tables e below G T (mkF m pc Ls st) := by
  obtain ⟨v, _, ⟨T', L', k', n'⟩, -, X', ⟨L, hQ, l', y', z'⟩, st'⟩ := X.specialBack hx hy1 hown hlink hinst hcode hy hK (g := mkF m pc Ls st) rfl hsize (Steps.refl _) hlen hs (by show 2 * 0 + _ ≤ W; omega) hd (fun _ _ => ⟨has, eT, hc, hl⟩)
  dsimp only [Pt.U, Pt.locs, Pt.cells, Pt.slots] at X' l' y' z' st' hQ
  subst l' y' z'
  exact Owe.by (fun t k => st'.trans k) (go T' v L X' hQ)
theorem Owe.virt (X : Stand p l e R s m args below meth c T locs cells slots) (hx : p.tables.exec = Jvm.exec) (hZ : Z.Warmed39 s.vm) {own C : String} {index : Nat} (hown : s.vm.findClass own = some m.cls) (hlink : (Cond.methodLink own index y).before args s = true) (hdecl : (Cond.declares y).before args s = true) (hsel : (Cond.selects C y z).before args s = true) (hinst : (Cond.instanceMethod z).before args s = true) (hnf : NotFace s y) (hy : y.cls ≠ "java/lang/invoke/MethodHandle" ∧ y.cls ≠ "java/lang/invoke/VarHandle")
    (hK : Back l R p e below s args z 3 W (fun A a => a = as' ∧ A.U.heap = h ∧ A.cells + kc ≤ R.cells ∧ A.slots + ks ≤ R.slots) (fun A _ v B => ∃ L, Q v B.U.heap L ∧ B.locs = A.locs ++ L ∧ B.cells = A.cells + kc ∧ B.slots = A.slots + ks))
    (hsize : Ls.size = c.maxLocals) {a : Addr} {argsL rest : List Value} (E : Exa Z h a C) (hlen : ∀ sig, parseMethodDescriptor y.desc = some sig → argsL.length = sig.parameters.length) (hs : st = argsL.reverse ++ .ref a :: rest) (hW : (rest.map fun v => v.category).sum ≤ W) (hd : decode c.code pc = .ok (.invokevirtual index, 3))
    (has : (.ref a :: argsL).toArray = as') (eT : T.heap = h) (hc : cells + kc ≤ R.cells) (hl : slots + ks ≤ R.slots)
    (go : ∀ (T' : State) (v : Option Value) (L : List Loc), Stand p l e R s m args below meth c T' (locs ++ L) (cells + kc) (slots + ks) → Q v T'.heap L → Owe p.tables e below G T' (mkF m (pc + 3) Ls (v.toList ++ rest))) : Owe p.tables e below G T (mkF m pc Ls st) := by
  obtain ⟨cq, kq, qa, qb, qc⟩ := isOf hZ eT E
  obtain ⟨v, _, ⟨T', L', k', n'⟩, -, X', ⟨L, hQ, l', y', z'⟩, st'⟩ := X.virtualBack hx hown hlink hdecl hnf hsel hinst hy hK qa qc (g := mkF m pc Ls st) rfl hsize (Steps.refl _) hlen hs (by show 2 * 0 + _ ≤ W; omega) hd (fun _ _ => ⟨has, eT, hc, hl⟩)
  dsimp only [Pt.U, Pt.locs, Pt.cells, Pt.slots] at X' l' y' z' st' hQ
  subst l' y' z'
  exact Owe.by (fun t k => st'.trans k) (go T' v L X' hQ)
theorem Owe.virtUp (X : Stand p l e R s m args below meth c T locs cells slots) (hx : p.tables.exec = Jvm.exec) (hZ : Z.Warmed39 s.vm) {own C owner : String} {index : Nat} (hown : s.vm.findClass own = some m.cls) (hlink : (Cond.methodLink own index y).before args s = true) (hsame : (Cond.sameMethod y.cls owner y.name y.desc).before args s = true) (hdecl : (Cond.declares ⟨owner, y.name, y.desc⟩).before args s = true) (howner : owner ≠ "java/lang/invoke/MethodHandle" ∧ owner ≠ "java/lang/invoke/VarHandle") (hsel : (Cond.selects C y z).before args s = true) (hinst : (Cond.instanceMethod z).before args s = true)
    (hK : Back l R p e below s args z 3 W (fun A a => a = as' ∧ A.U.heap = h ∧ A.cells + kc ≤ R.cells ∧ A.slots + ks ≤ R.slots) (fun A _ v B => ∃ L, Q v B.U.heap L ∧ B.locs = A.locs ++ L ∧ B.cells = A.cells + kc ∧ B.slots = A.slots + ks))
    (hsize : Ls.size = c.maxLocals) {a : Addr} {argsL rest : List Value} (E : Exa Z h a C) (hlen : ∀ sig, parseMethodDescriptor y.desc = some sig → argsL.length = sig.parameters.length) (hs : st = argsL.reverse ++ .ref a :: rest) (hW : (rest.map fun v => v.category).sum ≤ W) (hd : decode c.code pc = .ok (.invokevirtual index, 3))
    (has : (.ref a :: argsL).toArray = as') (eT : T.heap = h) (hc : cells + kc ≤ R.cells) (hl : slots + ks ≤ R.slots)
    (go : ∀ (T' : State) (v : Option Value) (L : List Loc), Stand p l e R s m args below meth c T' (locs ++ L) (cells + kc) (slots + ks) → Q v T'.heap L → Owe p.tables e below G T' (mkF m (pc + 3) Ls (v.toList ++ rest))) : Owe p.tables e below G T (mkF m pc Ls st) := by
  obtain ⟨cq, kq, qa, qb, qc⟩ := isOf hZ eT E
  obtain ⟨v, _, ⟨T', L', k', n'⟩, -, X', ⟨L, hQ, l', y', z'⟩, st'⟩ := X.virtualBackUp hx hown hlink hsame hdecl howner hsel hinst hK qa qc (g := mkF m pc Ls st) rfl hsize (Steps.refl _) hlen hs (by show 2 * 0 + _ ≤ W; omega) hd (fun _ _ => ⟨has, eT, hc, hl⟩)
  dsimp only [Pt.U, Pt.locs, Pt.cells, Pt.slots] at X' l' y' z' st' hQ
  subst l' y' z'
  exact Owe.by (fun t k => st'.trans k) (go T' v L X' hQ)
theorem Owe.stat (X : Stand p l e R s m args below meth c T locs cells slots) (hx : p.tables.exec = Jvm.exec) {own : String} {index : Nat} {bytes : ByteArray} {maxL : Nat} {ret : Option FieldType} (hown : s.vm.findClass own = some m.cls) (hlink : (Cond.methodLink own index y).before args s = true) (hstat : (Cond.static y).before args s = true) (hinit : (Cond.initialized y.cls).before args s = true) (hcode : (Cond.code y bytes maxL ret).before args s = true) (hy : y.cls ≠ "java/lang/invoke/MethodHandle" ∧ y.cls ≠ "java/lang/invoke/VarHandle")
    (hK : Back l R p e below s args y 3 W (fun A a => a = as' ∧ A.U.heap = h ∧ A.cells + kc ≤ R.cells ∧ A.slots + ks ≤ R.slots) (fun A _ v B => ∃ L, Q v B.U.heap L ∧ B.locs = A.locs ++ L ∧ B.cells = A.cells + kc ∧ B.slots = A.slots + ks))
    (hsize : Ls.size = c.maxLocals) {argsL rest : List Value} (hlen : ∀ sig, parseMethodDescriptor y.desc = some sig → argsL.length = sig.parameters.length) (hs : st = argsL.reverse ++ rest) (hW : (rest.map fun v => v.category).sum ≤ W) (hd : decode c.code pc = .ok (.invokestatic index, 3))
    (has : argsL.toArray = as') (eT : T.heap = h) (hc : cells + kc ≤ R.cells) (hl : slots + ks ≤ R.slots)
    (go : ∀ (T' : State) (v : Option Value) (L : List Loc), Stand p l e R s m args below meth c T' (locs ++ L) (cells + kc) (slots + ks) → Q v T'.heap L → Owe p.tables e below G T' (mkF m (pc + 3) Ls (v.toList ++ rest))) : Owe p.tables e below G T (mkF m pc Ls st) := by
  obtain ⟨v, _, ⟨T', L', k', n'⟩, -, X', ⟨L, hQ, l', y', z'⟩, st'⟩ := Jvm.LawKit.callS X hx hown hlink hstat hinit hcode hy hK (g := mkF m pc Ls st) rfl hsize hlen hs (by show 2 * 0 + _ ≤ W; omega) hd (fun _ _ => ⟨has, eT, hc, hl⟩)
  dsimp only [Pt.U, Pt.locs, Pt.cells, Pt.slots] at X' l' y' z' st' hQ
  subst l' y' z'
  exact Owe.by st' (go T' v L X' hQ)
/-! the end: it returns -/
theorem Owe.retN (X : Stand p l e R s m args below meth c T locs cells slots) (hx : p.tables.exec = Jvm.exec) (hlk : meth.locks = false) {z : Int32} {t : FieldType} {rest : List Value} (hret : meth.sig.returnType = some t) (ht : t = .boolean ∨ t = .byte ∨ t = .char ∨ t = .short) (hd : decode c.code pc = .ok (.ireturn, 1)) (hs : st = .int z :: rest)
    (go : ∀ fs : List Frame, FrameEnd s (.returned (some (.int (nar t z)))) (T.setFrames fs) locs cells slots → G (.returned (some (.int (nar t z)))) (T.setFrames fs)) : Owe p.tables e below G T (mkF m pc Ls st) := by
  subst hs
  obtain ⟨fs, hr, hrun, hended, hW, hsame⟩ := X.leave (v := some (.int (nar t z))) (fun h => by rw [hret] at h; cases h) hlk
  exact ⟨_, _, Jvm.RoadKit.retN X hx hret ht hd hr, hrun, hended, go fs ⟨⟨_, rfl⟩, hW, hsame⟩⟩
theorem Owe.retI (X : Stand p l e R s m args below meth c T locs cells slots) (hx : p.tables.exec = Jvm.exec) (hlk : meth.locks = false) {z : Int32} {rest : List Value} (hret : meth.sig.returnType = some .int) (hd : decode c.code pc = .ok (.ireturn, 1)) (hs : st = .int z :: rest)
    (go : ∀ fs : List Frame, FrameEnd s (.returned (some (.int z))) (T.setFrames fs) locs cells slots → G (.returned (some (.int z))) (T.setFrames fs)) : Owe p.tables e below G T (mkF m pc Ls st) := by
  subst hs
  obtain ⟨fs, hr, hrun, hended, hW, hsame⟩ := X.leave (v := some (.int z)) (fun h => by rw [hret] at h; cases h) hlk
  have hm' : T.vm.method? m = some meth := X.method'
  have hn : narrow .int (.int z) = .int z := rfl
  refine ⟨_, _, ?_, hrun, hended, go fs ⟨⟨_, rfl⟩, hW, hsame⟩⟩
  show Steps p.tables e below (T.setTop { method := m, pc := pc, locals := Ls, stack := _ :: rest, locked := none }) _
  jvm_step X.here [X.here.top, hx, hd, hm', hret, hn]
  first | (intro acts; rw [hr _ acts rfl rfl rfl]) | rw [hr _ _ rfl rfl rfl]
  exact Steps.refl _
theorem Owe.retR (X : Stand p l e R s m args below meth c T locs cells slots) (hx : p.tables.exec = Jvm.exec) (hlk : meth.locks = false) {w : Value} {t : FieldType} {rest : List Value} (hret : meth.sig.returnType = some t) (hn : narrow t w = w) (ht : t.isReference = true) (hw : w.isRef = true) (hd : decode c.code pc = .ok (.areturn, 1)) (hs : st = w :: rest)
    (go : ∀ fs : List Frame, FrameEnd s (.returned (some w)) (T.setFrames fs) locs cells slots → G (.returned (some w)) (T.setFrames fs)) : Owe p.tables e below G T (mkF m pc Ls st) := by
  subst hs
  obtain ⟨fs, hr, hrun, hended, hW, hsame⟩ := X.leave (v := some w) (fun h => by rw [hret] at h; cases h) hlk
  have hm' : T.vm.method? m = some meth := X.method'
  refine ⟨_, _, ?_, hrun, hended, go fs ⟨⟨_, rfl⟩, hW, hsame⟩⟩
  show Steps p.tables e below (T.setTop { method := m, pc := pc, locals := Ls, stack := _ :: rest, locked := none }) _
  jvm_step X.here [X.here.top, hx, hd, hm', hret, hn, hw]
  try (refine ⟨ht, ?_⟩)
  first | (intro acts; rw [hr _ acts rfl rfl rfl]) | rw [hr _ _ rfl rfl rfl]
  exact Steps.refl _
theorem Owe.ret0 (X : Stand p l e R s m args below meth c T locs cells slots) (hx : p.tables.exec = Jvm.exec) (hlk : meth.locks = false) (hret : meth.sig.returnType = none) (hd : decode c.code pc = .ok (.return_, 1)) (hs : st = [])
    (go : ∀ fs : List Frame, FrameEnd s (.returned none) (T.setFrames fs) locs cells slots → G (.returned none) (T.setFrames fs)) : Owe p.tables e below G T (mkF m pc Ls st) := by
  subst hs
  obtain ⟨fs, hr, hrun, hended, hW, hsame⟩ := X.leave (v := none) (fun _ => rfl) hlk
  exact ⟨_, _, X.returnOut hx hret hd hr, hrun, hended, go fs ⟨⟨_, rfl⟩, hW, hsame⟩⟩
end Heavy
theorem frameMono {s t : State} {o : Outcome} {L : List Loc} {k n k' n' : Nat} (h : FrameEnd s o t L k n) (hk : k ≤ k') (hn : n ≤ n') : FrameEnd s o t L k' n' := ⟨h.1, h.2.1, h.2.2.mono hk hn⟩
end Own
end Jvm.Pilot.@@N@@
namespace Jvm.Pilot.@@N@@
namespace Own
open Jvm Jvm.ClassFile Sem Op Lib Jvm.Free Jvm.Stand Jvm.LawKit Jvm.RoadKit
/-! WALKS THAT MAY LOAD A STRING CONSTANT COLD: the Stand is over 's.setVm vm0', 'hS' says what has come since the true start s -/
section Cold
variable {p : Program} {l : Launch} {e : Env} {R : Room} {s : State} {m : MethodId} {args : Array Value} {below : List Frame} {meth : Method} {c : Code} {T : State} {locs : List Loc} {cells slots : Nat} {Z : State} {a0 : Array Value} {h : Heap} {G : Outcome → State → Prop} {pc : Nat} {Ls : Array Slot} {st : List Value} {vm0 : Vm} {k0 : Nat} {EL : List (String × Nat)}
theorem coldMono {s t : State} {o : Outcome} {L : List Loc} {k n k' n' : Nat} (h : ReturnedEndW s o t L k n) (hk : k ≤ k') (hn : n ≤ n') : ReturnedEndW s o t L k' n' := ⟨h.1, h.2.1, h.2.2.1, h.2.2.2.mono hk hn⟩
theorem Owe.ldcO (X : Stand p l e R (s.setVm vm0) m args below meth c T locs cells slots) (hx : p.tables.exec = Jvm.exec) (hZ : Z.Warmed39 (s.setVm vm0).vm) (hS : s.Since vm0 k0) (hEL : EW Z a0 EL) (H : CHv Z EL vm0 h) {own text : String} {index : Nat} (hown : (s.setVm vm0).vm.findClass own = some m.cls) (w : (Cond.stringLink own index text).before a0 Z = true) (wS : ∀ a ∈ Bundle.stringAtoms, a.before a0 Z = true) (eT : T.heap = h) (hk : k0 ≤ h.size) (hd : decode c.code pc = .ok (.ldc index, 2)) {n : Nat} (hn : 4 * text.toList.length ≤ n) (hbig : n ≤ 536870912) (hc : cells + 2 ≤ R.cells) (hl : slots + (n + 4) ≤ R.slots)
    (go : ∀ (a : Addr) (T' : State) (h' : Heap) (k1 : Nat), Stand p l e R (s.setVm T'.vm) m args below meth c T' locs (cells + 2) (slots + (n + 4)) → T'.heap = h' → Ext h h' → s.Since T'.vm k1 → k1 ≤ h'.size → Z.Warmed39 (s.setVm T'.vm).vm → (s.setVm T'.vm).vm.findClass own = some m.cls → CHr Z EL vm0 h T'.vm h' → Lit (s.setVm T'.vm) own index a → Owe p.tables e below G T' (mkF m (pc + 2) Ls (.ref a :: st))) : Owe p.tables e below G T (mkF m pc Ls st) := by
  obtain ⟨a, T', h', k1, X', e', E', hS', hk', hZ', hown', hC', L', st'⟩ := ldcOH X hx hZ hown w wS eT hS hk hEL H (g := mkF m pc Ls st) rfl hd hn hbig hc hl
  exact Owe.by st' (go a T' h' k1 X' e' E' hS' hk' hZ' hown' hC' L')
theorem Owe.ldcV (X : Stand p l e R (s.setVm vm0) m args below meth c T locs cells slots) (hx : p.tables.exec = Jvm.exec) (hZ : Z.Warmed39 (s.setVm vm0).vm) (hS : s.Since vm0 k0) (hEL : EW Z a0 EL) (H : CHv Z EL vm0 h) {own text : String} {index : Nat} (hmem : (own, index) ∈ EL) (hown : (s.setVm vm0).vm.findClass own = some m.cls) (w : (Cond.stringLink own index text).before a0 Z = true) (wS : ∀ a ∈ Bundle.stringAtoms, a.before a0 Z = true) (eT : T.heap = h) (hk : k0 ≤ h.size)
    {vs : List Value} {z : Int32} (ht : (∀ c ∈ text.toList, c.toNat < 256) ∧ text.toList.map (fun c => Value.int (Jvm.Lit.byteI c.toNat.toUInt16)) = vs) (hz : ¬ z < 0) (hlv : z.toNatClampNeg = vs.length) (hd : decode c.code pc = .ok (.ldc index, 2)) {n : Nat} (hn : 4 * text.toList.length ≤ n) (hbig : n ≤ 536870912) (hc : cells + 2 ≤ R.cells) (hl : slots + (n + 4) ≤ R.slots)
    (go : ∀ (a : Addr) (T' : State) (h' : Heap) (k1 : Nat) (b : Addr) (k : ClassId), Stand p l e R (s.setVm T'.vm) m args below meth c T' locs (cells + 2) (slots + (n + 4)) → T'.heap = h' → Ext h h' → s.Since T'.vm k1 → k1 ≤ h'.size → Z.Warmed39 (s.setVm T'.vm).vm → (s.setVm T'.vm).vm.findClass own = some m.cls →
      Exa Z h' a "java/lang/String" → Fld Z h' a "java/lang/String" "coder" "B" (.int 0) → Fld Z h' a "java/lang/String" "value" "[B" (.ref b) → Arv Z h' b k .byte z vs (.int 0) → CHr Z EL vm0 h T'.vm h' → Lit (s.setVm T'.vm) own index a → (∀ x, Safe Z EL T'.vm h' x → x ≠ a ∧ x ≠ b) → Owe p.tables e below G T' (mkF m (pc + 2) Ls (.ref a :: st))) : Owe p.tables e below G T (mkF m pc Ls st) := by
  obtain ⟨a, T', h', k1, b, k, X', e', E', hS', hk', hZ', hown', r1, r2, r3, r4, -, -, r7, r8, r9, st'⟩ := ldcCH X hx hZ hown w wS eT hS hk hEL hmem H ht hz hlv (g := mkF m pc Ls st) rfl hd hn hbig hc hl
  exact Owe.by st' (go a T' h' k1 b k X' e' E' hS' hk' hZ' hown' r1 r2 r3 r4 r7 r8 r9)
theorem Owe.ldcA (X : Stand p l e R (s.setVm vm0) m args below meth c T locs cells slots) (hx : p.tables.exec = Jvm.exec) (hZ : Z.Warmed39 (s.setVm vm0).vm) {own text : String} {index : Nat} (hown : (s.setVm vm0).vm.findClass own = some m.cls) (w : (Cond.stringLink own index text).before a0 Z = true) {a : Addr} (L : Lit (s.setVm vm0) own index a) (hd : decode c.code pc = .ok (.ldc index, 2)) (go : Owe p.tables e below G T (mkF m (pc + 2) Ls (.ref a :: st))) : Owe p.tables e below G T (mkF m pc Ls st) :=
  Owe.by (ldcAgain X hx hZ hown w L (g := mkF m pc Ls st) rfl hd) go
variable {y z : MethodName} {as' : Array Value} {Q : Option Value → Heap → List Loc → Prop} {W kc ks : Nat}
theorem Owe.specialS (X : Stand p l e R (s.setVm vm0) m args below meth c T locs cells slots) (hx : p.tables.exec = Jvm.exec) (hZ : Z.Warmed39 (s.setVm vm0).vm) (hS : s.Since vm0 k0) (hk : k0 ≤ h.size) {own : String} {index : Nat} (hy1 : y.name = "<init>") (hown : (s.setVm vm0).vm.findClass own = some m.cls) (hlink : (Cond.methodLink own index y).before args (s.setVm vm0) = true) (hinst : (Cond.instanceMethod y).before args (s.setVm vm0) = true) {bytes : ByteArray} {maxL : Nat} (hcode : (Cond.code y bytes maxL none).before args (s.setVm vm0) = true) (hy : y.cls ≠ "java/lang/invoke/MethodHandle" ∧ y.cls ≠ "java/lang/invoke/VarHandle")
    (hK : BackS l R p e below (s.setVm vm0) args y 3 W (fun A a => a = as' ∧ A.U.heap = h ∧ A.cells + kc ≤ R.cells ∧ A.slots + ks ≤ R.slots) (fun A _ v B => ∃ L, Q v B.U.heap L ∧ B.locs = A.locs ++ L ∧ B.cells = A.cells + kc ∧ B.slots = A.slots + ks ∧ CHr Z EL vm0 h B.U.vm B.U.heap))
    (hsize : Ls.size = c.maxLocals) {a : Addr} {argsL rest : List Value} (hlen : ∀ sig, parseMethodDescriptor y.desc = some sig → argsL.length = sig.parameters.length) (hs : st = argsL.reverse ++ .ref a :: rest) (hW : (rest.map fun v => v.category).sum ≤ W) (hd : decode c.code pc = .ok (.invokespecial index, 3))
    (has : (.ref a :: argsL).toArray = as') (eT : T.heap = h) (hc : cells + kc ≤ R.cells) (hl : slots + ks ≤ R.slots)
    (go : ∀ (T' : State) (v : Option Value) (L : List Loc), Stand p l e R (s.setVm T'.vm) m args below meth c T' (locs ++ L) (cells + kc) (slots + ks) → s.Since T'.vm T'.heap.size → Z.Warmed39 (s.setVm T'.vm).vm → (s.setVm T'.vm).vm.findClass own = some m.cls → CHr Z EL vm0 h T'.vm T'.heap → Q v T'.heap L → Owe p.tables e below G T' (mkF m (pc + 3) Ls (v.toList ++ rest))) : Owe p.tables e below G T (mkF m pc Ls st) := by
  obtain ⟨v, _, ⟨T', L', k', n'⟩, -, X', hS', hg', ⟨L, hQ, l', y', z', hC'⟩, st'⟩ := X.specialBackS hx hy1 hown hlink hinst hcode hy hK (g := mkF m pc Ls st) rfl hsize (Steps.refl _) hlen hs (by show 2 * 0 + _ ≤ W; omega) hd (fun _ _ => ⟨has, eT, hc, hl⟩)
  dsimp only [Pt.U, Pt.locs, Pt.cells, Pt.slots] at X' l' y' z' st' hQ hS' hg' hC'
  subst l' y' z'
  exact Owe.by (fun t k => st'.trans k) (go T' v L X' (hS.trans hS' (Nat.le_trans hk (eT ▸ hg'))) (State.Warmed39.trans (t := s.setVm vm0) hZ hS'.1) (by rw [show (s.setVm T'.vm).vm = T'.vm from rfl, hS'.1.alike.findClass]; exact hown) hC' hQ)
theorem Owe.virtS (X : Stand p l e R (s.setVm vm0) m args below meth c T locs cells slots) (hx : p.tables.exec = Jvm.exec) (hZ : Z.Warmed39 (s.setVm vm0).vm) (hS : s.Since vm0 k0) (hk : k0 ≤ h.size) {own C : String} {index : Nat} (hown : (s.setVm vm0).vm.findClass own = some m.cls) (hlink : (Cond.methodLink own index y).before args (s.setVm vm0) = true) (hdecl : (Cond.declares y).before args (s.setVm vm0) = true) (hsel : (Cond.selects C y z).before args (s.setVm vm0) = true) (hinst : (Cond.instanceMethod z).before args (s.setVm vm0) = true) (hnf : NotFace (s.setVm vm0) y) (hy : y.cls ≠ "java/lang/invoke/MethodHandle" ∧ y.cls ≠ "java/lang/invoke/VarHandle")
    (hK : BackS l R p e below (s.setVm vm0) args z 3 W (fun A a => a = as' ∧ A.U.heap = h ∧ A.cells + kc ≤ R.cells ∧ A.slots + ks ≤ R.slots) (fun A _ v B => ∃ L, Q v B.U.heap L ∧ B.locs = A.locs ++ L ∧ B.cells = A.cells + kc ∧ B.slots = A.slots + ks ∧ CHr Z EL vm0 h B.U.vm B.U.heap))
    (hsize : Ls.size = c.maxLocals) {a : Addr} {argsL rest : List Value} (E : Exa Z h a C) (hlen : ∀ sig, parseMethodDescriptor y.desc = some sig → argsL.length = sig.parameters.length) (hs : st = argsL.reverse ++ .ref a :: rest) (hW : (rest.map fun v => v.category).sum ≤ W) (hd : decode c.code pc = .ok (.invokevirtual index, 3))
    (has : (.ref a :: argsL).toArray = as') (eT : T.heap = h) (hc : cells + kc ≤ R.cells) (hl : slots + ks ≤ R.slots)
    (go : ∀ (T' : State) (v : Option Value) (L : List Loc), Stand p l e R (s.setVm T'.vm) m args below meth c T' (locs ++ L) (cells + kc) (slots + ks) → s.Since T'.vm T'.heap.size → Z.Warmed39 (s.setVm T'.vm).vm → (s.setVm T'.vm).vm.findClass own = some m.cls → CHr Z EL vm0 h T'.vm T'.heap → Q v T'.heap L → Owe p.tables e below G T' (mkF m (pc + 3) Ls (v.toList ++ rest))) : Owe p.tables e below G T (mkF m pc Ls st) := by
  obtain ⟨cq, kq, qa, qb, qc⟩ := isOf hZ eT E
  obtain ⟨v, _, ⟨T', L', k', n'⟩, -, X', hS', hg', ⟨L, hQ, l', y', z', hC'⟩, st'⟩ := X.virtualBackS hx hown hlink hdecl hnf hsel hinst hy hK qa qc (g := mkF m pc Ls st) rfl hsize (Steps.refl _) hlen hs (by show 2 * 0 + _ ≤ W; omega) hd (fun _ _ => ⟨has, eT, hc, hl⟩)
  dsimp only [Pt.U, Pt.locs, Pt.cells, Pt.slots] at X' l' y' z' st' hQ hS' hg' hC'
  subst l' y' z'
  exact Owe.by (fun t k => st'.trans k) (go T' v L X' (hS.trans hS' (Nat.le_trans hk (eT ▸ hg'))) (State.Warmed39.trans (t := s.setVm vm0) hZ hS'.1) (by rw [show (s.setVm T'.vm).vm = T'.vm from rfl, hS'.1.alike.findClass]; exact hown) hC' hQ)
theorem Owe.statS (X : Stand p l e R (s.setVm vm0) m args below meth c T locs cells slots) (hx : p.tables.exec = Jvm.exec) (hZ : Z.Warmed39 (s.setVm vm0).vm) (hS : s.Since vm0 k0) (hk : k0 ≤ h.size) {own : String} {index : Nat} {bytes : ByteArray} {maxL : Nat} {ret : Option FieldType} (hown : (s.setVm vm0).vm.findClass own = some m.cls) (hlink : (Cond.methodLink own index y).before args (s.setVm vm0) = true) (hstat : (Cond.static y).before args (s.setVm vm0) = true) (hinit : (Cond.initialized y.cls).before args (s.setVm vm0) = true) (hcode : (Cond.code y bytes maxL ret).before args (s.setVm vm0) = true) (hy : y.cls ≠ "java/lang/invoke/MethodHandle" ∧ y.cls ≠ "java/lang/invoke/VarHandle")
    (hK : BackS l R p e below (s.setVm vm0) args y 3 W (fun A a => a = as' ∧ A.U.heap = h ∧ A.cells + kc ≤ R.cells ∧ A.slots + ks ≤ R.slots) (fun A _ v B => ∃ L, Q v B.U.heap L ∧ B.locs = A.locs ++ L ∧ B.cells = A.cells + kc ∧ B.slots = A.slots + ks ∧ CHr Z EL vm0 h B.U.vm B.U.heap))
    (hsize : Ls.size = c.maxLocals) {argsL rest : List Value} (hlen : ∀ sig, parseMethodDescriptor y.desc = some sig → argsL.length = sig.parameters.length) (hs : st = argsL.reverse ++ rest) (hW : (rest.map fun v => v.category).sum ≤ W) (hd : decode c.code pc = .ok (.invokestatic index, 3))
    (has : argsL.toArray = as') (eT : T.heap = h) (hc : cells + kc ≤ R.cells) (hl : slots + ks ≤ R.slots)
    (go : ∀ (T' : State) (v : Option Value) (L : List Loc), Stand p l e R (s.setVm T'.vm) m args below meth c T' (locs ++ L) (cells + kc) (slots + ks) → s.Since T'.vm T'.heap.size → Z.Warmed39 (s.setVm T'.vm).vm → (s.setVm T'.vm).vm.findClass own = some m.cls → CHr Z EL vm0 h T'.vm T'.heap → Q v T'.heap L → Owe p.tables e below G T' (mkF m (pc + 3) Ls (v.toList ++ rest))) : Owe p.tables e below G T (mkF m pc Ls st) := by
  obtain ⟨v, _, ⟨T', L', k', n'⟩, -, X', hS', hg', ⟨L, hQ, l', y', z', hC'⟩, st'⟩ := callSS X hx hown hlink hstat hinit hcode hy hK (g := mkF m pc Ls st) rfl hsize hlen hs (by show 2 * 0 + _ ≤ W; omega) hd (fun _ _ => ⟨has, eT, hc, hl⟩)
  dsimp only [Pt.U, Pt.locs, Pt.cells, Pt.slots] at X' l' y' z' st' hQ hS' hg' hC'
  subst l' y' z'
  exact Owe.by (fun t k => st'.trans k) (go T' v L X' (hS.trans hS' (Nat.le_trans hk (eT ▸ hg'))) (State.Warmed39.trans (t := s.setVm vm0) hZ hS'.1) (by rw [show (s.setVm T'.vm).vm = T'.vm from rfl, hS'.1.alike.findClass]; exact hown) hC' hQ)
theorem Owe.retNW (X : Stand p l e R (s.setVm vm0) m args below meth c T locs cells slots) (hx : p.tables.exec = Jvm.exec) (hS : s.Since vm0 k0) (eT : T.heap = h) (hk : k0 ≤ h.size) (hlk : meth.locks = false) {z : Int32} {t : FieldType} {rest : List Value} (hret : meth.sig.returnType = some t) (ht : t = .boolean ∨ t = .byte ∨ t = .char ∨ t = .short) (hd : decode c.code pc = .ok (.ireturn, 1)) (hs : st = .int z :: rest)
    (go : ∀ fs : List Frame, ReturnedEndW s (.returned (some (.int (nar t z)))) (T.setFrames fs) locs cells slots → G (.returned (some (.int (nar t z)))) (T.setFrames fs)) : Owe p.tables e below G T (mkF m pc Ls st) := by
  subst hs
  obtain ⟨fs, hr, hrun, hended, hE⟩ := X.leaveW hS (eT ▸ hk) (v := some (.int (nar t z))) (fun h => by rw [hret] at h; cases h) hlk
  exact ⟨_, _, Jvm.RoadKit.retN X hx hret ht hd hr, hrun, hended, go fs hE⟩
theorem Owe.retRW (X : Stand p l e R (s.setVm vm0) m args below meth c T locs cells slots) (hx : p.tables.exec = Jvm.exec) (hS : s.Since vm0 k0) (eT : T.heap = h) (hk : k0 ≤ h.size) (hlk : meth.locks = false) {w : Value} {t : FieldType} {rest : List Value} (hret : meth.sig.returnType = some t) (hn : narrow t w = w) (ht : t.isReference = true) (hw : w.isRef = true) (hd : decode c.code pc = .ok (.areturn, 1)) (hs : st = w :: rest)
    (go : ∀ fs : List Frame, ReturnedEndW s (.returned (some w)) (T.setFrames fs) locs cells slots → G (.returned (some w)) (T.setFrames fs)) : Owe p.tables e below G T (mkF m pc Ls st) := by
  subst hs
  obtain ⟨fs, hr, hrun, hended, hE⟩ := X.leaveW hS (eT ▸ hk) (v := some w) (fun h => by rw [hret] at h; cases h) hlk
  have hm' : T.vm.method? m = some meth := X.method'
  refine ⟨_, _, ?_, hrun, hended, go fs hE⟩
  show Steps p.tables e below (T.setTop { method := m, pc := pc, locals := Ls, stack := _ :: rest, locked := none }) _
  jvm_step X.here [X.here.top, hx, hd, hm', hret, hn, hw]
  try (refine ⟨ht, ?_⟩)
  first | (intro acts; rw [hr _ acts rfl rfl rfl]) | rw [hr _ _ rfl rfl rfl]
  exact Steps.refl _
theorem Owe.ret0W (X : Stand p l e R (s.setVm vm0) m args below meth c T locs cells slots) (hx : p.tables.exec = Jvm.exec) (hS : s.Since vm0 k0) (eT : T.heap = h) (hk : k0 ≤ h.size) (hlk : meth.locks = false) (hret : meth.sig.returnType = none) (hd : decode c.code pc = .ok (.return_, 1)) (hs : st = [])
    (go : ∀ fs : List Frame, ReturnedEndW s (.returned none) (T.setFrames fs) locs cells slots → G (.returned none) (T.setFrames fs)) : Owe p.tables e below G T (mkF m pc Ls st) := by
  subst hs
  obtain ⟨fs, hr, hrun, hended, hE⟩ := X.leaveW hS (eT ▸ hk) (v := none) (fun _ => rfl) hlk
  exact ⟨_, _, X.returnOut hx hret hd hr, hrun, hended, go fs hE⟩
end Cold
end Own
end Jvm.Pilot.@@N@@
namespace Jvm.Pilot.@@N@@
open Jvm Jvm.ClassFile Sem Op Lib Jvm.Free Jvm.Stand Jvm.LawKit Jvm.RoadKit Bundle Jvm.Pilot.@@N@@.Jvm.D Jvm.Pilot.@@N@@.Own
theorem and255_chars (x : Int32) : ¬ nar .char ((x &&& (255 : Int32)).toUInt32.toUInt16.toUInt32.toInt32) < 0 ∧ ¬ (255 : Int32) < nar .char ((x &&& (255 : Int32)).toUInt32.toUInt16.toUInt32.toInt32) := by
  have t : ∀ k : Fin 256, ¬ nar .char ((Int32.ofNat k.val).toUInt32.toUInt16.toUInt32.toInt32) < 0 ∧ ¬ (255 : Int32) < nar .char ((Int32.ofNat k.val).toUInt32.toUInt16.toUInt32.toInt32) := by decide +kernel
  have h : (x &&& 255).toBitVec.toNat < 256 := by
    simp only [Int32.toBitVec_and, BitVec.toNat_and]
    exact Nat.lt_succ_of_le Nat.and_le_right
  have e : (x &&& 255) = Int32.ofNat (x &&& 255).toBitVec.toNat := by
    apply Int32.toBitVec_inj.mp
    show _ = BitVec.ofNat 32 _
    rw [BitVec.ofNat_toNat]; simp
  rw [e]
  exact t ⟨_, h⟩
theorem own_narrow_ref {v : Value} {t : FieldType} (h : v.isRef = true) (ht : t.isReference = true) : narrow t v = v := by cases t <;> first | (cases ht; done) | (cases v <;> first | rfl | (cases h; done))
theorem own_fits_ref {v : Value} {t : FieldType} (h : v.isRef = true) (ht : t.isReference = true) : fits t v = true := by cases t <;> first | (cases ht; done) | (cases v <;> first | rfl | (cases h; done))
theorem own_cat_ref {v : Value} (h : v.isRef = true) : v.category = 1 := by cases v <;> first | rfl | (cases h; done)
theorem own_rem3 (x : Int32) : ((x &&& (2147483647 : Int32)) - ((x &&& (2147483647 : Int32)) / (3 : Int32)) * (3 : Int32)) = (0 : Int32) ∨ ((x &&& (2147483647 : Int32)) - ((x &&& (2147483647 : Int32)) / (3 : Int32)) * (3 : Int32)) = (1 : Int32) ∨ ((x &&& (2147483647 : Int32)) - ((x &&& (2147483647 : Int32)) / (3 : Int32)) * (3 : Int32)) = (2 : Int32) := by
  have h0 := c_and x (2147483647 : Int32) (by decide)
  generalize (x &&& (2147483647 : Int32)) = k at h0 ⊢
  have h1 := (c_idiv k (3 : Int32) 3 (by decide) (by decide)).1 h0.1
  have h2 := c_imul (k / (3 : Int32)) (3 : Int32)
  have h3 := c_isub k (k / (3 : Int32) * (3 : Int32))
  have r1 := rng32 (k / (3 : Int32) * (3 : Int32)); have r2 := rng32 (k - k / (3 : Int32) * (3 : Int32)); have r3 := rng32 k
  rw [h1, show ((3 : Int32)).toInt = 3 from rfl] at h2
  have e : (k - k / (3 : Int32) * (3 : Int32)).toInt = 0 ∨ (k - k / (3 : Int32) * (3 : Int32)).toInt = 1 ∨ (k - k / (3 : Int32) * (3 : Int32)).toInt = 2 := by omega
  simp only [← Int32.toInt_inj]
  exact e
def own_EL : List (String × Nat) := [("java/lang/String", 7)]
theorem own_ew {Z : State} {a0 : Array Value} (hw : ∀ d ∈ tables_1, d.before a0 Z = true) : EW Z a0 own_EL := EW.cons (hw _ (List.mem_of_getElem? (i := 15) rfl)) (by decide) (EW.nil)
theorem own_sa : ∀ d ∈ Bundle.stringAtoms, d ∈ tables_1 := by decide +kernel
theorem own_wS {Z : State} {a0 : Array Value} (hw : ∀ d ∈ tables_1, d.before a0 Z = true) : ∀ a ∈ Bundle.stringAtoms, a.before a0 Z = true := fun d hd => hw d (own_sa d hd)
theorem own_safe_null {Z : State} {EL : List (String × Nat)} {vm : Vm} {h : Heap} {x : Addr} (hal : Z.vm.Alike vm) (E : Exa Z h x "java/lang/String") (F : Fld Z h x "java/lang/String" "value" "[B" .null) : Safe Z EL vm h x := fun B => by
  obtain ⟨p, -, u, a, -, q, -, S, rfl | rfl⟩ := B
  · obtain ⟨cS, ⟨⟨s1, -, -, ⟨c1, k1, i1, f1, -⟩, -, -, -, v1, -⟩, -⟩, -⟩ := S
    obtain ⟨cell, cf, k, i, f, h1, h2, -, -, -, -, h7⟩ := F
    cases h1.symm.trans (show h[q.sa]? = some q.sC from s1)
    obtain ⟨k3, e3, -⟩ := State.fieldFound?_setVm (s := Z) hal h2
    have e4 := (show (Wst Z vm h).fieldFound? _ _ _ = _ from e3).symm.trans f1
    simp only [Option.some.injEq, Prod.mk.injEq] at e4
    rw [e4.2.2.2, v1] at h7
    cases h7
  · obtain ⟨cell, k, e1, e2, e3, -, -⟩ := E
    cases (show h[q.sd]? = some q.SA from S.hd).symm.trans e1
    obtain ⟨cS, -, -, f, -⟩ := S
    have f' : Z.vm.findClass "[B" = some q.SA.cls := by rw [← hal.findClass]; exact f
    obtain ⟨k1, q1, q2⟩ := Vm.findClass_spec f'
    obtain ⟨k2, q3, q4⟩ := Vm.findClass_spec e2
    cases q1.symm.trans q3
    exact absurd (q2.symm.trans q4) (by decide)
theorem own_words : ∀ d ∈ StrChars.Road.words, d ∈ tables_1 := by decide +kernel
theorem pd_0 : parseMethodDescriptor "(C)Z" = some ⟨[.char], some .boolean⟩ := by decide +kernel
theorem pd_1 : parseMethodDescriptor "(C)[B" = some ⟨[.char], some (.array .byte)⟩ := by decide +kernel
theorem pd_2 : parseMethodDescriptor "([BB)V" = some ⟨[(.array .byte), .byte], none⟩ := by decide +kernel
theorem pd_3 : parseMethodDescriptor "([CIILjava/lang/Void;)V" = some ⟨[(.array .char), .int, .int, (.object "java/lang/Void")], none⟩ := by decide +kernel
theorem pd_4 : parseMethodDescriptor "()V" = some ⟨[], none⟩ := by decide +kernel
theorem pd_5 : parseMethodDescriptor "([C)V" = some ⟨[(.array .char)], none⟩ := by decide +kernel
theorem pd_6 : parseMethodDescriptor "(JLjava/lang/String;)V" = some ⟨[.long, (.object "java/lang/String")], none⟩ := by decide +kernel
theorem pd_7 : parseMethodDescriptor "()Z" = some ⟨[], some .boolean⟩ := by decide +kernel
theorem pd_8 : parseMethodDescriptor "(C)Ljava/lang/String;" = some ⟨[.char], some (.object "java/lang/String")⟩ := by decide +kernel
theorem d0_0 : decode jdk_30_method_1_code 0 = .ok (.aload_n 0, 1) := by decide +kernel
theorem d0_1 : decode jdk_30_method_1_code 1 = .ok (.invokespecial 1, 3) := by decide +kernel
theorem d0_4 : decode jdk_30_method_1_code 4 = .ok (.return_, 1) := by decide +kernel
theorem pn_rec : plainName "java/lang/Record" = true := by first | (simp [plainName, overriddenIn]; done) | decide +kernel
theorem ef_rec (m : MethodId) (x0 : Addr)  : entryFrame m #[(.ref x0)] 1 = mkF m 0 #[.val (.ref x0)] [] := by first | (simp [entryFrame, mkF, argsToLocals, Value.category]; done) | rfl
def Qrec (Z : State) (a1 : Addr) (h0 : Heap) (n0 : Nat) (v : Option Value) (h : Heap) (L : List Loc) : Prop := v = none ∧ Fr n0 L ∧ h = h0
set_option maxRecDepth 65536 in
set_option maxHeartbeats 40000000 in
theorem rmrec (l : Launch) (Z : State) (a0 : Array Value) (hw : ∀ d ∈ tables_1, d.before a0 Z = true) (ws : List Jvm.Cond) (a1 : Addr) (h0 : Heap) (n0 : Nat) (Z0 : n0 ≤ h0.size)  :
    MetFree l (⟨"java/lang/Record", "<init>", "()V"⟩ : MethodName) (head1 (Jvm.Cond.code (⟨"java/lang/Record", "<init>", "()V"⟩ : MethodName) jdk_30_method_1_code 1 none :: ws) ({ frames := 1, cells := 0, slots := 0, locals := 12 } : Room)) (fun a U => a = #[(.ref a1)] ∧ Z.Warmed39 U.vm ∧ U.heap = h0) (fun _ _ _ _ _ => True) (fun _ U o U' => ∃ v L, o = .returned v ∧ Qrec Z a1 h0 n0 v U'.heap L ∧ FrameEnd U o U' L ({ frames := 1, cells := 0, slots := 0, locals := 12 } : Room).cells ({ frames := 1, cells := 0, slots := 0, locals := 12 } : Room).slots) := by
  refine MetFree.of_bodySF (plainFor_of_name pn_rec) hisR ?_
  intro p e s m args below meth c s₁ Bd hml0 hP hK
  obtain ⟨rfl, hZ, hh⟩ := hP
  have hx := Bd.exec
  have hby := Bd.bytes
  have hml : c.maxLocals = 1 := hml0
  have hown : s.vm.findClass "java/lang/Record" = some m.cls := findClass_of_methodNamed Bd.named
  have hnm := (name_of_methodNamed Bd.named Bd.method).1
  have hlk : meth.locks = false := BodyLoose.notSynchronized Bd
  have X0 : Stand p l e ({ frames := 1, cells := 0, slots := 0, locals := 12 } : Room) s m #[(.ref a1)] below meth c s₁ [] 0 0 := Stand.of_body Bd
  have e0 : s₁.heap = h0 := by rw [← hh, Bd.state]; rfl
  have N0 := Fr.nil n0
  obtain ⟨G, hG⟩ : ∃ G : Outcome → State → Prop, G = fun o u => ∃ v L, o = .returned v ∧ Qrec Z a1 h0 n0 v u.heap L ∧ FrameEnd s o u L ({ frames := 1, cells := 0, slots := 0, locals := 12 } : Room).cells ({ frames := 1, cells := 0, slots := 0, locals := 12 } : Room).slots := ⟨_, rfl⟩
  suffices hgo : Owe p.tables e below G s₁ (mkF m 0 #[.val (.ref a1)] []) by
    obtain ⟨u, o, h1, h2, h3, h4⟩ := hgo
    exact ⟨u, o, castTop (ef_rec m a1) h1, h2, h3, by rw [hG] at h4; exact h4⟩
  refine Owe.aloadN X0.here hx (hb hby d0_0) rfl rfl ?_
  refine Owe.objinit X0 hx hZ hown (hw _ (List.mem_of_getElem? (i := 34) rfl)) (hw _ (List.mem_of_getElem? (i := 13) rfl)) (hw _ (List.mem_of_getElem? (i := 14) rfl)) e0 (by rw [hml]; rfl) rfl (hb hby d0_1) (by decide) (W := 0) (Nat.le_of_ble_eq_true rfl) (by decide) fun T1 X1 e1 => ?_
  refine Owe.ret0 X1 hx hlk Bd.returns (hb hby d0_4) rfl fun fs hE => ?_
  rw [hG]
  refine ⟨_, _, rfl, ?_, frameMono hE (by decide) (by decide)⟩
  show Qrec Z a1 h0 n0 _ T1.heap _
  rw [e1]
  exact ⟨rfl, N0, rfl⟩
theorem d1_0 : decode jdk_43_method_3_code 0 = .ok (.iload_n 0, 1) := by decide +kernel
theorem d1_1 : decode jdk_43_method_3_code 1 = .ok (.sipush 255, 3) := by decide +kernel
theorem d1_4 : decode jdk_43_method_3_code 4 = .ok (.if_icmp .gt 7, 3) := by decide +kernel
theorem d1_7 : decode jdk_43_method_3_code 7 = .ok (.iconst 1, 1) := by decide +kernel
theorem d1_8 : decode jdk_43_method_3_code 8 = .ok (.goto 4, 3) := by decide +kernel
theorem d1_11 : decode jdk_43_method_3_code 11 = .ok (.iconst 0, 1) := by decide +kernel
theorem d1_12 : decode jdk_43_method_3_code 12 = .ok (.ireturn, 1) := by decide +kernel
theorem pn_cen : plainName "java/lang/StringLatin1" = true := by first | (simp [plainName, overriddenIn]; done) | decide +kernel
theorem ef_cen (m : MethodId) (x0 : Int32)  : entryFrame m #[(.int x0)] 1 = mkF m 0 #[.val (.int x0)] [] := by first | (simp [entryFrame, mkF, argsToLocals, Value.category]; done) | rfl
def Qcen (Z : State) (c1 : Int32) (h0 : Heap) (n0 : Nat) (v : Option Value) (h : Heap) (L : List Loc) : Prop := v = some (.int (1 : Int32)) ∧ Fr n0 L ∧ h = h0
set_option maxRecDepth 65536 in
set_option maxHeartbeats 40000000 in
theorem rmcen (l : Launch) (Z : State) (a0 : Array Value) (hw : ∀ d ∈ tables_1, d.before a0 Z = true) (ws : List Jvm.Cond) (c1 : Int32) (h0 : Heap) (n0 : Nat) (Z0 : n0 ≤ h0.size) (hle : ¬ (255 : Int32) < c1) :
    MetFree l (⟨"java/lang/StringLatin1", "canEncode", "(C)Z"⟩ : MethodName) (head1 (Jvm.Cond.code (⟨"java/lang/StringLatin1", "canEncode", "(C)Z"⟩ : MethodName) jdk_43_method_3_code 1 (some .boolean) :: ws) ({ frames := 0, cells := 0, slots := 0, locals := 0 } : Room)) (fun a U => a = #[(.int c1)] ∧ Z.Warmed39 U.vm ∧ U.heap = h0) (fun _ _ _ _ _ => True) (fun _ U o U' => ∃ v L, o = .returned v ∧ Qcen Z c1 h0 n0 v U'.heap L ∧ FrameEnd U o U' L ({ frames := 0, cells := 0, slots := 0, locals := 0 } : Room).cells ({ frames := 0, cells := 0, slots := 0, locals := 0 } : Room).slots) := by
  refine MetFree.of_bodySF (plainFor_of_name pn_cen) hisR ?_
  intro p e s m args below meth c s₁ Bd hml0 hP hK
  obtain ⟨rfl, hZ, hh⟩ := hP
  have hx := Bd.exec
  have hby := Bd.bytes
  have hml : c.maxLocals = 1 := hml0
  have hown : s.vm.findClass "java/lang/StringLatin1" = some m.cls := findClass_of_methodNamed Bd.named
  have hnm := (name_of_methodNamed Bd.named Bd.method).1
  have hlk : meth.locks = false := BodyLoose.notSynchronized Bd
  have X0 : Stand p l e ({ frames := 0, cells := 0, slots := 0, locals := 0 } : Room) s m #[(.int c1)] below meth c s₁ [] 0 0 := Stand.of_body Bd
  have e0 : s₁.heap = h0 := by rw [← hh, Bd.state]; rfl
  have N0 := Fr.nil n0
  obtain ⟨G, hG⟩ : ∃ G : Outcome → State → Prop, G = fun o u => ∃ v L, o = .returned v ∧ Qcen Z c1 h0 n0 v u.heap L ∧ FrameEnd s o u L ({ frames := 0, cells := 0, slots := 0, locals := 0 } : Room).cells ({ frames := 0, cells := 0, slots := 0, locals := 0 } : Room).slots := ⟨_, rfl⟩
  suffices hgo : Owe p.tables e below G s₁ (mkF m 0 #[.val (.int c1)] []) by
    obtain ⟨u, o, h1, h2, h3, h4⟩ := hgo
    exact ⟨u, o, castTop (ef_cen m c1) h1, h2, h3, by rw [hG] at h4; exact h4⟩
  refine Owe.iloadN X0.here hx (hb hby d1_0) rfl ?_
  refine Owe.sipush X0.here hx (hb hby d1_1) (w := (255 : Int32)) rfl ?_
  refine Owe.icmpNo X0.here hx (hb hby d1_4) rfl (flt hle).2.2.1 ?_
  refine Owe.iconst X0.here hx (hb hby d1_7) (w := (1 : Int32)) rfl ?_
  refine Owe.goto X0.here hx (hb hby d1_8) (pc' := 12) (by decide) (by decide) ?_
  refine Owe.retN X0 hx hlk (t := .boolean) Bd.returns (by simp) (hb hby d1_12) rfl fun fs hE => ?_
  rw [hG]
  refine ⟨_, _, rfl, ?_, frameMono hE (by decide) (by decide)⟩
  show Qcen Z c1 h0 n0 _ s₁.heap _
  rw [e0]
  exact ⟨rfl, N0, rfl⟩
theorem d2_0 : decode jdk_43_method_46_code 0 = .ok (.iconst 1, 1) := by decide +kernel
theorem d2_1 : decode jdk_43_method_46_code 1 = .ok (.newarray .byte, 2) := by decide +kernel
theorem d2_3 : decode jdk_43_method_46_code 3 = .ok (.dup, 1) := by decide +kernel
theorem d2_4 : decode jdk_43_method_46_code 4 = .ok (.iconst 0, 1) := by decide +kernel
theorem d2_5 : decode jdk_43_method_46_code 5 = .ok (.iload_n 0, 1) := by decide +kernel
theorem d2_6 : decode jdk_43_method_46_code 6 = .ok (.i2b, 1) := by decide +kernel
theorem d2_7 : decode jdk_43_method_46_code 7 = .ok (.bastore, 1) := by decide +kernel
theorem d2_8 : decode jdk_43_method_46_code 8 = .ok (.areturn, 1) := by decide +kernel
theorem pn_tob : plainName "java/lang/StringLatin1" = true := by first | (simp [plainName, overriddenIn]; done) | decide +kernel
theorem ef_tob (m : MethodId) (x0 : Int32)  : entryFrame m #[(.int x0)] 1 = mkF m 0 #[.val (.int x0)] [] := by first | (simp [entryFrame, mkF, argsToLocals, Value.category]; done) | rfl
def Qtob (Z : State) (c1 : Int32) (h0 : Heap) (n0 : Nat) (v : Option Value) (h : Heap) (L : List Loc) : Prop := ∃ (t1 : Addr), ∃ (k1 : ClassId), v = some (.ref t1) ∧ Fr n0 L ∧ Keep h0 h [] ∧ n0 ≤ t1 ∧ h0.size ≤ t1 ∧ Arv Z h t1 k1 .byte (1 : Int32) [(.int (c1.toInt8.toInt32.toInt8.toInt32))] (.int (0 : Int32))
set_option maxRecDepth 65536 in
set_option maxHeartbeats 40000000 in
theorem rmtob (l : Launch) (Z : State) (a0 : Array Value) (hw : ∀ d ∈ tables_1, d.before a0 Z = true) (ws : List Jvm.Cond) (c1 : Int32) (h0 : Heap) (n0 : Nat) (Z0 : n0 ≤ h0.size)  :
    MetFree l (⟨"java/lang/StringLatin1", "toBytes", "(C)[B"⟩ : MethodName) (head1 (Jvm.Cond.code (⟨"java/lang/StringLatin1", "toBytes", "(C)[B"⟩ : MethodName) jdk_43_method_46_code 1 (some (.array .byte)) :: ws) ({ frames := 0, cells := 1, slots := 1, locals := 0 } : Room)) (fun a U => a = #[(.int c1)] ∧ Z.Warmed39 U.vm ∧ U.heap = h0) (fun _ _ _ _ _ => True) (fun _ U o U' => ∃ v L, o = .returned v ∧ Qtob Z c1 h0 n0 v U'.heap L ∧ FrameEnd U o U' L ({ frames := 0, cells := 1, slots := 1, locals := 0 } : Room).cells ({ frames := 0, cells := 1, slots := 1, locals := 0 } : Room).slots) := by
  refine MetFree.of_bodySF (plainFor_of_name pn_tob) hisR ?_
  intro p e s m args below meth c s₁ Bd hml0 hP hK
  obtain ⟨rfl, hZ, hh⟩ := hP
  have hx := Bd.exec
  have hby := Bd.bytes
  have hml : c.maxLocals = 1 := hml0
  have hown : s.vm.findClass "java/lang/StringLatin1" = some m.cls := findClass_of_methodNamed Bd.named
  have hnm := (name_of_methodNamed Bd.named Bd.method).1
  have hlk : meth.locks = false := BodyLoose.notSynchronized Bd
  have X0 : Stand p l e ({ frames := 0, cells := 1, slots := 1, locals := 0 } : Room) s m #[(.int c1)] below meth c s₁ [] 0 0 := Stand.of_body Bd
  have e0 : s₁.heap = h0 := by rw [← hh, Bd.state]; rfl
  have N0 := Fr.nil n0
  have K0 := Keep.refl h0 []
  obtain ⟨G, hG⟩ : ∃ G : Outcome → State → Prop, G = fun o u => ∃ v L, o = .returned v ∧ Qtob Z c1 h0 n0 v u.heap L ∧ FrameEnd s o u L ({ frames := 0, cells := 1, slots := 1, locals := 0 } : Room).cells ({ frames := 0, cells := 1, slots := 1, locals := 0 } : Room).slots := ⟨_, rfl⟩
  suffices hgo : Owe p.tables e below G s₁ (mkF m 0 #[.val (.int c1)] []) by
    obtain ⟨u, o, h1, h2, h3, h4⟩ := hgo
    exact ⟨u, o, castTop (ef_tob m c1) h1, h2, h3, by rw [hG] at h4; exact h4⟩
  refine Owe.iconst X0.here hx (hb hby d2_0) (w := (1 : Int32)) rfl ?_
  refine Owe.newarr X0 hx hZ (aty := .byte) (hw _ (List.mem_of_getElem? (i := 16) rfl)) e0 (hb hby d2_1) rfl (by decide) (cap := 1) (by decide) (by decide) (by decide) (by decide) fun T2 h2 b2 k2 g2 X2 e2 E2 V2 => ?_
  have sz_b2 := Nat.le_trans K0.1 (Nat.le_of_eq g2.symm)
  have ge_b2 := Nat.le_trans Z0 (Nat.le_of_eq g2.symm)
  have K_3 := K0.ext E2
  have Z_4 := Nat.le_trans Z0 E2.1
  have V_b2_2 : Arv Z h2 b2 k2 .byte (1 : Int32) [(.int (0 : Int32))] (.int (0 : Int32)) := V2.pad (pad_rep [] (.int (0 : Int32)) 1)
  refine Owe.dup X2.here hx (hb hby d2_3) rfl rfl ?_
  refine Owe.iconst X2.here hx (hb hby d2_4) (w := (0 : Int32)) rfl ?_
  refine Owe.iloadN X2.here hx (hb hby d2_5) rfl ?_
  refine Owe.i2b X2.here hx (hb hby d2_6) rfl ?_
  refine Owe.bastore X2 hx hZ e2 V_b2_2 (x := (c1.toInt8.toInt32)) 0 rfl (Nat.le_of_ble_eq_true rfl) (by decide) (hb hby d2_7) rfl fun T5 h5 X5 e5 W5 (V5 : Arv Z h5 b2 k2 .byte (1 : Int32) [(.int ((c1.toInt8.toInt32).toInt8.toInt32))] (.int (0 : Int32))) => ?_
  have K_6 := K_3.wr W5 (Or.inr sz_b2)
  have Z_7 := Nat.le_trans Z_4 (Keep.of_wr W5).1
  have N5 := Fr.snoc X5 N0 ge_b2
  refine Owe.retR X5 hx hlk (t := (.array .byte)) Bd.returns rfl rfl rfl (hb hby d2_8) rfl fun fs hE => ?_
  rw [hG]
  refine ⟨_, _, rfl, ?_, frameMono hE (by decide) (by decide)⟩
  show Qtob Z c1 h0 n0 _ T5.heap _
  rw [e5]
  exact ⟨b2, k2, rfl, N5, K_6, ge_b2, sz_b2, V5⟩
theorem d3_0 : decode jdk_42_method_151_code 0 = .ok (.aload_n 0, 1) := by decide +kernel
theorem d3_1 : decode jdk_42_method_151_code 1 = .ok (.invokespecial 1, 3) := by decide +kernel
theorem d3_4 : decode jdk_42_method_151_code 4 = .ok (.aload_n 0, 1) := by decide +kernel
theorem d3_5 : decode jdk_42_method_151_code 5 = .ok (.aload_n 1, 1) := by decide +kernel
theorem d3_6 : decode jdk_42_method_151_code 6 = .ok (.putfield 9, 3) := by decide +kernel
theorem d3_9 : decode jdk_42_method_151_code 9 = .ok (.aload_n 0, 1) := by decide +kernel
theorem d3_10 : decode jdk_42_method_151_code 10 = .ok (.iload_n 2, 1) := by decide +kernel
theorem d3_11 : decode jdk_42_method_151_code 11 = .ok (.putfield 15, 3) := by decide +kernel
theorem d3_14 : decode jdk_42_method_151_code 14 = .ok (.return_, 1) := by decide +kernel
theorem pn_sbb : plainName "java/lang/String" = true := by first | (simp [plainName, overriddenIn]; done) | decide +kernel
theorem ef_sbb (m : MethodId) (x0 : Addr) (x1 : Addr) (x2 : Int32)  : entryFrame m #[(.ref x0), (.ref x1), (.int x2)] 3 = mkF m 0 #[.val (.ref x0), .val (.ref x1), .val (.int x2)] [] := by first | (simp [entryFrame, mkF, argsToLocals, Value.category]; done) | rfl
def Qsbb (Z : State) (a1 : Addr) (a2 : Addr) (u_v : Value) (u_c : Value) (h0 : Heap) (n0 : Nat) (v : Option Value) (h : Heap) (L : List Loc) : Prop := v = none ∧ Fr n0 L ∧ Keep h0 h [a1] ∧ Exa Z h a1 "java/lang/String" ∧ Fld Z h a1 "java/lang/String" "value" "[B" (.ref a2) ∧ Fld Z h a1 "java/lang/String" "coder" "B" (.int (0 : Int32))
set_option maxRecDepth 65536 in
set_option maxHeartbeats 40000000 in
theorem rmsbb (l : Launch) (Z : State) (a0 : Array Value) (hw : ∀ d ∈ tables_1, d.before a0 Z = true) (ws : List Jvm.Cond) (a1 : Addr) (a2 : Addr) (u_v : Value) (u_c : Value) (h0 : Heap) (n0 : Nat) (Z0 : n0 ≤ h0.size) (E_a1 : Exa Z h0 a1 "java/lang/String") (Fvalue_a1 : Fld Z h0 a1 "java/lang/String" "value" "[B" u_v) (Fcoder_a1 : Fld Z h0 a1 "java/lang/String" "coder" "B" u_c) (ge_a1 : n0 ≤ a1) :
    MetFree l (⟨"java/lang/String", "<init>", "([BB)V"⟩ : MethodName) (head1 (Jvm.Cond.code (⟨"java/lang/String", "<init>", "([BB)V"⟩ : MethodName) jdk_42_method_151_code 3 none :: ws) ({ frames := 1, cells := 0, slots := 0, locals := 12 } : Room)) (fun a U => a = #[(.ref a1), (.ref a2), (.int (0 : Int32))] ∧ Z.Warmed39 U.vm ∧ U.heap = h0) (fun _ _ _ _ _ => True) (fun _ U o U' => ∃ v L, o = .returned v ∧ Qsbb Z a1 a2 u_v u_c h0 n0 v U'.heap L ∧ FrameEnd U o U' L ({ frames := 1, cells := 0, slots := 0, locals := 12 } : Room).cells ({ frames := 1, cells := 0, slots := 0, locals := 12 } : Room).slots) := by
  refine MetFree.of_bodySF (plainFor_of_name pn_sbb) hisR ?_
  intro p e s m args below meth c s₁ Bd hml0 hP hK
  obtain ⟨rfl, hZ, hh⟩ := hP
  have hx := Bd.exec
  have hby := Bd.bytes
  have hml : c.maxLocals = 3 := hml0
  have hown : s.vm.findClass "java/lang/String" = some m.cls := findClass_of_methodNamed Bd.named
  have hnm := (name_of_methodNamed Bd.named Bd.method).1
  have hlk : meth.locks = false := BodyLoose.notSynchronized Bd
  have X0 : Stand p l e ({ frames := 1, cells := 0, slots := 0, locals := 12 } : Room) s m #[(.ref a1), (.ref a2), (.int (0 : Int32))] below meth c s₁ [] 0 0 := Stand.of_body Bd
  have e0 : s₁.heap = h0 := by rw [← hh, Bd.state]; rfl
  have N0 := Fr.nil n0
  have K0 := Keep.refl h0 [a1]
  obtain ⟨G, hG⟩ : ∃ G : Outcome → State → Prop, G = fun o u => ∃ v L, o = .returned v ∧ Qsbb Z a1 a2 u_v u_c h0 n0 v u.heap L ∧ FrameEnd s o u L ({ frames := 1, cells := 0, slots := 0, locals := 12 } : Room).cells ({ frames := 1, cells := 0, slots := 0, locals := 12 } : Room).slots := ⟨_, rfl⟩
  suffices hgo : Owe p.tables e below G s₁ (mkF m 0 #[.val (.ref a1), .val (.ref a2), .val (.int (0 : Int32))] []) by
    obtain ⟨u, o, h1, h2, h3, h4⟩ := hgo
    exact ⟨u, o, castTop (ef_sbb m a1 a2 (0 : Int32)) h1, h2, h3, by rw [hG] at h4; exact h4⟩
  refine Owe.aloadN X0.here hx (hb hby d3_0) rfl rfl ?_
  refine Owe.objinit X0 hx hZ hown (hw _ (List.mem_of_getElem? (i := 12) rfl)) (hw _ (List.mem_of_getElem? (i := 13) rfl)) (hw _ (List.mem_of_getElem? (i := 14) rfl)) e0 (by rw [hml]; rfl) rfl (hb hby d3_1) (by decide) (W := 0) (Nat.le_of_ble_eq_true rfl) (by decide) fun T8 X8 e8 => ?_
  refine Owe.aloadN X8.here hx (hb hby d3_4) rfl rfl ?_
  refine Owe.aloadN X8.here hx (hb hby d3_5) rfl rfl ?_
  refine Owe.putf X8 hx hZ (host := "") hown (Or.inl (hw _ (List.mem_of_getElem? (i := 21) rfl))) Via.refl e8 Fvalue_a1 E_a1 (Or.inr ⟨(hw _ (List.mem_of_getElem? (i := 17) rfl)), rfl, hnm⟩) (hw _ (List.mem_of_getElem? (i := 3) rfl)) (ty := (.array .byte)) (by decide) rfl rfl (hb hby d3_6) rfl fun T9 h9 X9 e9 W9 => ?_
  have K_10 := K0.wr W9 (Or.inl (List.mem_of_getElem? (i := 0) rfl))
  have E_a1_11 := E_a1.wr W9
  have Fvalue_a1_12 := Fvalue_a1.same W9
  have Fcoder_a1_13 := Fcoder_a1.other W9 (Or.inr (slot_ne (Or.inr (hw _ (List.mem_of_getElem? (i := 18) rfl))) (Or.inr (hw _ (List.mem_of_getElem? (i := 17) rfl))) (by decide) (t := .byte) (t' := (.array .byte)) (by decide) (by decide)))
  have Z_14 := Nat.le_trans Z0 (Keep.of_wr W9).1
  have N9 := Fr.snoc X9 N0 ge_a1
  refine Owe.aloadN X9.here hx (hb hby d3_9) rfl rfl ?_
  refine Owe.iloadN X9.here hx (hb hby d3_10) rfl ?_
  refine Owe.putf X9 hx hZ (host := "") hown (Or.inl (hw _ (List.mem_of_getElem? (i := 22) rfl))) Via.refl e9 Fcoder_a1_13 E_a1_11 (Or.inr ⟨(hw _ (List.mem_of_getElem? (i := 18) rfl)), rfl, hnm⟩) (hw _ (List.mem_of_getElem? (i := 3) rfl)) (ty := .byte) (by decide) rfl rfl (hb hby d3_11) rfl fun T15 h15 X15 e15 W15 => ?_
  have K_16 := K_10.wr W15 (Or.inl (List.mem_of_getElem? (i := 0) rfl))
  have E_a1_17 := E_a1_11.wr W15
  have Fvalue_a1_18 := Fvalue_a1_12.other W15 (Or.inr (slot_ne (Or.inr (hw _ (List.mem_of_getElem? (i := 17) rfl))) (Or.inr (hw _ (List.mem_of_getElem? (i := 18) rfl))) (by decide) (t := (.array .byte)) (t' := .byte) (by decide) (by decide)))
  have Fcoder_a1_19 := Fcoder_a1_13.same W15
  have Z_20 := Nat.le_trans Z_14 (Keep.of_wr W15).1
  have N15 := Fr.snoc X15 N9 ge_a1
  refine Owe.ret0 X15 hx hlk Bd.returns (hb hby d3_14) rfl fun fs hE => ?_
  rw [hG]
  refine ⟨_, _, rfl, ?_, frameMono hE (by decide) (by decide)⟩
  show Qsbb Z a1 a2 u_v u_c h0 n0 _ T15.heap _
  rw [e15]
  exact ⟨rfl, N15, K_16, E_a1_17, Fvalue_a1_18, Fcoder_a1_19⟩
theorem d4_0 : decode jdk_42_method_139_code 0 = .ok (.getstatic 38, 3) := by decide +kernel
theorem d4_3 : decode jdk_42_method_139_code 3 = .ok (.ifCond .eq 23, 3) := by decide +kernel
theorem d4_6 : decode jdk_42_method_139_code 6 = .ok (.iload_n 0, 1) := by decide +kernel
theorem d4_7 : decode jdk_42_method_139_code 7 = .ok (.invokestatic 1015, 3) := by decide +kernel
theorem d4_10 : decode jdk_42_method_139_code 10 = .ok (.ifCond .eq 16, 3) := by decide +kernel
theorem d4_13 : decode jdk_42_method_139_code 13 = .ok (.new 10, 3) := by decide +kernel
theorem d4_16 : decode jdk_42_method_139_code 16 = .ok (.dup, 1) := by decide +kernel
theorem d4_17 : decode jdk_42_method_139_code 17 = .ok (.iload_n 0, 1) := by decide +kernel
theorem d4_18 : decode jdk_42_method_139_code 18 = .ok (.invokestatic 1018, 3) := by decide +kernel
theorem d4_21 : decode jdk_42_method_139_code 21 = .ok (.iconst 0, 1) := by decide +kernel
theorem d4_22 : decode jdk_42_method_139_code 22 = .ok (.invokespecial 209, 3) := by decide +kernel
theorem d4_25 : decode jdk_42_method_139_code 25 = .ok (.areturn, 1) := by decide +kernel
theorem d4_26 : decode jdk_42_method_139_code 26 = .ok (.new 10, 3) := by decide +kernel
theorem d4_29 : decode jdk_42_method_139_code 29 = .ok (.dup, 1) := by decide +kernel
theorem d4_30 : decode jdk_42_method_139_code 30 = .ok (.iload_n 0, 1) := by decide +kernel
theorem d4_31 : decode jdk_42_method_139_code 31 = .ok (.invokestatic 1021, 3) := by decide +kernel
theorem d4_34 : decode jdk_42_method_139_code 34 = .ok (.iconst 1, 1) := by decide +kernel
theorem d4_35 : decode jdk_42_method_139_code 35 = .ok (.invokespecial 209, 3) := by decide +kernel
theorem d4_38 : decode jdk_42_method_139_code 38 = .ok (.areturn, 1) := by decide +kernel
theorem pn_vof : plainName "java/lang/String" = true := by first | (simp [plainName, overriddenIn]; done) | decide +kernel
theorem ef_vof (m : MethodId) (x0 : Int32)  : entryFrame m #[(.int x0)] 1 = mkF m 0 #[.val (.int x0)] [] := by first | (simp [entryFrame, mkF, argsToLocals, Value.category]; done) | rfl
def Qvof (Z : State) (c1 : Int32) (G1 : Int32) (h0 : Heap) (n0 : Nat) (v : Option Value) (h : Heap) (L : List Loc) : Prop := ∃ (x1 : Addr), ∃ (t1 : Addr), ∃ (k1 : ClassId), v = some (.ref x1) ∧ Fr n0 L ∧ Keep h0 h [] ∧ n0 ≤ x1 ∧ h0.size ≤ x1 ∧ n0 ≤ t1 ∧ h0.size ≤ t1 ∧ Exa Z h x1 "java/lang/String" ∧ Fld Z h x1 "java/lang/String" "value" "[B" (.ref t1) ∧ Fld Z h x1 "java/lang/String" "coder" "B" (.int (0 : Int32)) ∧ Arv Z h t1 k1 .byte (1 : Int32) [(.int (c1.toInt8.toInt32.toInt8.toInt32))] (.int (0 : Int32))
set_option maxRecDepth 65536 in
set_option maxHeartbeats 40000000 in
theorem rmvof (l : Launch) (Z : State) (a0 : Array Value) (hw : ∀ d ∈ tables_1, d.before a0 Z = true) (ws : List Jvm.Cond) (c1 : Int32) (G1 : Int32) (h0 : Heap) (n0 : Nat) (Z0 : n0 ≤ h0.size) (S_COMPACT_STRINGS : Sta Z Z.heap "java/lang/String" "COMPACT_STRINGS" "Z" (.int G1)) (cs0 : ¬ (G1 = (0 : Int32))) (hle : ¬ (255 : Int32) < c1) (Ol : Old Z n0 h0) :
    MetFree l (⟨"java/lang/String", "valueOf", "(C)Ljava/lang/String;"⟩ : MethodName) (head1 (Jvm.Cond.code (⟨"java/lang/String", "valueOf", "(C)Ljava/lang/String;"⟩ : MethodName) jdk_42_method_139_code 1 (some (.object "java/lang/String")) :: ws) ({ frames := 2, cells := 2, slots := 5, locals := 32 } : Room)) (fun a U => a = #[(.int c1)] ∧ Z.Warmed39 U.vm ∧ U.heap = h0) (fun _ _ _ _ _ => True) (fun _ U o U' => ∃ v L, o = .returned v ∧ Qvof Z c1 G1 h0 n0 v U'.heap L ∧ FrameEnd U o U' L ({ frames := 2, cells := 2, slots := 5, locals := 32 } : Room).cells ({ frames := 2, cells := 2, slots := 5, locals := 32 } : Room).slots) := by
  refine MetFree.of_bodySF (plainFor_of_name pn_vof) hisR ?_
  intro p e s m args below meth c s₁ Bd hml0 hP hK
  obtain ⟨rfl, hZ, hh⟩ := hP
  have hx := Bd.exec
  have hby := Bd.bytes
  have hml : c.maxLocals = 1 := hml0
  have hown : s.vm.findClass "java/lang/String" = some m.cls := findClass_of_methodNamed Bd.named
  have hnm := (name_of_methodNamed Bd.named Bd.method).1
  have hlk : meth.locks = false := BodyLoose.notSynchronized Bd
  have X0 : Stand p l e ({ frames := 2, cells := 2, slots := 5, locals := 32 } : Room) s m #[(.int c1)] below meth c s₁ [] 0 0 := Stand.of_body Bd
  have e0 : s₁.heap = h0 := by rw [← hh, Bd.state]; rfl
  have N0 := Fr.nil n0
  have K0 := Keep.refl h0 []
  obtain ⟨G, hG⟩ : ∃ G : Outcome → State → Prop, G = fun o u => ∃ v L, o = .returned v ∧ Qvof Z c1 G1 h0 n0 v u.heap L ∧ FrameEnd s o u L ({ frames := 2, cells := 2, slots := 5, locals := 32 } : Room).cells ({ frames := 2, cells := 2, slots := 5, locals := 32 } : Room).slots := ⟨_, rfl⟩
  suffices hgo : Owe p.tables e below G s₁ (mkF m 0 #[.val (.int c1)] []) by
    obtain ⟨u, o, h1, h2, h3, h4⟩ := hgo
    exact ⟨u, o, castTop (ef_vof m c1) h1, h2, h3, by rw [hG] at h4; exact h4⟩
  refine Owe.gets X0 hx hZ hown (hw _ (List.mem_of_getElem? (i := 44) rfl)) Via.refl e0 (S_COMPACT_STRINGS.ext Ol.2) (hb hby d4_0) fun T21 X21 e21 => ?_
  refine Owe.ifNo X21.here hx (hb hby d4_3) rfl ((if0 _ _).trans (feq cs0).1) ?_
  refine Owe.iloadN X21.here hx (hb hby d4_6) rfl ?_
  refine Owe.stat X21 hx (y := (⟨"java/lang/StringLatin1", "canEncode", "(C)Z"⟩ : MethodName)) hown (mvT hZ (hw _ (List.mem_of_getElem? (i := 58) rfl))) (mvT hZ (hw _ (List.mem_of_getElem? (i := 59) rfl))) (mvT hZ (hw _ (List.mem_of_getElem? (i := 60) rfl))) (mvT hZ (hw _ (List.mem_of_getElem? (i := 61) rfl))) (by decide) (backOf (W := 0) (rmcen l Z a0 hw [] c1 h0 n0 Z0 hle) hZ (hw _ (List.mem_of_getElem? (i := 61) rfl)) (hw _ (List.mem_of_getElem? (i := 60) rfl)) (by decide) (by decide)) (by rw [hml]; rfl) (argsL := [(.int c1)]) (rest := []) (lenOf pd_0 rfl) rfl (Nat.le_of_ble_eq_true rfl) (hb hby d4_7) rfl e21 (by decide) (by decide) fun T22 v22 L22 X22 hQ22 => ?_
  obtain ⟨rfl, Nq22, e22⟩ := hQ22
  have N22 := Fr.app N0 Nq22
  refine Owe.ifNo X22.here hx (hb hby d4_10) rfl ((if0 _ _).trans (feq (by decide)).1) ?_
  refine Owe.new X22 hx hZ hown (hw _ (List.mem_of_getElem? (i := 62) rfl)) (hw _ (List.mem_of_getElem? (i := 3) rfl)) (hw _ (List.mem_of_getElem? (i := 4) rfl)) e22 (hb hby d4_13) (by decide) (by decide) fun T23 h23 b23 g23 X23 e23 E23 A23 D23 => ?_
  have sz_b23 := Nat.le_trans K0.1 (Nat.le_of_eq g23.symm)
  have ge_b23 := Nat.le_trans Z0 (Nat.le_of_eq g23.symm)
  have K_24 := K0.ext E23
  have Ol_25 := Ol.ext E23
  have Z_26 := Nat.le_trans Z0 E23.1
  have Fvalue_b23 : Fld Z h23 b23 "java/lang/String" "value" "[B" .null := D23 (Or.inr (hw _ (List.mem_of_getElem? (i := 17) rfl))) (ty := (.array .byte)) (by decide)
  have Fcoder_b23 : Fld Z h23 b23 "java/lang/String" "coder" "B" (.int (0 : Int32)) := D23 (Or.inr (hw _ (List.mem_of_getElem? (i := 18) rfl))) (ty := .byte) (by decide)
  refine Owe.dup X23.here hx (hb hby d4_16) rfl rfl ?_
  refine Owe.iloadN X23.here hx (hb hby d4_17) rfl ?_
  refine Owe.stat X23 hx (y := (⟨"java/lang/StringLatin1", "toBytes", "(C)[B"⟩ : MethodName)) hown (mvT hZ (hw _ (List.mem_of_getElem? (i := 63) rfl))) (mvT hZ (hw _ (List.mem_of_getElem? (i := 64) rfl))) (mvT hZ (hw _ (List.mem_of_getElem? (i := 60) rfl))) (mvT hZ (hw _ (List.mem_of_getElem? (i := 65) rfl))) (by decide) (backOf (W := 2) (rmtob l Z a0 hw [] c1 h23 n0 Z_26 ) hZ (hw _ (List.mem_of_getElem? (i := 65) rfl)) (hw _ (List.mem_of_getElem? (i := 60) rfl)) (by decide) (by decide)) (by rw [hml]; rfl) (argsL := [(.int c1)]) (rest := [(.ref b23), (.ref b23)]) (lenOf pd_1 rfl) rfl (Nat.le_of_ble_eq_true rfl) (hb hby d4_18) rfl e23 (by decide) (by decide) fun T27 v27 L27 X27 hQ27 => ?_
  obtain ⟨t1_27, k1_27, rfl, Nq27, K27, ge_t1_27, fresh_t1_27, V_t1_27⟩ := hQ27
  have N27 := Fr.app N22 Nq27
  have K_28 := K_24.trans K27 all0
  have Ol_29 := Ol_25.keep K27 all0
  have A23_30 := A23.keep K27
  have Fvalue_b23_31 := Fvalue_b23.keep K27 nin0
  have Fcoder_b23_32 := Fcoder_b23.keep K27 nin0
  have Z_33 := Nat.le_trans Z_26 K27.1
  have ne_b23_t1_27 : b23 ≠ t1_27 := Nat.ne_of_lt (Nat.lt_of_lt_of_le A23.lt fresh_t1_27)
  have sz_t1_27 := Nat.le_trans K_24.1 fresh_t1_27
  refine Owe.iconst X27.here hx (hb hby d4_21) (w := (0 : Int32)) rfl ?_
  refine Owe.special X27 hx (y := (⟨"java/lang/String", "<init>", "([BB)V"⟩ : MethodName)) rfl hown (mvT hZ (hw _ (List.mem_of_getElem? (i := 66) rfl))) (mvT hZ (hw _ (List.mem_of_getElem? (i := 67) rfl))) (mvT hZ (hw _ (List.mem_of_getElem? (i := 68) rfl))) (by decide) (backOf (W := 1) (rmsbb l Z a0 hw [] b23 t1_27 .null (.int (0 : Int32)) T27.heap n0 Z_33 A23_30 Fvalue_b23_31 Fcoder_b23_32 ge_b23) hZ (hw _ (List.mem_of_getElem? (i := 68) rfl)) (hw _ (List.mem_of_getElem? (i := 4) rfl)) (by decide) (by decide)) (by rw [hml]; rfl) (a := b23) (argsL := [(.ref t1_27), (.int (0 : Int32))]) (rest := [(.ref b23)]) (lenOf pd_2 rfl) rfl (Nat.le_of_ble_eq_true rfl) (hb hby d4_22) rfl rfl (by decide) (by decide) fun T34 v34 L34 X34 hQ34 => ?_
  obtain ⟨rfl, Nq34, K34, E_a1_34, Fvalue_a1_34, Fcoder_a1_34⟩ := hQ34
  have N34 := Fr.app N27 Nq34
  have K_35 := K_28.trans K34 (allS (Or.inr sz_b23) all0)
  have Ol_36 := Ol_29.keep K34 (allS ge_b23 all0)
  have A23_37 := A23_30.keep K34
  have V_t1_38 := V_t1_27.keep K34 (ninS (Ne.symm ne_b23_t1_27) nin0)
  have Z_39 := Nat.le_trans Z_33 K34.1
  refine Owe.retR X34 hx hlk (t := (.object "java/lang/String")) Bd.returns rfl rfl rfl (hb hby d4_25) rfl fun fs hE => ?_
  rw [hG]
  refine ⟨_, _, rfl, ?_, frameMono hE (by decide) (by decide)⟩
  show Qvof Z c1 G1 h0 n0 _ T34.heap _
  exact ⟨b23, t1_27, k1_27, rfl, N34, K_35, ge_b23, sz_b23, ge_t1_27, sz_t1_27, E_a1_34, Fvalue_a1_34, Fcoder_a1_34, V_t1_38⟩
theorem d5_0 : decode jdk_42_method_149_code 0 = .ok (.aload_n 0, 1) := by decide +kernel
theorem d5_1 : decode jdk_42_method_149_code 1 = .ok (.invokespecial 1, 3) := by decide +kernel
theorem d5_4 : decode jdk_42_method_149_code 4 = .ok (.iload_n 3, 1) := by decide +kernel
theorem d5_5 : decode jdk_42_method_149_code 5 = .ok (.ifCond .ne 22, 3) := by decide +kernel
theorem d5_8 : decode jdk_42_method_149_code 8 = .ok (.aload_n 0, 1) := by decide +kernel
theorem d5_9 : decode jdk_42_method_149_code 9 = .ok (.ldc 7, 2) := by decide +kernel
theorem d5_11 : decode jdk_42_method_149_code 11 = .ok (.getfield 9, 3) := by decide +kernel
theorem d5_14 : decode jdk_42_method_149_code 14 = .ok (.putfield 9, 3) := by decide +kernel
theorem d5_17 : decode jdk_42_method_149_code 17 = .ok (.aload_n 0, 1) := by decide +kernel
theorem d5_18 : decode jdk_42_method_149_code 18 = .ok (.ldc 7, 2) := by decide +kernel
theorem d5_20 : decode jdk_42_method_149_code 20 = .ok (.getfield 15, 3) := by decide +kernel
theorem d5_23 : decode jdk_42_method_149_code 23 = .ok (.putfield 15, 3) := by decide +kernel
theorem d5_26 : decode jdk_42_method_149_code 26 = .ok (.return_, 1) := by decide +kernel
theorem d5_27 : decode jdk_42_method_149_code 27 = .ok (.getstatic 38, 3) := by decide +kernel
theorem d5_30 : decode jdk_42_method_149_code 30 = .ok (.ifCond .eq 28, 3) := by decide +kernel
theorem d5_33 : decode jdk_42_method_149_code 33 = .ok (.aload_n 1, 1) := by decide +kernel
theorem d5_34 : decode jdk_42_method_149_code 34 = .ok (.iload_n 2, 1) := by decide +kernel
theorem d5_35 : decode jdk_42_method_149_code 35 = .ok (.iload_n 3, 1) := by decide +kernel
theorem d5_36 : decode jdk_42_method_149_code 36 = .ok (.invokestatic 177, 3) := by decide +kernel
theorem d5_39 : decode jdk_42_method_149_code 39 = .ok (.astore 5, 2) := by decide +kernel
theorem d5_41 : decode jdk_42_method_149_code 41 = .ok (.aload_n 0, 1) := by decide +kernel
theorem d5_42 : decode jdk_42_method_149_code 42 = .ok (.aload 5, 2) := by decide +kernel
theorem d5_44 : decode jdk_42_method_149_code 44 = .ok (.iload_n 3, 1) := by decide +kernel
theorem d5_45 : decode jdk_42_method_149_code 45 = .ok (.invokestatic 47, 3) := by decide +kernel
theorem d5_48 : decode jdk_42_method_149_code 48 = .ok (.putfield 15, 3) := by decide +kernel
theorem d5_51 : decode jdk_42_method_149_code 51 = .ok (.aload_n 0, 1) := by decide +kernel
theorem d5_52 : decode jdk_42_method_149_code 52 = .ok (.aload 5, 2) := by decide +kernel
theorem d5_54 : decode jdk_42_method_149_code 54 = .ok (.putfield 9, 3) := by decide +kernel
theorem d5_57 : decode jdk_42_method_149_code 57 = .ok (.return_, 1) := by decide +kernel
theorem d5_58 : decode jdk_42_method_149_code 58 = .ok (.aload_n 0, 1) := by decide +kernel
theorem d5_59 : decode jdk_42_method_149_code 59 = .ok (.iconst 1, 1) := by decide +kernel
theorem d5_60 : decode jdk_42_method_149_code 60 = .ok (.putfield 15, 3) := by decide +kernel
theorem d5_63 : decode jdk_42_method_149_code 63 = .ok (.aload_n 0, 1) := by decide +kernel
theorem d5_64 : decode jdk_42_method_149_code 64 = .ok (.aload_n 1, 1) := by decide +kernel
theorem d5_65 : decode jdk_42_method_149_code 65 = .ok (.iload_n 2, 1) := by decide +kernel
theorem d5_66 : decode jdk_42_method_149_code 66 = .ok (.iload_n 3, 1) := by decide +kernel
theorem d5_67 : decode jdk_42_method_149_code 67 = .ok (.invokestatic 180, 3) := by decide +kernel
theorem d5_70 : decode jdk_42_method_149_code 70 = .ok (.putfield 9, 3) := by decide +kernel
theorem d5_73 : decode jdk_42_method_149_code 73 = .ok (.return_, 1) := by decide +kernel
theorem pn_se2 : plainName "java/lang/String" = true := by first | (simp [plainName, overriddenIn]; done) | decide +kernel
theorem ef_se2 (m : MethodId) (x0 : Addr) (x1 : Addr) (x2 : Int32) (x3 : Int32)  : entryFrame m #[(.ref x0), (.ref x1), (.int x2), (.int x3), .null] 6 = mkF m 0 #[.val (.ref x0), .val (.ref x1), .val (.int x2), .val (.int x3), .val .null, .unset] [] := by first | (simp [entryFrame, mkF, argsToLocals, Value.category]; done) | rfl
def Qse2 (Z : State) (a1 : Addr) (a2 : Addr) (h0 : Heap) (n0 : Nat) (v : Option Value) (h : Heap) (L : List Loc) : Prop := ∃ (b1 : Addr), ∃ (kb1 : ClassId), v = none ∧ Fr n0 L ∧ Keep h0 h [a1] ∧ Exa Z h a1 "java/lang/String" ∧ Fld Z h a1 "java/lang/String" "value" "[B" (.ref b1) ∧ Fld Z h a1 "java/lang/String" "coder" "B" (.int (0 : Int32)) ∧ Arv Z h b1 kb1 .byte (0 : Int32) [] (.int (0 : Int32))
set_option maxRecDepth 65536 in
set_option maxHeartbeats 40000000 in
theorem rmse2 (l : Launch) (Z : State) (a0 : Array Value) (hw : ∀ d ∈ tables_1, d.before a0 Z = true) (ws : List Jvm.Cond) (a1 : Addr) (a2 : Addr) (h0 : Heap) (n0 : Nat) (Z0 : n0 ≤ h0.size) (E_a1 : Exa Z h0 a1 "java/lang/String") (Fvalue_a1 : Fld Z h0 a1 "java/lang/String" "value" "[B" .null) (Fcoder_a1 : Fld Z h0 a1 "java/lang/String" "coder" "B" (.int (0 : Int32))) (ge_a1 : n0 ≤ a1) :
    MetFree l (⟨"java/lang/String", "<init>", "([CIILjava/lang/Void;)V"⟩ : MethodName) (head1 (Jvm.Cond.code (⟨"java/lang/String", "<init>", "([CIILjava/lang/Void;)V"⟩ : MethodName) jdk_42_method_149_code 6 none :: ws) ({ frames := 1, cells := 2, slots := 4, locals := 13 } : Room)) (fun a U => a = #[(.ref a1), (.ref a2), (.int (0 : Int32)), (.int (0 : Int32)), .null] ∧ Z.Warmed39 U.vm ∧ U.heap = h0 ∧ CHv Z own_EL U.vm h0) (fun _ _ _ _ _ => True) (fun _ U o U' => ∃ v L, o = .returned v ∧ Qse2 Z a1 a2 h0 n0 v U'.heap L ∧ CHr Z own_EL U.vm U.heap U'.vm U'.heap ∧ ReturnedEndW U o U' L ({ frames := 1, cells := 2, slots := 4, locals := 13 } : Room).cells ({ frames := 1, cells := 2, slots := 4, locals := 13 } : Room).slots) := by
  refine MetFree.of_bodySF (plainFor_of_name pn_se2) hisR ?_
  intro p e s m args below meth c s₁ Bd hml0 hP hK
  obtain ⟨rfl, hZ0, hh, H0⟩ := hP
  have hx := Bd.exec
  have hby := Bd.bytes
  have hml : c.maxLocals = 6 := hml0
  have hown : s.vm.findClass "java/lang/String" = some m.cls := findClass_of_methodNamed Bd.named
  have hnm := (name_of_methodNamed Bd.named Bd.method).1
  have hlk : meth.locks = false := BodyLoose.notSynchronized Bd
  have X0 : Stand p l e ({ frames := 1, cells := 2, slots := 4, locals := 13 } : Room) (s.setVm s.vm) m #[(.ref a1), (.ref a2), (.int (0 : Int32)), (.int (0 : Int32)), .null] below meth c s₁ [] 0 0 := Stand.of_body Bd
  have e0 : s₁.heap = h0 := by rw [← hh, Bd.state]; rfl
  have N0 := Fr.nil n0
  have K0 := Keep.refl h0 [a1]
  have hZ : Z.Warmed39 (s.setVm s.vm).vm := hZ0
  have hown1 : (s.setVm s.vm).vm.findClass "java/lang/String" = some m.cls := hown
  have hS0 : s.Since s.vm 0 := (State.WarmedH.refl s).since 0
  have hk0 : 0 ≤ h0.size := Nat.zero_le _
  have R0 : CHr Z own_EL s.vm h0 s.vm h0 := CHr.refl H0
  have sf_a1 : Safe Z own_EL s.vm h0 a1 := own_safe_null hZ0.alike E_a1 Fvalue_a1
  obtain ⟨G, hG⟩ : ∃ G : Outcome → State → Prop, G = fun o u => ∃ v L, o = .returned v ∧ Qse2 Z a1 a2 h0 n0 v u.heap L ∧ CHr Z own_EL s.vm s.heap u.vm u.heap ∧ ReturnedEndW s o u L ({ frames := 1, cells := 2, slots := 4, locals := 13 } : Room).cells ({ frames := 1, cells := 2, slots := 4, locals := 13 } : Room).slots := ⟨_, rfl⟩
  suffices hgo : Owe p.tables e below G s₁ (mkF m 0 #[.val (.ref a1), .val (.ref a2), .val (.int (0 : Int32)), .val (.int (0 : Int32)), .val .null, .unset] []) by
    obtain ⟨u, o, h1, h2, h3, h4⟩ := hgo
    exact ⟨u, o, castTop (ef_se2 m a1 a2 (0 : Int32) (0 : Int32)) h1, h2, h3, by rw [hG] at h4; exact h4⟩
  refine Owe.aloadN X0.here hx (hb hby d5_0) rfl rfl ?_
  refine Owe.objinit X0 hx hZ hown1 (hw _ (List.mem_of_getElem? (i := 12) rfl)) (hw _ (List.mem_of_getElem? (i := 13) rfl)) (hw _ (List.mem_of_getElem? (i := 14) rfl)) e0 (by rw [hml]; rfl) rfl (hb hby d5_1) (by decide) (W := 0) (Nat.le_of_ble_eq_true rfl) (by decide) fun T40 X40 e40 => ?_
  refine Owe.iloadN X40.here hx (hb hby d5_4) rfl ?_
  refine Owe.ifNo X40.here hx (hb hby d5_5) rfl ((if0 _ _).trans (teq (by decide)).2) ?_
  refine Owe.aloadN X40.here hx (hb hby d5_8) rfl rfl ?_
  refine Owe.ldcV X40 hx hZ hS0 (own_ew hw) H0 (by decide) hown1 (hw _ (List.mem_of_getElem? (i := 15) rfl)) (own_wS hw) e40 hk0 (vs := []) (z := (0 : Int32)) (by decide) (by decide) rfl (hb hby d5_9) (n := 0) (by decide) (by decide) (by decide) (by decide) fun l41 T41 h41 k41 lb41 lk41 X41 e41 E41 hS41 hk41 hZ41 hown41 Ex41 Fc41 Fv41 Vb41 hC41 Lt41 nsf41 => ?_
  have hk42 := Nat.le_trans hk0 E41.1
  have K_43 := K0.ext E41
  have E_a1_44 := E_a1.ext E41
  have Fvalue_a1_45 := Fvalue_a1.ext E41
  have Fcoder_a1_46 := Fcoder_a1.ext E41
  have Z_47 := Nat.le_trans Z0 E41.1
  have sf_a1_41 := CHr.safe hC41 E_a1.lt sf_a1
  have Rr41 := R0.trans hC41
  have H41 := hC41.1
  have ne_a1_l41 := (nsf41 _ sf_a1_41).1
  have ne_a1_lb41 := (nsf41 _ sf_a1_41).2
  refine Owe.getf X41 hx hZ41 (host := "") hown41 (Or.inl (hw _ (List.mem_of_getElem? (i := 21) rfl))) Via.refl e41 Fv41 (hb hby d5_11) rfl fun T48 X48 e48 => ?_
  refine Owe.putf X48 hx hZ41 (host := "") hown41 (Or.inl (hw _ (List.mem_of_getElem? (i := 21) rfl))) Via.refl e48 Fvalue_a1_45 E_a1_44 (Or.inr ⟨(hw _ (List.mem_of_getElem? (i := 17) rfl)), rfl, hnm⟩) (hw _ (List.mem_of_getElem? (i := 3) rfl)) (ty := (.array .byte)) (by decide) rfl rfl (hb hby d5_14) rfl fun T49 h49 X49 e49 W49 => ?_
  have hk50 := Nat.le_trans hk41 (Keep.of_wr W49).1
  have sf_a1_50 := Safe.wr W49 sf_a1_41 H41 sf_a1_41
  have Rr50 := Rr41.trans (CHr.wr W49 sf_a1_41 H41)
  have H50 := CHv.wr W49 sf_a1_41 H41
  have K_51 := K_43.wr W49 (Or.inl (List.mem_of_getElem? (i := 0) rfl))
  have E_a1_52 := E_a1_44.wr W49
  have Fvalue_a1_53 := Fvalue_a1_45.same W49
  have Fcoder_a1_54 := Fcoder_a1_46.other W49 (Or.inr (slot_ne (Or.inr (hw _ (List.mem_of_getElem? (i := 18) rfl))) (Or.inr (hw _ (List.mem_of_getElem? (i := 17) rfl))) (by decide) (t := .byte) (t' := (.array .byte)) (by decide) (by decide)))
  have Ex41_55 := Ex41.wr W49
  have Fc41_56 := Fc41.other W49 (Or.inl (Ne.symm ne_a1_l41))
  have Fv41_57 := Fv41.other W49 (Or.inl (Ne.symm ne_a1_l41))
  have Vb41_58 := Vb41.other W49 (Ne.symm ne_a1_lb41)
  have Z_59 := Nat.le_trans Z_47 (Keep.of_wr W49).1
  have N49 := Fr.snoc X49 N0 ge_a1
  refine Owe.aloadN X49.here hx (hb hby d5_17) rfl rfl ?_
  refine Owe.ldcA X49 hx hZ41 hown41 (hw _ (List.mem_of_getElem? (i := 15) rfl)) Lt41 (hb hby d5_18) ?_
  refine Owe.getf X49 hx hZ41 (host := "") hown41 (Or.inl (hw _ (List.mem_of_getElem? (i := 22) rfl))) Via.refl e49 Fc41_56 (hb hby d5_20) rfl fun T61 X61 e61 => ?_
  refine Owe.putf X61 hx hZ41 (host := "") hown41 (Or.inl (hw _ (List.mem_of_getElem? (i := 22) rfl))) Via.refl e61 Fcoder_a1_54 E_a1_52 (Or.inr ⟨(hw _ (List.mem_of_getElem? (i := 18) rfl)), rfl, hnm⟩) (hw _ (List.mem_of_getElem? (i := 3) rfl)) (ty := .byte) (by decide) rfl rfl (hb hby d5_23) rfl fun T62 h62 X62 e62 W62 => ?_
  have hk63 := Nat.le_trans hk50 (Keep.of_wr W62).1
  have sf_a1_63 := Safe.wr W62 sf_a1_50 H50 sf_a1_50
  have Rr63 := Rr50.trans (CHr.wr W62 sf_a1_50 H50)
  have H63 := CHv.wr W62 sf_a1_50 H50
  have K_64 := K_51.wr W62 (Or.inl (List.mem_of_getElem? (i := 0) rfl))
  have E_a1_65 := E_a1_52.wr W62
  have Fvalue_a1_66 := Fvalue_a1_53.other W62 (Or.inr (slot_ne (Or.inr (hw _ (List.mem_of_getElem? (i := 17) rfl))) (Or.inr (hw _ (List.mem_of_getElem? (i := 18) rfl))) (by decide) (t := (.array .byte)) (t' := .byte) (by decide) (by decide)))
  have Fcoder_a1_67 := Fcoder_a1_54.same W62
  have Ex41_68 := Ex41_55.wr W62
  have Fc41_69 := Fc41_56.other W62 (Or.inl (Ne.symm ne_a1_l41))
  have Fv41_70 := Fv41_57.other W62 (Or.inl (Ne.symm ne_a1_l41))
  have Vb41_71 := Vb41_58.other W62 (Ne.symm ne_a1_lb41)
  have Z_72 := Nat.le_trans Z_59 (Keep.of_wr W62).1
  have N62 := Fr.snoc X62 N49 ge_a1
  refine Owe.ret0W X62 hx hS41 e62 hk63 hlk Bd.returns (hb hby d5_26) rfl fun fs hE => ?_
  rw [hG]
  refine ⟨_, _, rfl, ?_, ?_, coldMono hE (by decide) (by decide)⟩
  rotate_left
  · rw [hh]
    show CHr Z own_EL s.vm h0 T62.vm T62.heap
    rw [e62]
    exact Rr63.trans (CHv.at X62 hZ41 (own_ew hw) H63)
  show Qse2 Z a1 a2 h0 n0 _ T62.heap _
  rw [e62]
  exact ⟨lb41, lk41, rfl, N62, K_64, E_a1_65, Fvalue_a1_66, Fcoder_a1_67, Vb41_71⟩
theorem d6_0 : decode jdk_42_method_3_code 0 = .ok (.aload_n 0, 1) := by decide +kernel
theorem d6_1 : decode jdk_42_method_3_code 1 = .ok (.aload_n 1, 1) := by decide +kernel
theorem d6_2 : decode jdk_42_method_3_code 2 = .ok (.iconst 0, 1) := by decide +kernel
theorem d6_3 : decode jdk_42_method_3_code 3 = .ok (.aload_n 1, 1) := by decide +kernel
theorem d6_4 : decode jdk_42_method_3_code 4 = .ok (.arraylength, 1) := by decide +kernel
theorem d6_5 : decode jdk_42_method_3_code 5 = .ok (.aconst_null, 1) := by decide +kernel
theorem d6_6 : decode jdk_42_method_3_code 6 = .ok (.invokespecial 27, 3) := by decide +kernel
theorem d6_9 : decode jdk_42_method_3_code 9 = .ok (.return_, 1) := by decide +kernel
theorem pn_se1 : plainName "java/lang/String" = true := by first | (simp [plainName, overriddenIn]; done) | decide +kernel
theorem ef_se1 (m : MethodId) (x0 : Addr) (x1 : Addr)  : entryFrame m #[(.ref x0), (.ref x1)] 2 = mkF m 0 #[.val (.ref x0), .val (.ref x1)] [] := by first | (simp [entryFrame, mkF, argsToLocals, Value.category]; done) | rfl
def Qse1 (Z : State) (a1 : Addr) (a2 : Addr) (k2 : ClassId) (h0 : Heap) (n0 : Nat) (v : Option Value) (h : Heap) (L : List Loc) : Prop := ∃ (b1 : Addr), ∃ (kb1 : ClassId), v = none ∧ Fr n0 L ∧ Keep h0 h [a1] ∧ Exa Z h a1 "java/lang/String" ∧ Fld Z h a1 "java/lang/String" "value" "[B" (.ref b1) ∧ Fld Z h a1 "java/lang/String" "coder" "B" (.int (0 : Int32)) ∧ Arv Z h b1 kb1 .byte (0 : Int32) [] (.int (0 : Int32))
set_option maxRecDepth 65536 in
set_option maxHeartbeats 40000000 in
theorem rmse1 (l : Launch) (Z : State) (a0 : Array Value) (hw : ∀ d ∈ tables_1, d.before a0 Z = true) (ws : List Jvm.Cond) (a1 : Addr) (a2 : Addr) (k2 : ClassId) (h0 : Heap) (n0 : Nat) (Z0 : n0 ≤ h0.size) (E_a1 : Exa Z h0 a1 "java/lang/String") (Fvalue_a1 : Fld Z h0 a1 "java/lang/String" "value" "[B" .null) (Fcoder_a1 : Fld Z h0 a1 "java/lang/String" "coder" "B" (.int (0 : Int32))) (ge_a1 : n0 ≤ a1) (V_a2 : Arv Z h0 a2 k2 .char (0 : Int32) [] (.int (0 : Int32))) (ne_a2_a1 : a2 ≠ a1) :
    MetFree l (⟨"java/lang/String", "<init>", "([C)V"⟩ : MethodName) (head1 (Jvm.Cond.code (⟨"java/lang/String", "<init>", "([C)V"⟩ : MethodName) jdk_42_method_3_code 2 none :: ws) ({ frames := 2, cells := 2, slots := 4, locals := 30 } : Room)) (fun a U => a = #[(.ref a1), (.ref a2)] ∧ Z.Warmed39 U.vm ∧ U.heap = h0 ∧ CHv Z own_EL U.vm h0) (fun _ _ _ _ _ => True) (fun _ U o U' => ∃ v L, o = .returned v ∧ Qse1 Z a1 a2 k2 h0 n0 v U'.heap L ∧ CHr Z own_EL U.vm U.heap U'.vm U'.heap ∧ ReturnedEndW U o U' L ({ frames := 2, cells := 2, slots := 4, locals := 30 } : Room).cells ({ frames := 2, cells := 2, slots := 4, locals := 30 } : Room).slots) := by
  refine MetFree.of_bodySF (plainFor_of_name pn_se1) hisR ?_
  intro p e s m args below meth c s₁ Bd hml0 hP hK
  obtain ⟨rfl, hZ0, hh, H0⟩ := hP
  have hx := Bd.exec
  have hby := Bd.bytes
  have hml : c.maxLocals = 2 := hml0
  have hown : s.vm.findClass "java/lang/String" = some m.cls := findClass_of_methodNamed Bd.named
  have hnm := (name_of_methodNamed Bd.named Bd.method).1
  have hlk : meth.locks = false := BodyLoose.notSynchronized Bd
  have X0 : Stand p l e ({ frames := 2, cells := 2, slots := 4, locals := 30 } : Room) (s.setVm s.vm) m #[(.ref a1), (.ref a2)] below meth c s₁ [] 0 0 := Stand.of_body Bd
  have e0 : s₁.heap = h0 := by rw [← hh, Bd.state]; rfl
  have N0 := Fr.nil n0
  have K0 := Keep.refl h0 [a1]
  have hZ : Z.Warmed39 (s.setVm s.vm).vm := hZ0
  have hown1 : (s.setVm s.vm).vm.findClass "java/lang/String" = some m.cls := hown
  have hS0 : s.Since s.vm 0 := (State.WarmedH.refl s).since 0
  have hk0 : 0 ≤ h0.size := Nat.zero_le _
  have R0 : CHr Z own_EL s.vm h0 s.vm h0 := CHr.refl H0
  have sf_a1 : Safe Z own_EL s.vm h0 a1 := own_safe_null hZ0.alike E_a1 Fvalue_a1
  obtain ⟨G, hG⟩ : ∃ G : Outcome → State → Prop, G = fun o u => ∃ v L, o = .returned v ∧ Qse1 Z a1 a2 k2 h0 n0 v u.heap L ∧ CHr Z own_EL s.vm s.heap u.vm u.heap ∧ ReturnedEndW s o u L ({ frames := 2, cells := 2, slots := 4, locals := 30 } : Room).cells ({ frames := 2, cells := 2, slots := 4, locals := 30 } : Room).slots := ⟨_, rfl⟩
  suffices hgo : Owe p.tables e below G s₁ (mkF m 0 #[.val (.ref a1), .val (.ref a2)] []) by
    obtain ⟨u, o, h1, h2, h3, h4⟩ := hgo
    exact ⟨u, o, castTop (ef_se1 m a1 a2) h1, h2, h3, by rw [hG] at h4; exact h4⟩
  refine Owe.aloadN X0.here hx (hb hby d6_0) rfl rfl ?_
  refine Owe.aloadN X0.here hx (hb hby d6_1) rfl rfl ?_
  refine Owe.iconst X0.here hx (hb hby d6_2) (w := (0 : Int32)) rfl ?_
  refine Owe.aloadN X0.here hx (hb hby d6_3) rfl rfl ?_
  refine Owe.arrlen X0 hx hZ e0 V_a2 (hb hby d6_4) rfl ?_
  refine Owe.aconstNull X0.here hx (hb hby d6_5)  ?_
  refine Owe.specialS X0 hx hZ hS0 hk0 (y := (⟨"java/lang/String", "<init>", "([CIILjava/lang/Void;)V"⟩ : MethodName)) rfl hown1 (mvT hZ (hw _ (List.mem_of_getElem? (i := 8) rfl))) (mvT hZ (hw _ (List.mem_of_getElem? (i := 9) rfl))) (mvT hZ (hw _ (List.mem_of_getElem? (i := 11) rfl))) (by decide) (backOfSH (W := 0) (rmse2 l Z a0 hw [] a1 a2 h0 n0 Z0 E_a1 Fvalue_a1 Fcoder_a1 ge_a1) hZ (hw _ (List.mem_of_getElem? (i := 11) rfl)) (hw _ (List.mem_of_getElem? (i := 4) rfl)) (by decide) (by decide) (own_ew hw) H0) (by rw [hml]; rfl) (a := a1) (argsL := [(.ref a2), (.int (0 : Int32)), (.int (0 : Int32)), .null]) (rest := []) (lenOf pd_3 rfl) rfl (Nat.le_of_ble_eq_true rfl) (hb hby d6_6) rfl e0 (by decide) (by decide) fun T73 v73 L73 X73 hS73 hZ73 hown73 hC73 hQ73 => ?_
  obtain ⟨b1_73, kb1_73, rfl, Nq73, K73, E_a1_73, Fvalue_a1_73, Fcoder_a1_73, V_b1_73⟩ := hQ73
  have N73 := Fr.app N0 Nq73
  have hk74 := Nat.le_trans hk0 K73.1
  have K_75 := K0.trans K73 (allS (Or.inl (List.mem_of_getElem? (i := 0) rfl)) all0)
  have E_a1_76 := E_a1.keep K73
  have V_a2_77 := V_a2.keep K73 (ninS ne_a2_a1 nin0)
  have Z_78 := Nat.le_trans Z0 K73.1
  have sf_a1_73 := CHr.safe hC73 E_a1.lt sf_a1
  have Rr73 := R0.trans hC73
  have H73 := hC73.1
  have hk73 : T73.heap.size ≤ T73.heap.size := Nat.le_refl _
  refine Owe.ret0W X73 hx hS73 rfl hk73 hlk Bd.returns (hb hby d6_9) rfl fun fs hE => ?_
  rw [hG]
  refine ⟨_, _, rfl, ?_, ?_, coldMono hE (by decide) (by decide)⟩
  rotate_left
  · rw [hh]
    show CHr Z own_EL s.vm h0 T73.vm T73.heap
    exact Rr73.trans (CHv.at X73 hZ73 (own_ew hw) H73)
  show Qse1 Z a1 a2 k2 h0 n0 _ T73.heap _
  exact ⟨b1_73, kb1_73, rfl, N73, K_75, E_a1_73, Fvalue_a1_73, Fcoder_a1_73, V_b1_73⟩
theorem d7_0 : decode prog_2_method_1_code 0 = .ok (.aload_n 0, 1) := by decide +kernel
theorem d7_1 : decode prog_2_method_1_code 1 = .ok (.invokespecial 1, 3) := by decide +kernel
theorem d7_4 : decode prog_2_method_1_code 4 = .ok (.aload_n 0, 1) := by decide +kernel
theorem d7_5 : decode prog_2_method_1_code 5 = .ok (.lload_n 1, 1) := by decide +kernel
theorem d7_6 : decode prog_2_method_1_code 6 = .ok (.putfield 7, 3) := by decide +kernel
theorem d7_9 : decode prog_2_method_1_code 9 = .ok (.aload_n 0, 1) := by decide +kernel
theorem d7_10 : decode prog_2_method_1_code 10 = .ok (.aload_n 3, 1) := by decide +kernel
theorem d7_11 : decode prog_2_method_1_code 11 = .ok (.putfield 13, 3) := by decide +kernel
theorem d7_14 : decode prog_2_method_1_code 14 = .ok (.return_, 1) := by decide +kernel
theorem pn_inr : plainName "com/example/overrule/overrule/audit/Verification" = true := by first | (simp [plainName, overriddenIn]; done) | decide +kernel
theorem ef_inr (m : MethodId) (x0 : Addr) (x1 : Int64) (x2 : Addr)  : entryFrame m #[(.ref x0), (.long x1), (.ref x2)] 4 = mkF m 0 #[.val (.ref x0), .val (.long x1), .second, .val (.ref x2)] [] := by first | (simp [entryFrame, mkF, argsToLocals, Value.category]; done) | rfl
def Qinr (Z : State) (a1 : Addr) (q2 : Int64) (a3 : Addr) (u_r : Value) (u_p : Value) (h0 : Heap) (n0 : Nat) (v : Option Value) (h : Heap) (L : List Loc) : Prop := v = none ∧ Fr n0 L ∧ Keep h0 h [a1] ∧ Exa Z h a1 "com/example/overrule/overrule/audit/Verification" ∧ Fld Z h a1 "com/example/overrule/overrule/audit/Verification" "problem" "Ljava/lang/String;" (.ref a3)
set_option maxRecDepth 65536 in
set_option maxHeartbeats 40000000 in
theorem rminr (l : Launch) (Z : State) (a0 : Array Value) (hw : ∀ d ∈ tables_1, d.before a0 Z = true) (ws : List Jvm.Cond) (a1 : Addr) (q2 : Int64) (a3 : Addr) (u_r : Value) (u_p : Value) (h0 : Heap) (n0 : Nat) (Z0 : n0 ≤ h0.size) (E_a1 : Exa Z h0 a1 "com/example/overrule/overrule/audit/Verification") (Frecords_a1 : Fld Z h0 a1 "com/example/overrule/overrule/audit/Verification" "records" "J" u_r) (Fproblem_a1 : Fld Z h0 a1 "com/example/overrule/overrule/audit/Verification" "problem" "Ljava/lang/String;" u_p) (ge_a1 : n0 ≤ a1) :
    MetFree l (⟨"com/example/overrule/overrule/audit/Verification", "<init>", "(JLjava/lang/String;)V"⟩ : MethodName) (head1 (Jvm.Cond.code (⟨"com/example/overrule/overrule/audit/Verification", "<init>", "(JLjava/lang/String;)V"⟩ : MethodName) prog_2_method_1_code 4 none :: ws) ({ frames := 2, cells := 0, slots := 0, locals := 24 } : Room)) (fun a U => a = #[(.ref a1), (.long q2), (.ref a3)] ∧ Z.Warmed39 U.vm ∧ U.heap = h0) (fun _ _ _ _ _ => True) (fun _ U o U' => ∃ v L, o = .returned v ∧ Qinr Z a1 q2 a3 u_r u_p h0 n0 v U'.heap L ∧ FrameEnd U o U' L ({ frames := 2, cells := 0, slots := 0, locals := 24 } : Room).cells ({ frames := 2, cells := 0, slots := 0, locals := 24 } : Room).slots) := by
  refine MetFree.of_bodySF (plainFor_of_name pn_inr) hisR ?_
  intro p e s m args below meth c s₁ Bd hml0 hP hK
  obtain ⟨rfl, hZ, hh⟩ := hP
  have hx := Bd.exec
  have hby := Bd.bytes
  have hml : c.maxLocals = 4 := hml0
  have hown : s.vm.findClass "com/example/overrule/overrule/audit/Verification" = some m.cls := findClass_of_methodNamed Bd.named
  have hnm := (name_of_methodNamed Bd.named Bd.method).1
  have hlk : meth.locks = false := BodyLoose.notSynchronized Bd
  have X0 : Stand p l e ({ frames := 2, cells := 0, slots := 0, locals := 24 } : Room) s m #[(.ref a1), (.long q2), (.ref a3)] below meth c s₁ [] 0 0 := Stand.of_body Bd
  have e0 : s₁.heap = h0 := by rw [← hh, Bd.state]; rfl
  have N0 := Fr.nil n0
  have K0 := Keep.refl h0 [a1]
  obtain ⟨G, hG⟩ : ∃ G : Outcome → State → Prop, G = fun o u => ∃ v L, o = .returned v ∧ Qinr Z a1 q2 a3 u_r u_p h0 n0 v u.heap L ∧ FrameEnd s o u L ({ frames := 2, cells := 0, slots := 0, locals := 24 } : Room).cells ({ frames := 2, cells := 0, slots := 0, locals := 24 } : Room).slots := ⟨_, rfl⟩
  suffices hgo : Owe p.tables e below G s₁ (mkF m 0 #[.val (.ref a1), .val (.long q2), .second, .val (.ref a3)] []) by
    obtain ⟨u, o, h1, h2, h3, h4⟩ := hgo
    exact ⟨u, o, castTop (ef_inr m a1 q2 a3) h1, h2, h3, by rw [hG] at h4; exact h4⟩
  refine Owe.aloadN X0.here hx (hb hby d7_0) rfl rfl ?_
  refine Owe.special X0 hx (y := (⟨"java/lang/Record", "<init>", "()V"⟩ : MethodName)) rfl hown (mvT hZ (hw _ (List.mem_of_getElem? (i := 29) rfl))) (mvT hZ (hw _ (List.mem_of_getElem? (i := 30) rfl))) (mvT hZ (hw _ (List.mem_of_getElem? (i := 33) rfl))) (by decide) (backOf (W := 0) (rmrec l Z a0 hw [] a1 h0 n0 Z0 ) hZ (hw _ (List.mem_of_getElem? (i := 33) rfl)) (hw _ (List.mem_of_getElem? (i := 32) rfl)) (by decide) (by decide)) (by rw [hml]; rfl) (a := a1) (argsL := []) (rest := []) (lenOf pd_4 rfl) rfl (Nat.le_of_ble_eq_true rfl) (hb hby d7_1) rfl e0 (by decide) (by decide) fun T79 v79 L79 X79 hQ79 => ?_
  obtain ⟨rfl, Nq79, e79⟩ := hQ79
  have N79 := Fr.app N0 Nq79
  refine Owe.aloadN X79.here hx (hb hby d7_4) rfl rfl ?_
  refine Owe.lloadN X79.here hx (hb hby d7_5) rfl ?_
  refine Owe.putf X79 hx hZ (host := "") hown (Or.inl (hw _ (List.mem_of_getElem? (i := 35) rfl))) Via.refl e79 Frecords_a1 E_a1 (Or.inr ⟨(hw _ (List.mem_of_getElem? (i := 36) rfl)), rfl, hnm⟩) (hw _ (List.mem_of_getElem? (i := 24) rfl)) (ty := .long) (by decide) rfl rfl (hb hby d7_6) rfl fun T80 h80 X80 e80 W80 => ?_
  have K_81 := K0.wr W80 (Or.inl (List.mem_of_getElem? (i := 0) rfl))
  have E_a1_82 := E_a1.wr W80
  have Frecords_a1_83 := Frecords_a1.same W80
  have Fproblem_a1_84 := Fproblem_a1.other W80 (Or.inr (slot_ne (Or.inr (hw _ (List.mem_of_getElem? (i := 38) rfl))) (Or.inr (hw _ (List.mem_of_getElem? (i := 36) rfl))) (by decide) (t := (.object "java/lang/String")) (t' := .long) (by decide) (by decide)))
  have Z_85 := Nat.le_trans Z0 (Keep.of_wr W80).1
  have N80 := Fr.snoc X80 N79 ge_a1
  refine Owe.aloadN X80.here hx (hb hby d7_9) rfl rfl ?_
  refine Owe.aloadN X80.here hx (hb hby d7_10) rfl rfl ?_
  refine Owe.putf X80 hx hZ (host := "") hown (Or.inl (hw _ (List.mem_of_getElem? (i := 37) rfl))) Via.refl e80 Fproblem_a1_84 E_a1_82 (Or.inr ⟨(hw _ (List.mem_of_getElem? (i := 38) rfl)), rfl, hnm⟩) (hw _ (List.mem_of_getElem? (i := 24) rfl)) (ty := (.object "java/lang/String")) (by decide) rfl rfl (hb hby d7_11) rfl fun T86 h86 X86 e86 W86 => ?_
  have K_87 := K_81.wr W86 (Or.inl (List.mem_of_getElem? (i := 0) rfl))
  have E_a1_88 := E_a1_82.wr W86
  have Frecords_a1_89 := Frecords_a1_83.other W86 (Or.inr (slot_ne (Or.inr (hw _ (List.mem_of_getElem? (i := 36) rfl))) (Or.inr (hw _ (List.mem_of_getElem? (i := 38) rfl))) (by decide) (t := .long) (t' := (.object "java/lang/String")) (by decide) (by decide)))
  have Fproblem_a1_90 := Fproblem_a1_84.same W86
  have Z_91 := Nat.le_trans Z_85 (Keep.of_wr W86).1
  have N86 := Fr.snoc X86 N80 ge_a1
  refine Owe.ret0 X86 hx hlk Bd.returns (hb hby d7_14) rfl fun fs hE => ?_
  rw [hG]
  refine ⟨_, _, rfl, ?_, frameMono hE (by decide) (by decide)⟩
  show Qinr Z a1 q2 a3 u_r u_p h0 n0 _ T86.heap _
  rw [e86]
  exact ⟨rfl, N86, K_87, E_a1_88, Fproblem_a1_90⟩
theorem pn_inn : plainName "com/example/overrule/overrule/audit/Verification" = true := by first | (simp [plainName, overriddenIn]; done) | decide +kernel
theorem ef_inn (m : MethodId) (x0 : Addr) (x1 : Int64)  : entryFrame m #[(.ref x0), (.long x1), .null] 4 = mkF m 0 #[.val (.ref x0), .val (.long x1), .second, .val .null] [] := by first | (simp [entryFrame, mkF, argsToLocals, Value.category]; done) | rfl
def Qinn (Z : State) (a1 : Addr) (q2 : Int64) (u_r : Value) (u_p : Value) (h0 : Heap) (n0 : Nat) (v : Option Value) (h : Heap) (L : List Loc) : Prop := v = none ∧ Fr n0 L ∧ Keep h0 h [a1] ∧ Exa Z h a1 "com/example/overrule/overrule/audit/Verification" ∧ Fld Z h a1 "com/example/overrule/overrule/audit/Verification" "problem" "Ljava/lang/String;" .null
set_option maxRecDepth 65536 in
set_option maxHeartbeats 40000000 in
theorem rminn (l : Launch) (Z : State) (a0 : Array Value) (hw : ∀ d ∈ tables_1, d.before a0 Z = true) (ws : List Jvm.Cond) (a1 : Addr) (q2 : Int64) (u_r : Value) (u_p : Value) (h0 : Heap) (n0 : Nat) (Z0 : n0 ≤ h0.size) (E_a1 : Exa Z h0 a1 "com/example/overrule/overrule/audit/Verification") (Frecords_a1 : Fld Z h0 a1 "com/example/overrule/overrule/audit/Verification" "records" "J" u_r) (Fproblem_a1 : Fld Z h0 a1 "com/example/overrule/overrule/audit/Verification" "problem" "Ljava/lang/String;" u_p) (ge_a1 : n0 ≤ a1) :
    MetFree l (⟨"com/example/overrule/overrule/audit/Verification", "<init>", "(JLjava/lang/String;)V"⟩ : MethodName) (head1 (Jvm.Cond.code (⟨"com/example/overrule/overrule/audit/Verification", "<init>", "(JLjava/lang/String;)V"⟩ : MethodName) prog_2_method_1_code 4 none :: ws) ({ frames := 2, cells := 0, slots := 0, locals := 24 } : Room)) (fun a U => a = #[(.ref a1), (.long q2), .null] ∧ Z.Warmed39 U.vm ∧ U.heap = h0) (fun _ _ _ _ _ => True) (fun _ U o U' => ∃ v L, o = .returned v ∧ Qinn Z a1 q2 u_r u_p h0 n0 v U'.heap L ∧ FrameEnd U o U' L ({ frames := 2, cells := 0, slots := 0, locals := 24 } : Room).cells ({ frames := 2, cells := 0, slots := 0, locals := 24 } : Room).slots) := by
  refine MetFree.of_bodySF (plainFor_of_name pn_inn) hisR ?_
  intro p e s m args below meth c s₁ Bd hml0 hP hK
  obtain ⟨rfl, hZ, hh⟩ := hP
  have hx := Bd.exec
  have hby := Bd.bytes
  have hml : c.maxLocals = 4 := hml0
  have hown : s.vm.findClass "com/example/overrule/overrule/audit/Verification" = some m.cls := findClass_of_methodNamed Bd.named
  have hnm := (name_of_methodNamed Bd.named Bd.method).1
  have hlk : meth.locks = false := BodyLoose.notSynchronized Bd
  have X0 : Stand p l e ({ frames := 2, cells := 0, slots := 0, locals := 24 } : Room) s m #[(.ref a1), (.long q2), .null] below meth c s₁ [] 0 0 := Stand.of_body Bd
  have e0 : s₁.heap = h0 := by rw [← hh, Bd.state]; rfl
  have N0 := Fr.nil n0
  have K0 := Keep.refl h0 [a1]
  obtain ⟨G, hG⟩ : ∃ G : Outcome → State → Prop, G = fun o u => ∃ v L, o = .returned v ∧ Qinn Z a1 q2 u_r u_p h0 n0 v u.heap L ∧ FrameEnd s o u L ({ frames := 2, cells := 0, slots := 0, locals := 24 } : Room).cells ({ frames := 2, cells := 0, slots := 0, locals := 24 } : Room).slots := ⟨_, rfl⟩
  suffices hgo : Owe p.tables e below G s₁ (mkF m 0 #[.val (.ref a1), .val (.long q2), .second, .val .null] []) by
    obtain ⟨u, o, h1, h2, h3, h4⟩ := hgo
    exact ⟨u, o, castTop (ef_inn m a1 q2) h1, h2, h3, by rw [hG] at h4; exact h4⟩
  refine Owe.aloadN X0.here hx (hb hby d7_0) rfl rfl ?_
  refine Owe.special X0 hx (y := (⟨"java/lang/Record", "<init>", "()V"⟩ : MethodName)) rfl hown (mvT hZ (hw _ (List.mem_of_getElem? (i := 29) rfl))) (mvT hZ (hw _ (List.mem_of_getElem? (i := 30) rfl))) (mvT hZ (hw _ (List.mem_of_getElem? (i := 33) rfl))) (by decide) (backOf (W := 0) (rmrec l Z a0 hw [] a1 h0 n0 Z0 ) hZ (hw _ (List.mem_of_getElem? (i := 33) rfl)) (hw _ (List.mem_of_getElem? (i := 32) rfl)) (by decide) (by decide)) (by rw [hml]; rfl) (a := a1) (argsL := []) (rest := []) (lenOf pd_4 rfl) rfl (Nat.le_of_ble_eq_true rfl) (hb hby d7_1) rfl e0 (by decide) (by decide) fun T92 v92 L92 X92 hQ92 => ?_
  obtain ⟨rfl, Nq92, e92⟩ := hQ92
  have N92 := Fr.app N0 Nq92
  refine Owe.aloadN X92.here hx (hb hby d7_4) rfl rfl ?_
  refine Owe.lloadN X92.here hx (hb hby d7_5) rfl ?_
  refine Owe.putf X92 hx hZ (host := "") hown (Or.inl (hw _ (List.mem_of_getElem? (i := 35) rfl))) Via.refl e92 Frecords_a1 E_a1 (Or.inr ⟨(hw _ (List.mem_of_getElem? (i := 36) rfl)), rfl, hnm⟩) (hw _ (List.mem_of_getElem? (i := 24) rfl)) (ty := .long) (by decide) rfl rfl (hb hby d7_6) rfl fun T93 h93 X93 e93 W93 => ?_
  have K_94 := K0.wr W93 (Or.inl (List.mem_of_getElem? (i := 0) rfl))
  have E_a1_95 := E_a1.wr W93
  have Frecords_a1_96 := Frecords_a1.same W93
  have Fproblem_a1_97 := Fproblem_a1.other W93 (Or.inr (slot_ne (Or.inr (hw _ (List.mem_of_getElem? (i := 38) rfl))) (Or.inr (hw _ (List.mem_of_getElem? (i := 36) rfl))) (by decide) (t := (.object "java/lang/String")) (t' := .long) (by decide) (by decide)))
  have Z_98 := Nat.le_trans Z0 (Keep.of_wr W93).1
  have N93 := Fr.snoc X93 N92 ge_a1
  refine Owe.aloadN X93.here hx (hb hby d7_9) rfl rfl ?_
  refine Owe.aloadN X93.here hx (hb hby d7_10) rfl rfl ?_
  refine Owe.putf X93 hx hZ (host := "") hown (Or.inl (hw _ (List.mem_of_getElem? (i := 37) rfl))) Via.refl e93 Fproblem_a1_97 E_a1_95 (Or.inr ⟨(hw _ (List.mem_of_getElem? (i := 38) rfl)), rfl, hnm⟩) (hw _ (List.mem_of_getElem? (i := 24) rfl)) (ty := (.object "java/lang/String")) (by decide) rfl rfl (hb hby d7_11) rfl fun T99 h99 X99 e99 W99 => ?_
  have K_100 := K_94.wr W99 (Or.inl (List.mem_of_getElem? (i := 0) rfl))
  have E_a1_101 := E_a1_95.wr W99
  have Frecords_a1_102 := Frecords_a1_96.other W99 (Or.inr (slot_ne (Or.inr (hw _ (List.mem_of_getElem? (i := 36) rfl))) (Or.inr (hw _ (List.mem_of_getElem? (i := 38) rfl))) (by decide) (t := .long) (t' := (.object "java/lang/String")) (by decide) (by decide)))
  have Fproblem_a1_103 := Fproblem_a1_97.same W99
  have Z_104 := Nat.le_trans Z_98 (Keep.of_wr W99).1
  have N99 := Fr.snoc X99 N93 ge_a1
  refine Owe.ret0 X99 hx hlk Bd.returns (hb hby d7_14) rfl fun fs hE => ?_
  rw [hG]
  refine ⟨_, _, rfl, ?_, frameMono hE (by decide) (by decide)⟩
  show Qinn Z a1 q2 u_r u_p h0 n0 _ T99.heap _
  rw [e99]
  exact ⟨rfl, N99, K_100, E_a1_101, Fproblem_a1_103⟩
theorem d8_0 : decode prog_2_method_2_code 0 = .ok (.aload_n 0, 1) := by decide +kernel
theorem d8_1 : decode prog_2_method_2_code 1 = .ok (.getfield 13, 3) := by decide +kernel
theorem d8_4 : decode prog_2_method_2_code 4 = .ok (.ifnonnull 7, 3) := by decide +kernel
theorem d8_7 : decode prog_2_method_2_code 7 = .ok (.iconst 1, 1) := by decide +kernel
theorem d8_8 : decode prog_2_method_2_code 8 = .ok (.goto 4, 3) := by decide +kernel
theorem d8_11 : decode prog_2_method_2_code 11 = .ok (.iconst 0, 1) := by decide +kernel
theorem d8_12 : decode prog_2_method_2_code 12 = .ok (.ireturn, 1) := by decide +kernel
theorem pn_itr : plainName "com/example/overrule/overrule/audit/Verification" = true := by first | (simp [plainName, overriddenIn]; done) | decide +kernel
theorem ef_itr (m : MethodId) (x0 : Addr)  : entryFrame m #[(.ref x0)] 1 = mkF m 0 #[.val (.ref x0)] [] := by first | (simp [entryFrame, mkF, argsToLocals, Value.category]; done) | rfl
def Qitr (Z : State) (a1 : Addr) (w2 : Addr) (h0 : Heap) (n0 : Nat) (v : Option Value) (h : Heap) (L : List Loc) : Prop := v = some (.int (0 : Int32)) ∧ Fr n0 L ∧ h = h0
set_option maxRecDepth 65536 in
set_option maxHeartbeats 40000000 in
theorem rmitr (l : Launch) (Z : State) (a0 : Array Value) (hw : ∀ d ∈ tables_1, d.before a0 Z = true) (ws : List Jvm.Cond) (a1 : Addr) (w2 : Addr) (h0 : Heap) (n0 : Nat) (Z0 : n0 ≤ h0.size) (Fproblem_a1 : Fld Z h0 a1 "com/example/overrule/overrule/audit/Verification" "problem" "Ljava/lang/String;" (.ref w2)) :
    MetFree l (⟨"com/example/overrule/overrule/audit/Verification", "intact", "()Z"⟩ : MethodName) (head1 (Jvm.Cond.code (⟨"com/example/overrule/overrule/audit/Verification", "intact", "()Z"⟩ : MethodName) prog_2_method_2_code 1 (some .boolean) :: ws) ({ frames := 0, cells := 0, slots := 0, locals := 0 } : Room)) (fun a U => a = #[(.ref a1)] ∧ Z.Warmed39 U.vm ∧ U.heap = h0) (fun _ _ _ _ _ => True) (fun _ U o U' => ∃ v L, o = .returned v ∧ Qitr Z a1 w2 h0 n0 v U'.heap L ∧ FrameEnd U o U' L ({ frames := 0, cells := 0, slots := 0, locals := 0 } : Room).cells ({ frames := 0, cells := 0, slots := 0, locals := 0 } : Room).slots) := by
  refine MetFree.of_bodySF (plainFor_of_name pn_itr) hisR ?_
  intro p e s m args below meth c s₁ Bd hml0 hP hK
  obtain ⟨rfl, hZ, hh⟩ := hP
  have hx := Bd.exec
  have hby := Bd.bytes
  have hml : c.maxLocals = 1 := hml0
  have hown : s.vm.findClass "com/example/overrule/overrule/audit/Verification" = some m.cls := findClass_of_methodNamed Bd.named
  have hnm := (name_of_methodNamed Bd.named Bd.method).1
  have hlk : meth.locks = false := BodyLoose.notSynchronized Bd
  have X0 : Stand p l e ({ frames := 0, cells := 0, slots := 0, locals := 0 } : Room) s m #[(.ref a1)] below meth c s₁ [] 0 0 := Stand.of_body Bd
  have e0 : s₁.heap = h0 := by rw [← hh, Bd.state]; rfl
  have N0 := Fr.nil n0
  obtain ⟨G, hG⟩ : ∃ G : Outcome → State → Prop, G = fun o u => ∃ v L, o = .returned v ∧ Qitr Z a1 w2 h0 n0 v u.heap L ∧ FrameEnd s o u L ({ frames := 0, cells := 0, slots := 0, locals := 0 } : Room).cells ({ frames := 0, cells := 0, slots := 0, locals := 0 } : Room).slots := ⟨_, rfl⟩
  suffices hgo : Owe p.tables e below G s₁ (mkF m 0 #[.val (.ref a1)] []) by
    obtain ⟨u, o, h1, h2, h3, h4⟩ := hgo
    exact ⟨u, o, castTop (ef_itr m a1) h1, h2, h3, by rw [hG] at h4; exact h4⟩
  refine Owe.aloadN X0.here hx (hb hby d8_0) rfl rfl ?_
  refine Owe.getf X0 hx hZ (host := "") hown (Or.inl (hw _ (List.mem_of_getElem? (i := 37) rfl))) Via.refl e0 Fproblem_a1 (hb hby d8_1) rfl fun T105 X105 e105 => ?_
  refine Owe.ifnonnullYes X105.here hx (hb hby d8_4) rfl (pc' := 11) (by decide) (by decide) ?_
  refine Owe.iconst X105.here hx (hb hby d8_11) (w := (0 : Int32)) rfl ?_
  refine Owe.retN X105 hx hlk (t := .boolean) Bd.returns (by simp) (hb hby d8_12) rfl fun fs hE => ?_
  rw [hG]
  refine ⟨_, _, rfl, ?_, frameMono hE (by decide) (by decide)⟩
  show Qitr Z a1 w2 h0 n0 _ T105.heap _
  rw [e105]
  exact ⟨rfl, N0, rfl⟩
theorem pn_itn : plainName "com/example/overrule/overrule/audit/Verification" = true := by first | (simp [plainName, overriddenIn]; done) | decide +kernel
theorem ef_itn (m : MethodId) (x0 : Addr)  : entryFrame m #[(.ref x0)] 1 = mkF m 0 #[.val (.ref x0)] [] := by first | (simp [entryFrame, mkF, argsToLocals, Value.category]; done) | rfl
def Qitn (Z : State) (a1 : Addr) (h0 : Heap) (n0 : Nat) (v : Option Value) (h : Heap) (L : List Loc) : Prop := v = some (.int (1 : Int32)) ∧ Fr n0 L ∧ h = h0
set_option maxRecDepth 65536 in
set_option maxHeartbeats 40000000 in
theorem rmitn (l : Launch) (Z : State) (a0 : Array Value) (hw : ∀ d ∈ tables_1, d.before a0 Z = true) (ws : List Jvm.Cond) (a1 : Addr) (h0 : Heap) (n0 : Nat) (Z0 : n0 ≤ h0.size) (Fproblem_a1 : Fld Z h0 a1 "com/example/overrule/overrule/audit/Verification" "problem" "Ljava/lang/String;" .null) :
    MetFree l (⟨"com/example/overrule/overrule/audit/Verification", "intact", "()Z"⟩ : MethodName) (head1 (Jvm.Cond.code (⟨"com/example/overrule/overrule/audit/Verification", "intact", "()Z"⟩ : MethodName) prog_2_method_2_code 1 (some .boolean) :: ws) ({ frames := 0, cells := 0, slots := 0, locals := 0 } : Room)) (fun a U => a = #[(.ref a1)] ∧ Z.Warmed39 U.vm ∧ U.heap = h0) (fun _ _ _ _ _ => True) (fun _ U o U' => ∃ v L, o = .returned v ∧ Qitn Z a1 h0 n0 v U'.heap L ∧ FrameEnd U o U' L ({ frames := 0, cells := 0, slots := 0, locals := 0 } : Room).cells ({ frames := 0, cells := 0, slots := 0, locals := 0 } : Room).slots) := by
  refine MetFree.of_bodySF (plainFor_of_name pn_itn) hisR ?_
  intro p e s m args below meth c s₁ Bd hml0 hP hK
  obtain ⟨rfl, hZ, hh⟩ := hP
  have hx := Bd.exec
  have hby := Bd.bytes
  have hml : c.maxLocals = 1 := hml0
  have hown : s.vm.findClass "com/example/overrule/overrule/audit/Verification" = some m.cls := findClass_of_methodNamed Bd.named
  have hnm := (name_of_methodNamed Bd.named Bd.method).1
  have hlk : meth.locks = false := BodyLoose.notSynchronized Bd
  have X0 : Stand p l e ({ frames := 0, cells := 0, slots := 0, locals := 0 } : Room) s m #[(.ref a1)] below meth c s₁ [] 0 0 := Stand.of_body Bd
  have e0 : s₁.heap = h0 := by rw [← hh, Bd.state]; rfl
  have N0 := Fr.nil n0
  obtain ⟨G, hG⟩ : ∃ G : Outcome → State → Prop, G = fun o u => ∃ v L, o = .returned v ∧ Qitn Z a1 h0 n0 v u.heap L ∧ FrameEnd s o u L ({ frames := 0, cells := 0, slots := 0, locals := 0 } : Room).cells ({ frames := 0, cells := 0, slots := 0, locals := 0 } : Room).slots := ⟨_, rfl⟩
  suffices hgo : Owe p.tables e below G s₁ (mkF m 0 #[.val (.ref a1)] []) by
    obtain ⟨u, o, h1, h2, h3, h4⟩ := hgo
    exact ⟨u, o, castTop (ef_itn m a1) h1, h2, h3, by rw [hG] at h4; exact h4⟩
  refine Owe.aloadN X0.here hx (hb hby d8_0) rfl rfl ?_
  refine Owe.getf X0 hx hZ (host := "") hown (Or.inl (hw _ (List.mem_of_getElem? (i := 37) rfl))) Via.refl e0 Fproblem_a1 (hb hby d8_1) rfl fun T106 X106 e106 => ?_
  refine Owe.ifnonnullNo X106.here hx (hb hby d8_4) rfl ?_
  refine Owe.iconst X106.here hx (hb hby d8_7) (w := (1 : Int32)) rfl ?_
  refine Owe.goto X106.here hx (hb hby d8_8) (pc' := 12) (by decide) (by decide) ?_
  refine Owe.retN X106 hx hlk (t := .boolean) Bd.returns (by simp) (hb hby d8_12) rfl fun fs hE => ?_
  rw [hG]
  refine ⟨_, _, rfl, ?_, frameMono hE (by decide) (by decide)⟩
  show Qitn Z a1 h0 n0 _ T106.heap _
  rw [e106]
  exact ⟨rfl, N0, rfl⟩
theorem pn_0 : plainName "com/example/overrule/overrule/audit/VerificationIntactPinLaw" = true := by first | (simp [plainName, overriddenIn]; done) | decide +kernel
theorem ef_0 (m : MethodId) (x0 : Int64) (x1 : Int32) (x2 : Int32) (x3 : Int32) (x4 : Int32)  : entryFrame m #[(.long x0), (.int x1), (.int x2), (.int x3), (.int x4)] maxLocals = mkF m 0 #[.val (.long x0), .second, .val (.int x1), .val (.int x2), .val (.int x3), .val (.int x4), .unset, .unset, .unset, .unset, .unset, .unset] [] := by first | (simp [entryFrame, mkF, argsToLocals, Value.category, maxLocals]; done) | rfl
def Q0 (Z : State) (q1 : Int64) (p2 : Int32) (p3 : Int32) (p4 : Int32) (p5 : Int32) (G1 : Int32) (h0 : Heap) (n0 : Nat) (v : Option Value) (h : Heap) (L : List Loc) : Prop := v = some (.int 1) ∧ Fr n0 L
set_option maxRecDepth 65536 in
set_option maxHeartbeats 40000000 in
theorem rm0 (l : Launch) (Z : State) (a0 : Array Value) (hw : ∀ d ∈ tables_1, d.before a0 Z = true) (ws : List Jvm.Cond) (q1 : Int64) (p2 : Int32) (p3 : Int32) (p4 : Int32) (p5 : Int32) (G1 : Int32) (h0 : Heap) (n0 : Nat) (Z0 : n0 ≤ h0.size) (S_COMPACT_STRINGS : Sta Z Z.heap "java/lang/String" "COMPACT_STRINGS" "Z" (.int G1)) (cs0 : ¬ (G1 = (0 : Int32))) (Ol : Old Z n0 h0) :
    MetFree l x (head1 (Jvm.Cond.code x code maxLocals ret :: ws) room_1) (fun a U => a = #[(.long q1), (.int p2), (.int p3), (.int p4), (.int p5)] ∧ Z.Warmed39 U.vm ∧ U.heap = h0 ∧ CHv Z own_EL U.vm h0) (fun _ _ _ _ _ => True) (fun _ U o U' => ∃ v L, o = .returned v ∧ Q0 Z q1 p2 p3 p4 p5 G1 h0 n0 v U'.heap L ∧ CHr Z own_EL U.vm U.heap U'.vm U'.heap ∧ ReturnedEndW U o U' L room_1.cells room_1.slots) := by
  refine MetFree.of_bodySF (plainFor_of_name pn_0) hisR ?_
  intro p e s m args below meth c s₁ Bd hml0 hP hK
  obtain ⟨rfl, hZ0, hh, H0⟩ := hP
  have hx := Bd.exec
  have hby := Bd.bytes
  have hml : c.maxLocals = 12 := hml0
  have hown : s.vm.findClass "com/example/overrule/overrule/audit/VerificationIntactPinLaw" = some m.cls := findClass_of_methodNamed Bd.named
  have hnm := (name_of_methodNamed Bd.named Bd.method).1
  have hlk : meth.locks = false := BodyLoose.notSynchronized Bd
  have X0 : Stand p l e room_1 (s.setVm s.vm) m #[(.long q1), (.int p2), (.int p3), (.int p4), (.int p5)] below meth c s₁ [] 0 0 := Stand.of_body Bd
  have e0 : s₁.heap = h0 := by rw [← hh, Bd.state]; rfl
  have N0 := Fr.nil n0
  have hZ : Z.Warmed39 (s.setVm s.vm).vm := hZ0
  have hown1 : (s.setVm s.vm).vm.findClass "com/example/overrule/overrule/audit/VerificationIntactPinLaw" = some m.cls := hown
  have hS0 : s.Since s.vm 0 := (State.WarmedH.refl s).since 0
  have hk0 : 0 ≤ h0.size := Nat.zero_le _
  have R0 : CHr Z own_EL s.vm h0 s.vm h0 := CHr.refl H0
  obtain ⟨G, hG⟩ : ∃ G : Outcome → State → Prop, G = fun o u => ∃ v L, o = .returned v ∧ Q0 Z q1 p2 p3 p4 p5 G1 h0 n0 v u.heap L ∧ CHr Z own_EL s.vm s.heap u.vm u.heap ∧ ReturnedEndW s o u L room_1.cells room_1.slots := ⟨_, rfl⟩
  suffices hgo : Owe p.tables e below G s₁ (mkF m 0 #[.val (.long q1), .second, .val (.int p2), .val (.int p3), .val (.int p4), .val (.int p5), .unset, .unset, .unset, .unset, .unset, .unset] []) by
    obtain ⟨u, o, h1, h2, h3, h4⟩ := hgo
    exact ⟨u, o, castTop (ef_0 m q1 p2 p3 p4 p5) h1, h2, h3, by rw [hG] at h4; exact h4⟩
  have hws : ∀ d ∈ StrChars.Road.words, d.before a0 Z = true := fun d hd => hw d (own_words d hd)
  refine Owe.iloadN X0.here hx (hb hby at_0) rfl ?_
  refine Owe.iconst X0.here hx (hb hby at_1) (w := (1 : Int32)) rfl ?_
  refine Owe.iand X0.here hx (hb hby at_2) rfl ?_
  by_cases hc3_107 : (p2 &&& (1 : Int32)) = (0 : Int32)
  · skip
    refine Owe.ifYes X0.here hx (hb hby at_3) rfl ((if0 _ _).trans (teq hc3_107).1) (pc' := 10) (by decide) (by decide) ?_
    refine Owe.iconst X0.here hx (hb hby at_10) (w := (0 : Int32)) rfl ?_
    refine Owe.istore X0.here hx (hb hby at_11) rfl (l' := #[.val (.long q1), .second, .val (.int p2), .val (.int p3), .val (.int p4), .val (.int p5), .val (.int (0 : Int32)), .unset, .unset, .unset, .unset, .unset]) rfl ?_
    refine Owe.iload X0.here hx (hb hby at_13) rfl ?_
    refine Owe.ldcI X0 hx (v := (2147483647 : Int32)) hown1 (mvT hZ (hw _ (List.mem_of_getElem? (i := 0) rfl))) (hb hby at_15) ?_
    refine Owe.iand X0.here hx (hb hby at_17) rfl ?_
    refine Owe.iconst X0.here hx (hb hby at_18) (w := (3 : Int32)) rfl ?_
    refine Owe.irem X0.here hx (hb hby at_19) rfl (by decide) ?_
    rcases own_rem3 p5 with hk | hk | hk
    · rw [hk]
      refine Owe.istore X0.here hx (hb hby at_20) rfl (l' := #[.val (.long q1), .second, .val (.int p2), .val (.int p3), .val (.int p4), .val (.int p5), .val (.int (0 : Int32)), .val (.int (0 : Int32)), .unset, .unset, .unset, .unset]) rfl ?_
      refine Owe.iconst X0.here hx (hb hby at_22) (w := (2 : Int32)) rfl ?_
      refine Owe.newarr X0 hx hZ (aty := .char) (hw _ (List.mem_of_getElem? (i := 1) rfl)) e0 (hb hby at_23) rfl (by decide) (cap := 2) (by decide) (by decide) (by decide) (by decide) fun T108 h108 b108 k108 g108 X108 e108 E108 V108 => ?_
      have sf_b108 := (Safe.new (Nat.le_of_eq g108.symm) : Safe Z own_EL s.vm h0 b108)
      have ge_b108 := Nat.le_trans Z0 (Nat.le_of_eq g108.symm)
      have hk109 := Nat.le_trans hk0 E108.1
      have sf_b108_109 := Safe.ext E108 H0 sf_b108
      have Rr109 := R0.trans (CHr.ext E108 H0)
      have H109 := CHv.ext E108 H0
      have Ol_110 := Ol.ext E108
      have Z_111 := Nat.le_trans Z0 E108.1
      have V_b108_108 : Arv Z h108 b108 k108 .char (2 : Int32) [(.int (0 : Int32)), (.int (0 : Int32))] (.int (0 : Int32)) := V108.pad (pad_rep [] (.int (0 : Int32)) 2)
      refine Owe.astore X108.here hx (hb hby at_25) rfl rfl (l' := #[.val (.long q1), .second, .val (.int p2), .val (.int p3), .val (.int p4), .val (.int p5), .val (.int (0 : Int32)), .val (.int (0 : Int32)), .val (.ref b108), .unset, .unset, .unset]) rfl ?_
      refine Owe.aload X108.here hx (hb hby at_27) rfl rfl ?_
      refine Owe.iconst X108.here hx (hb hby at_29) (w := (0 : Int32)) rfl ?_
      refine Owe.iloadN X108.here hx (hb hby at_30) rfl ?_
      refine Owe.sipush X108.here hx (hb hby at_31) (w := (255 : Int32)) rfl ?_
      refine Owe.iand X108.here hx (hb hby at_34) rfl ?_
      refine Owe.i2c X108.here hx (hb hby at_35) rfl ?_
      refine Owe.castore X108 hx hZ e108 V_b108_108 (x := ((p3 &&& (255 : Int32)).toUInt32.toUInt16.toUInt32.toInt32)) 0 rfl (Nat.le_of_ble_eq_true rfl) (by decide) (hb hby at_36) rfl fun T112 h112 X112 e112 W112 (V112 : Arv Z h112 b108 k108 .char (2 : Int32) [(.int (nar .char ((p3 &&& (255 : Int32)).toUInt32.toUInt16.toUInt32.toInt32))), (.int (0 : Int32))] (.int (0 : Int32))) => ?_
      have hk113 := Nat.le_trans hk109 (Keep.of_wr W112).1
      have sf_b108_113 := Safe.wr W112 sf_b108_109 H109 sf_b108_109
      have Rr113 := Rr109.trans (CHr.wr W112 sf_b108_109 H109)
      have H113 := CHv.wr W112 sf_b108_109 H109
      have Ol_114 := Ol_110.wr W112 ge_b108
      have Z_115 := Nat.le_trans Z_111 (Keep.of_wr W112).1
      have N112 := Fr.snoc X112 N0 ge_b108
      refine Owe.aload X112.here hx (hb hby at_37) rfl rfl ?_
      refine Owe.iconst X112.here hx (hb hby at_39) (w := (1 : Int32)) rfl ?_
      refine Owe.iload X112.here hx (hb hby at_40) rfl ?_
      refine Owe.sipush X112.here hx (hb hby at_42) (w := (255 : Int32)) rfl ?_
      refine Owe.iand X112.here hx (hb hby at_45) rfl ?_
      refine Owe.i2c X112.here hx (hb hby at_46) rfl ?_
      refine Owe.castore X112 hx hZ e112 V112 (x := ((p4 &&& (255 : Int32)).toUInt32.toUInt16.toUInt32.toInt32)) 1 rfl (Nat.le_of_ble_eq_true rfl) (by decide) (hb hby at_47) rfl fun T116 h116 X116 e116 W116 (V116 : Arv Z h116 b108 k108 .char (2 : Int32) [(.int (nar .char ((p3 &&& (255 : Int32)).toUInt32.toUInt16.toUInt32.toInt32))), (.int (nar .char ((p4 &&& (255 : Int32)).toUInt32.toUInt16.toUInt32.toInt32)))] (.int (0 : Int32))) => ?_
      have hk117 := Nat.le_trans hk113 (Keep.of_wr W116).1
      have sf_b108_117 := Safe.wr W116 sf_b108_113 H113 sf_b108_113
      have Rr117 := Rr113.trans (CHr.wr W116 sf_b108_113 H113)
      have H117 := CHv.wr W116 sf_b108_113 H113
      have Ol_118 := Ol_114.wr W116 ge_b108
      have Z_119 := Nat.le_trans Z_115 (Keep.of_wr W116).1
      have N116 := Fr.snoc X116 N112 ge_b108
      refine Owe.iload X116.here hx (hb hby at_48) rfl ?_
      refine Owe.ifNo X116.here hx (hb hby at_50) rfl ((if0 _ _).trans (teq (by decide)).2) ?_
      refine Owe.new X116 hx hZ hown1 (hw _ (List.mem_of_getElem? (i := 2) rfl)) (hw _ (List.mem_of_getElem? (i := 3) rfl)) (hw _ (List.mem_of_getElem? (i := 4) rfl)) e116 (hb hby at_53) (by decide) (by decide) fun T120 h120 b120 g120 X120 e120 E120 A120 D120 => ?_
      have ne_b108_b120 : b108 ≠ b120 := Nat.ne_of_lt (Nat.lt_of_lt_of_le V116.lt (Nat.le_of_eq g120.symm))
      have sf_b120 := (Safe.new (Nat.le_of_eq g120.symm) : Safe Z own_EL s.vm h116 b120)
      have ge_b120 := Nat.le_trans Z_119 (Nat.le_of_eq g120.symm)
      have hk121 := Nat.le_trans hk117 E120.1
      have sf_b108_121 := Safe.ext E120 H117 sf_b108_117
      have sf_b120_121 := Safe.ext E120 H117 sf_b120
      have Rr121 := Rr117.trans (CHr.ext E120 H117)
      have H121 := CHv.ext E120 H117
      have Ol_122 := Ol_118.ext E120
      have V116_123 := V116.ext E120
      have Z_124 := Nat.le_trans Z_119 E120.1
      have Fvalue_b120 : Fld Z h120 b120 "java/lang/String" "value" "[B" .null := D120 (Or.inr (hw _ (List.mem_of_getElem? (i := 17) rfl))) (ty := (.array .byte)) (by decide)
      have Fcoder_b120 : Fld Z h120 b120 "java/lang/String" "coder" "B" (.int (0 : Int32)) := D120 (Or.inr (hw _ (List.mem_of_getElem? (i := 18) rfl))) (ty := .byte) (by decide)
      refine Owe.dup X120.here hx (hb hby at_56) rfl rfl ?_
      refine Owe.iconst X120.here hx (hb hby at_57) (w := (0 : Int32)) rfl ?_
      refine Owe.newarr X120 hx hZ (aty := .char) (hw _ (List.mem_of_getElem? (i := 1) rfl)) e120 (hb hby at_58) rfl (by decide) (cap := 0) (by decide) (by decide) (by decide) (by decide) fun T125 h125 b125 k125 g125 X125 e125 E125 V125 => ?_
      have ne_b108_b125 : b108 ≠ b125 := Nat.ne_of_lt (Nat.lt_of_lt_of_le V116_123.lt (Nat.le_of_eq g125.symm))
      have ne_b120_b125 : b120 ≠ b125 := Nat.ne_of_lt (Nat.lt_of_lt_of_le A120.lt (Nat.le_of_eq g125.symm))
      have sf_b125 := (Safe.new (Nat.le_of_eq g125.symm) : Safe Z own_EL s.vm h120 b125)
      have ge_b125 := Nat.le_trans Z_124 (Nat.le_of_eq g125.symm)
      have hk126 := Nat.le_trans hk121 E125.1
      have sf_b108_126 := Safe.ext E125 H121 sf_b108_121
      have sf_b120_126 := Safe.ext E125 H121 sf_b120_121
      have sf_b125_126 := Safe.ext E125 H121 sf_b125
      have Rr126 := Rr121.trans (CHr.ext E125 H121)
      have H126 := CHv.ext E125 H121
      have Ol_127 := Ol_122.ext E125
      have V116_128 := V116_123.ext E125
      have A120_129 := A120.ext E125
      have Fvalue_b120_130 := Fvalue_b120.ext E125
      have Fcoder_b120_131 := Fcoder_b120.ext E125
      have Z_132 := Nat.le_trans Z_124 E125.1
      have V_b125_125 : Arv Z h125 b125 k125 .char (0 : Int32) [] (.int (0 : Int32)) := V125
      refine Owe.specialS X125 hx hZ hS0 hk126 (y := (⟨"java/lang/String", "<init>", "([C)V"⟩ : MethodName)) rfl hown1 (mvT hZ (hw _ (List.mem_of_getElem? (i := 5) rfl))) (mvT hZ (hw _ (List.mem_of_getElem? (i := 6) rfl))) (mvT hZ (hw _ (List.mem_of_getElem? (i := 7) rfl))) (by decide) (backOfSH (W := 1) (rmse1 l Z a0 hw [] b120 b125 k125 h125 n0 Z_132 A120_129 Fvalue_b120_130 Fcoder_b120_131 ge_b120 V_b125_125 (Ne.symm ne_b120_b125)) hZ (hw _ (List.mem_of_getElem? (i := 7) rfl)) (hw _ (List.mem_of_getElem? (i := 4) rfl)) (by decide) (by decide) (own_ew hw) H126) (by rw [hml]; rfl) (a := b120) (argsL := [(.ref b125)]) (rest := [(.ref b120)]) (lenOf pd_5 rfl) rfl (Nat.le_of_ble_eq_true rfl) (hb hby at_60) rfl e125 (by decide) (by decide) fun T133 v133 L133 X133 hS133 hZ133 hown133 hC133 hQ133 => ?_
      obtain ⟨b1_133, kb1_133, rfl, Nq133, K133, E_a1_133, Fvalue_a1_133, Fcoder_a1_133, V_b1_133⟩ := hQ133
      have N133 := Fr.app N116 Nq133
      have hk134 := Nat.le_trans hk126 K133.1
      have Ol_135 := Ol_127.keep K133 (allS ge_b120 all0)
      have V116_136 := V116_128.keep K133 (ninS ne_b108_b120 nin0)
      have A120_137 := A120_129.keep K133
      have V_b125_138 := V_b125_125.keep K133 (ninS (Ne.symm ne_b120_b125) nin0)
      have Z_139 := Nat.le_trans Z_132 K133.1
      have sf_b108_133 := CHr.safe hC133 V116_128.lt sf_b108_126
      have sf_b120_133 := CHr.safe hC133 A120_129.lt sf_b120_126
      have sf_b125_133 := CHr.safe hC133 V_b125_125.lt sf_b125_126
      have Rr133 := Rr126.trans hC133
      have H133 := hC133.1
      have hk133 : T133.heap.size ≤ T133.heap.size := Nat.le_refl _
      refine Owe.astore X133.here hx (hb hby at_63) rfl rfl (l' := #[.val (.long q1), .second, .val (.int p2), .val (.int p3), .val (.int p4), .val (.int p5), .val (.int (0 : Int32)), .val (.int (0 : Int32)), .val (.ref b108), .val (.ref b120), .unset, .unset]) rfl ?_
      refine Owe.goto X133.here hx (hb hby at_65) (pc' := 97) (by decide) (by decide) ?_
      refine Owe.iload X133.here hx (hb hby at_97) rfl ?_
      refine Owe.ifYes X133.here hx (hb hby at_99) rfl ((if0 _ _).trans (teq (by decide)).1) (pc' := 106) (by decide) (by decide) ?_
      refine Owe.aload X133.here hx (hb hby at_106) rfl rfl ?_
      refine Owe.astore X133.here hx (hb hby at_108) rfl rfl (l' := #[.val (.long q1), .second, .val (.int p2), .val (.int p3), .val (.int p4), .val (.int p5), .val (.int (0 : Int32)), .val (.int (0 : Int32)), .val (.ref b108), .val (.ref b120), .val (.ref b120), .unset]) rfl ?_
      refine Owe.new X133 hx hZ133 hown133 (hw _ (List.mem_of_getElem? (i := 23) rfl)) (hw _ (List.mem_of_getElem? (i := 24) rfl)) (hw _ (List.mem_of_getElem? (i := 25) rfl)) rfl (hb hby at_110) (by decide) (by decide) fun T140 h140 b140 g140 X140 e140 E140 A140 D140 => ?_
      have ne_b108_b140 : b108 ≠ b140 := Nat.ne_of_lt (Nat.lt_of_lt_of_le V116_136.lt (Nat.le_of_eq g140.symm))
      have ne_b120_b140 : b120 ≠ b140 := Nat.ne_of_lt (Nat.lt_of_lt_of_le E_a1_133.lt (Nat.le_of_eq g140.symm))
      have ne_b125_b140 : b125 ≠ b140 := Nat.ne_of_lt (Nat.lt_of_lt_of_le V_b125_138.lt (Nat.le_of_eq g140.symm))
      have ne_b1_133_b140 : b1_133 ≠ b140 := Nat.ne_of_lt (Nat.lt_of_lt_of_le V_b1_133.lt (Nat.le_of_eq g140.symm))
      have sf_b140 := (Safe.new (Nat.le_of_eq g140.symm) : Safe Z own_EL T133.vm T133.heap b140)
      have ge_b140 := Nat.le_trans Z_139 (Nat.le_of_eq g140.symm)
      have hk141 := Nat.le_trans hk133 E140.1
      have sf_b108_141 := Safe.ext E140 H133 sf_b108_133
      have sf_b120_141 := Safe.ext E140 H133 sf_b120_133
      have sf_b125_141 := Safe.ext E140 H133 sf_b125_133
      have sf_b140_141 := Safe.ext E140 H133 sf_b140
      have Rr141 := Rr133.trans (CHr.ext E140 H133)
      have H141 := CHv.ext E140 H133
      have Ol_142 := Ol_135.ext E140
      have V116_143 := V116_136.ext E140
      have E_a1_144 := E_a1_133.ext E140
      have V_b125_145 := V_b125_138.ext E140
      have Fvalue_a1_146 := Fvalue_a1_133.ext E140
      have Fcoder_a1_147 := Fcoder_a1_133.ext E140
      have V_b1_148 := V_b1_133.ext E140
      have Z_149 := Nat.le_trans Z_139 E140.1
      have Frecords_b140 : Fld Z h140 b140 "com/example/overrule/overrule/audit/Verification" "records" "J" (.long (0 : Int64)) := D140 (Or.inr (hw _ (List.mem_of_getElem? (i := 36) rfl))) (ty := .long) (by decide)
      have Fproblem_b140 : Fld Z h140 b140 "com/example/overrule/overrule/audit/Verification" "problem" "Ljava/lang/String;" .null := D140 (Or.inr (hw _ (List.mem_of_getElem? (i := 38) rfl))) (ty := (.object "java/lang/String")) (by decide)
      refine Owe.dup X140.here hx (hb hby at_113) rfl rfl ?_
      refine Owe.lloadN X140.here hx (hb hby at_114) rfl ?_
      refine Owe.aload X140.here hx (hb hby at_115) rfl rfl ?_
      refine Owe.special X140 hx (y := (⟨"com/example/overrule/overrule/audit/Verification", "<init>", "(JLjava/lang/String;)V"⟩ : MethodName)) rfl hown133 (mvT hZ133 (hw _ (List.mem_of_getElem? (i := 26) rfl))) (mvT hZ133 (hw _ (List.mem_of_getElem? (i := 27) rfl))) (mvT hZ133 (hw _ (List.mem_of_getElem? (i := 28) rfl))) (by decide) (backOf (W := 1) (rminr l Z a0 hw [] b140 q1 b120 (.long (0 : Int64)) .null h140 n0 Z_149 A140 Frecords_b140 Fproblem_b140 ge_b140) hZ133 (hw _ (List.mem_of_getElem? (i := 28) rfl)) (hw _ (List.mem_of_getElem? (i := 25) rfl)) (by decide) (by decide)) (by rw [hml]; rfl) (a := b140) (argsL := [(.long q1), (.ref b120)]) (rest := [(.ref b140)]) (lenOf pd_6 rfl) rfl (Nat.le_of_ble_eq_true rfl) (hb hby at_117) rfl e140 (by decide) (by decide) fun T150 v150 L150 X150 hQ150 => ?_
      obtain ⟨rfl, Nq150, K150, E_a1_150, Fproblem_a1_150⟩ := hQ150
      have N150 := Fr.app N133 Nq150
      have hk151 := Nat.le_trans hk141 K150.1
      have sf_b108_151 := Safe.keep K150 (sfS sf_b140_141 sf0) H141 sf_b108_141
      have sf_b120_151 := Safe.keep K150 (sfS sf_b140_141 sf0) H141 sf_b120_141
      have sf_b125_151 := Safe.keep K150 (sfS sf_b140_141 sf0) H141 sf_b125_141
      have sf_b140_151 := Safe.keep K150 (sfS sf_b140_141 sf0) H141 sf_b140_141
      have Rr151 := Rr141.trans (CHr.keep K150 (sfS sf_b140_141 sf0) H141)
      have H151 := CHv.keep K150 (sfS sf_b140_141 sf0) H141
      have Ol_152 := Ol_142.keep K150 (allS ge_b140 all0)
      have V116_153 := V116_143.keep K150 (ninS ne_b108_b140 nin0)
      have E_a1_154 := E_a1_144.keep K150
      have V_b125_155 := V_b125_145.keep K150 (ninS ne_b125_b140 nin0)
      have Fvalue_a1_156 := Fvalue_a1_146.keep K150 (ninS ne_b120_b140 nin0)
      have Fcoder_a1_157 := Fcoder_a1_147.keep K150 (ninS ne_b120_b140 nin0)
      have V_b1_158 := V_b1_148.keep K150 (ninS ne_b1_133_b140 nin0)
      have A140_159 := A140.keep K150
      have Z_160 := Nat.le_trans Z_149 K150.1
      refine Owe.astore X150.here hx (hb hby at_120) rfl rfl (l' := #[.val (.long q1), .second, .val (.int p2), .val (.int p3), .val (.int p4), .val (.int p5), .val (.int (0 : Int32)), .val (.int (0 : Int32)), .val (.ref b108), .val (.ref b120), .val (.ref b120), .val (.ref b140)]) rfl ?_
      refine Owe.aload X150.here hx (hb hby at_122) rfl rfl ?_
      refine Owe.virt X150 hx hZ133 (y := (⟨"com/example/overrule/overrule/audit/Verification", "intact", "()Z"⟩ : MethodName)) (z := (⟨"com/example/overrule/overrule/audit/Verification", "intact", "()Z"⟩ : MethodName)) hown133 (mvT hZ133 (hw _ (List.mem_of_getElem? (i := 39) rfl))) (mvT hZ133 (hw _ (List.mem_of_getElem? (i := 40) rfl))) (mvT hZ133 (hw _ (List.mem_of_getElem? (i := 42) rfl))) (mvT hZ133 (hw _ (List.mem_of_getElem? (i := 41) rfl))) (notFace_of_selects (args := #[]) (mvT hZ133 (hw _ (List.mem_of_getElem? (i := 42) rfl)))) (by decide) (backOf (W := 0) (rmitr l Z a0 hw [] b140 b120 T150.heap n0 Z_160 Fproblem_a1_150) hZ133 (hw _ (List.mem_of_getElem? (i := 43) rfl)) (hw _ (List.mem_of_getElem? (i := 25) rfl)) (by decide) (by decide)) (by rw [hml]; rfl) (a := b140) (argsL := []) (rest := []) E_a1_150 (lenOf pd_7 rfl) rfl (Nat.le_of_ble_eq_true rfl) (hb hby at_124) rfl rfl (by decide) (by decide) fun T161 v161 L161 X161 hQ161 => ?_
      obtain ⟨rfl, Nq161, e161⟩ := hQ161
      have N161 := Fr.app N150 Nq161
      refine Owe.iload X161.here hx (hb hby at_127) rfl ?_
      refine Owe.icmpNo X161.here hx (hb hby at_129) rfl (teq (by decide)).2 ?_
      refine Owe.iconst X161.here hx (hb hby at_132) (w := (1 : Int32)) rfl ?_
      refine Owe.goto X161.here hx (hb hby at_133) (pc' := 137) (by decide) (by decide) ?_
      refine Owe.retNW X161 hx hS133 e161 hk151 hlk (t := .boolean) Bd.returns (by simp) (hb hby at_137) rfl fun fs hE => ?_
      rw [hG]
      refine ⟨_, _, rfl, ?_, ?_, coldMono hE (by decide) (by decide)⟩
      rotate_left
      · rw [hh]
        show CHr Z own_EL s.vm h0 T161.vm T161.heap
        rw [e161]
        exact Rr151.trans (CHv.at X161 hZ133 (own_ew hw) H151)
      show Q0 Z q1 p2 p3 p4 p5 G1 h0 n0 _ T161.heap _
      rw [e161]
      exact ⟨rfl, N161⟩
    · rw [hk]
      refine Owe.istore X0.here hx (hb hby at_20) rfl (l' := #[.val (.long q1), .second, .val (.int p2), .val (.int p3), .val (.int p4), .val (.int p5), .val (.int (0 : Int32)), .val (.int (1 : Int32)), .unset, .unset, .unset, .unset]) rfl ?_
      refine Owe.iconst X0.here hx (hb hby at_22) (w := (2 : Int32)) rfl ?_
      refine Owe.newarr X0 hx hZ (aty := .char) (hw _ (List.mem_of_getElem? (i := 1) rfl)) e0 (hb hby at_23) rfl (by decide) (cap := 2) (by decide) (by decide) (by decide) (by decide) fun T162 h162 b162 k162 g162 X162 e162 E162 V162 => ?_
      have sf_b162 := (Safe.new (Nat.le_of_eq g162.symm) : Safe Z own_EL s.vm h0 b162)
      have ge_b162 := Nat.le_trans Z0 (Nat.le_of_eq g162.symm)
      have hk163 := Nat.le_trans hk0 E162.1
      have sf_b162_163 := Safe.ext E162 H0 sf_b162
      have Rr163 := R0.trans (CHr.ext E162 H0)
      have H163 := CHv.ext E162 H0
      have Ol_164 := Ol.ext E162
      have Z_165 := Nat.le_trans Z0 E162.1
      have V_b162_162 : Arv Z h162 b162 k162 .char (2 : Int32) [(.int (0 : Int32)), (.int (0 : Int32))] (.int (0 : Int32)) := V162.pad (pad_rep [] (.int (0 : Int32)) 2)
      refine Owe.astore X162.here hx (hb hby at_25) rfl rfl (l' := #[.val (.long q1), .second, .val (.int p2), .val (.int p3), .val (.int p4), .val (.int p5), .val (.int (0 : Int32)), .val (.int (1 : Int32)), .val (.ref b162), .unset, .unset, .unset]) rfl ?_
      refine Owe.aload X162.here hx (hb hby at_27) rfl rfl ?_
      refine Owe.iconst X162.here hx (hb hby at_29) (w := (0 : Int32)) rfl ?_
      refine Owe.iloadN X162.here hx (hb hby at_30) rfl ?_
      refine Owe.sipush X162.here hx (hb hby at_31) (w := (255 : Int32)) rfl ?_
      refine Owe.iand X162.here hx (hb hby at_34) rfl ?_
      refine Owe.i2c X162.here hx (hb hby at_35) rfl ?_
      refine Owe.castore X162 hx hZ e162 V_b162_162 (x := ((p3 &&& (255 : Int32)).toUInt32.toUInt16.toUInt32.toInt32)) 0 rfl (Nat.le_of_ble_eq_true rfl) (by decide) (hb hby at_36) rfl fun T166 h166 X166 e166 W166 (V166 : Arv Z h166 b162 k162 .char (2 : Int32) [(.int (nar .char ((p3 &&& (255 : Int32)).toUInt32.toUInt16.toUInt32.toInt32))), (.int (0 : Int32))] (.int (0 : Int32))) => ?_
      have hk167 := Nat.le_trans hk163 (Keep.of_wr W166).1
      have sf_b162_167 := Safe.wr W166 sf_b162_163 H163 sf_b162_163
      have Rr167 := Rr163.trans (CHr.wr W166 sf_b162_163 H163)
      have H167 := CHv.wr W166 sf_b162_163 H163
      have Ol_168 := Ol_164.wr W166 ge_b162
      have Z_169 := Nat.le_trans Z_165 (Keep.of_wr W166).1
      have N166 := Fr.snoc X166 N0 ge_b162
      refine Owe.aload X166.here hx (hb hby at_37) rfl rfl ?_
      refine Owe.iconst X166.here hx (hb hby at_39) (w := (1 : Int32)) rfl ?_
      refine Owe.iload X166.here hx (hb hby at_40) rfl ?_
      refine Owe.sipush X166.here hx (hb hby at_42) (w := (255 : Int32)) rfl ?_
      refine Owe.iand X166.here hx (hb hby at_45) rfl ?_
      refine Owe.i2c X166.here hx (hb hby at_46) rfl ?_
      refine Owe.castore X166 hx hZ e166 V166 (x := ((p4 &&& (255 : Int32)).toUInt32.toUInt16.toUInt32.toInt32)) 1 rfl (Nat.le_of_ble_eq_true rfl) (by decide) (hb hby at_47) rfl fun T170 h170 X170 e170 W170 (V170 : Arv Z h170 b162 k162 .char (2 : Int32) [(.int (nar .char ((p3 &&& (255 : Int32)).toUInt32.toUInt16.toUInt32.toInt32))), (.int (nar .char ((p4 &&& (255 : Int32)).toUInt32.toUInt16.toUInt32.toInt32)))] (.int (0 : Int32))) => ?_
      have hk171 := Nat.le_trans hk167 (Keep.of_wr W170).1
      have sf_b162_171 := Safe.wr W170 sf_b162_167 H167 sf_b162_167
      have Rr171 := Rr167.trans (CHr.wr W170 sf_b162_167 H167)
      have H171 := CHv.wr W170 sf_b162_167 H167
      have Ol_172 := Ol_168.wr W170 ge_b162
      have Z_173 := Nat.le_trans Z_169 (Keep.of_wr W170).1
      have N170 := Fr.snoc X170 N166 ge_b162
      refine Owe.iload X170.here hx (hb hby at_48) rfl ?_
      refine Owe.ifYes X170.here hx (hb hby at_50) rfl ((if0 _ _).trans (feq (by decide)).2) (pc' := 68) (by decide) (by decide) ?_
      refine Owe.iload X170.here hx (hb hby at_68) rfl ?_
      refine Owe.iconst X170.here hx (hb hby at_70) (w := (1 : Int32)) rfl ?_
      refine Owe.icmpNo X170.here hx (hb hby at_71) rfl (teq (by decide)).2 ?_
      refine Owe.aload X170.here hx (hb hby at_74) rfl rfl ?_
      refine Owe.iconst X170.here hx (hb hby at_76) (w := (0 : Int32)) rfl ?_
      refine Owe.caload X170 hx hZ e170 V170 (v := (.int (nar .char ((p3 &&& (255 : Int32)).toUInt32.toUInt16.toUInt32.toInt32)))) (by decide) rfl (hb hby at_77) rfl ?_
      refine Owe.stat X170 hx (y := (⟨"java/lang/String", "valueOf", "(C)Ljava/lang/String;"⟩ : MethodName)) hown1 (mvT hZ (hw _ (List.mem_of_getElem? (i := 55) rfl))) (mvT hZ (hw _ (List.mem_of_getElem? (i := 56) rfl))) (mvT hZ (hw _ (List.mem_of_getElem? (i := 4) rfl))) (mvT hZ (hw _ (List.mem_of_getElem? (i := 57) rfl))) (by decide) (backOf (W := 0) (rmvof l Z a0 hw [] (nar .char ((p3 &&& (255 : Int32)).toUInt32.toUInt16.toUInt32.toInt32)) G1 h170 n0 Z_173 S_COMPACT_STRINGS cs0 (and255_chars p3).2 Ol_172) hZ (hw _ (List.mem_of_getElem? (i := 57) rfl)) (hw _ (List.mem_of_getElem? (i := 4) rfl)) (by decide) (by decide)) (by rw [hml]; rfl) (argsL := [(.int (nar .char ((p3 &&& (255 : Int32)).toUInt32.toUInt16.toUInt32.toInt32)))]) (rest := []) (lenOf pd_8 rfl) rfl (Nat.le_of_ble_eq_true rfl) (hb hby at_78) rfl e170 (by decide) (by decide) fun T174 v174 L174 X174 hQ174 => ?_
      obtain ⟨x1_174, t1_174, k1_174, rfl, Nq174, K174, ge_x1_174, fresh_x1_174, ge_t1_174, fresh_t1_174, E_x1_174, Fvalue_x1_174, Fcoder_x1_174, V_t1_174⟩ := hQ174
      have N174 := Fr.app N170 Nq174
      have hk175 := Nat.le_trans hk171 K174.1
      have sf_b162_175 := Safe.keep K174 sf0 H171 sf_b162_171
      have Rr175 := Rr171.trans (CHr.keep K174 sf0 H171)
      have H175 := CHv.keep K174 sf0 H171
      have Ol_176 := Ol_172.keep K174 all0
      have V170_177 := V170.keep K174 nin0
      have Z_178 := Nat.le_trans Z_173 K174.1
      have ne_b162_x1_174 : b162 ≠ x1_174 := Nat.ne_of_lt (Nat.lt_of_lt_of_le V170.lt fresh_x1_174)
      have ne_b162_t1_174 : b162 ≠ t1_174 := Nat.ne_of_lt (Nat.lt_of_lt_of_le V170.lt fresh_t1_174)
      refine Owe.astore X174.here hx (hb hby at_81) rfl rfl (l' := #[.val (.long q1), .second, .val (.int p2), .val (.int p3), .val (.int p4), .val (.int p5), .val (.int (0 : Int32)), .val (.int (1 : Int32)), .val (.ref b162), .val (.ref x1_174), .unset, .unset]) rfl ?_
      refine Owe.goto X174.here hx (hb hby at_83) (pc' := 97) (by decide) (by decide) ?_
      refine Owe.iload X174.here hx (hb hby at_97) rfl ?_
      refine Owe.ifYes X174.here hx (hb hby at_99) rfl ((if0 _ _).trans (teq (by decide)).1) (pc' := 106) (by decide) (by decide) ?_
      refine Owe.aload X174.here hx (hb hby at_106) rfl rfl ?_
      refine Owe.astore X174.here hx (hb hby at_108) rfl rfl (l' := #[.val (.long q1), .second, .val (.int p2), .val (.int p3), .val (.int p4), .val (.int p5), .val (.int (0 : Int32)), .val (.int (1 : Int32)), .val (.ref b162), .val (.ref x1_174), .val (.ref x1_174), .unset]) rfl ?_
      refine Owe.new X174 hx hZ hown1 (hw _ (List.mem_of_getElem? (i := 23) rfl)) (hw _ (List.mem_of_getElem? (i := 24) rfl)) (hw _ (List.mem_of_getElem? (i := 25) rfl)) rfl (hb hby at_110) (by decide) (by decide) fun T179 h179 b179 g179 X179 e179 E179 A179 D179 => ?_
      have ne_b162_b179 : b162 ≠ b179 := Nat.ne_of_lt (Nat.lt_of_lt_of_le V170_177.lt (Nat.le_of_eq g179.symm))
      have ne_x1_174_b179 : x1_174 ≠ b179 := Nat.ne_of_lt (Nat.lt_of_lt_of_le E_x1_174.lt (Nat.le_of_eq g179.symm))
      have ne_t1_174_b179 : t1_174 ≠ b179 := Nat.ne_of_lt (Nat.lt_of_lt_of_le V_t1_174.lt (Nat.le_of_eq g179.symm))
      have sf_b179 := (Safe.new (Nat.le_of_eq g179.symm) : Safe Z own_EL s.vm T174.heap b179)
      have ge_b179 := Nat.le_trans Z_178 (Nat.le_of_eq g179.symm)
      have hk180 := Nat.le_trans hk175 E179.1
      have sf_b162_180 := Safe.ext E179 H175 sf_b162_175
      have sf_b179_180 := Safe.ext E179 H175 sf_b179
      have Rr180 := Rr175.trans (CHr.ext E179 H175)
      have H180 := CHv.ext E179 H175
      have Ol_181 := Ol_176.ext E179
      have V170_182 := V170_177.ext E179
      have E_x1_183 := E_x1_174.ext E179
      have Fvalue_x1_184 := Fvalue_x1_174.ext E179
      have Fcoder_x1_185 := Fcoder_x1_174.ext E179
      have V_t1_186 := V_t1_174.ext E179
      have Z_187 := Nat.le_trans Z_178 E179.1
      have Frecords_b179 : Fld Z h179 b179 "com/example/overrule/overrule/audit/Verification" "records" "J" (.long (0 : Int64)) := D179 (Or.inr (hw _ (List.mem_of_getElem? (i := 36) rfl))) (ty := .long) (by decide)
      have Fproblem_b179 : Fld Z h179 b179 "com/example/overrule/overrule/audit/Verification" "problem" "Ljava/lang/String;" .null := D179 (Or.inr (hw _ (List.mem_of_getElem? (i := 38) rfl))) (ty := (.object "java/lang/String")) (by decide)
      refine Owe.dup X179.here hx (hb hby at_113) rfl rfl ?_
      refine Owe.lloadN X179.here hx (hb hby at_114) rfl ?_
      refine Owe.aload X179.here hx (hb hby at_115) rfl rfl ?_
      refine Owe.special X179 hx (y := (⟨"com/example/overrule/overrule/audit/Verification", "<init>", "(JLjava/lang/String;)V"⟩ : MethodName)) rfl hown1 (mvT hZ (hw _ (List.mem_of_getElem? (i := 26) rfl))) (mvT hZ (hw _ (List.mem_of_getElem? (i := 27) rfl))) (mvT hZ (hw _ (List.mem_of_getElem? (i := 28) rfl))) (by decide) (backOf (W := 1) (rminr l Z a0 hw [] b179 q1 x1_174 (.long (0 : Int64)) .null h179 n0 Z_187 A179 Frecords_b179 Fproblem_b179 ge_b179) hZ (hw _ (List.mem_of_getElem? (i := 28) rfl)) (hw _ (List.mem_of_getElem? (i := 25) rfl)) (by decide) (by decide)) (by rw [hml]; rfl) (a := b179) (argsL := [(.long q1), (.ref x1_174)]) (rest := [(.ref b179)]) (lenOf pd_6 rfl) rfl (Nat.le_of_ble_eq_true rfl) (hb hby at_117) rfl e179 (by decide) (by decide) fun T188 v188 L188 X188 hQ188 => ?_
      obtain ⟨rfl, Nq188, K188, E_a1_188, Fproblem_a1_188⟩ := hQ188
      have N188 := Fr.app N174 Nq188
      have hk189 := Nat.le_trans hk180 K188.1
      have sf_b162_189 := Safe.keep K188 (sfS sf_b179_180 sf0) H180 sf_b162_180
      have sf_b179_189 := Safe.keep K188 (sfS sf_b179_180 sf0) H180 sf_b179_180
      have Rr189 := Rr180.trans (CHr.keep K188 (sfS sf_b179_180 sf0) H180)
      have H189 := CHv.keep K188 (sfS sf_b179_180 sf0) H180
      have Ol_190 := Ol_181.keep K188 (allS ge_b179 all0)
      have V170_191 := V170_182.keep K188 (ninS ne_b162_b179 nin0)
      have E_x1_192 := E_x1_183.keep K188
      have Fvalue_x1_193 := Fvalue_x1_184.keep K188 (ninS ne_x1_174_b179 nin0)
      have Fcoder_x1_194 := Fcoder_x1_185.keep K188 (ninS ne_x1_174_b179 nin0)
      have V_t1_195 := V_t1_186.keep K188 (ninS ne_t1_174_b179 nin0)
      have A179_196 := A179.keep K188
      have Z_197 := Nat.le_trans Z_187 K188.1
      refine Owe.astore X188.here hx (hb hby at_120) rfl rfl (l' := #[.val (.long q1), .second, .val (.int p2), .val (.int p3), .val (.int p4), .val (.int p5), .val (.int (0 : Int32)), .val (.int (1 : Int32)), .val (.ref b162), .val (.ref x1_174), .val (.ref x1_174), .val (.ref b179)]) rfl ?_
      refine Owe.aload X188.here hx (hb hby at_122) rfl rfl ?_
      refine Owe.virt X188 hx hZ (y := (⟨"com/example/overrule/overrule/audit/Verification", "intact", "()Z"⟩ : MethodName)) (z := (⟨"com/example/overrule/overrule/audit/Verification", "intact", "()Z"⟩ : MethodName)) hown1 (mvT hZ (hw _ (List.mem_of_getElem? (i := 39) rfl))) (mvT hZ (hw _ (List.mem_of_getElem? (i := 40) rfl))) (mvT hZ (hw _ (List.mem_of_getElem? (i := 42) rfl))) (mvT hZ (hw _ (List.mem_of_getElem? (i := 41) rfl))) (notFace_of_selects (args := #[]) (mvT hZ (hw _ (List.mem_of_getElem? (i := 42) rfl)))) (by decide) (backOf (W := 0) (rmitr l Z a0 hw [] b179 x1_174 T188.heap n0 Z_197 Fproblem_a1_188) hZ (hw _ (List.mem_of_getElem? (i := 43) rfl)) (hw _ (List.mem_of_getElem? (i := 25) rfl)) (by decide) (by decide)) (by rw [hml]; rfl) (a := b179) (argsL := []) (rest := []) E_a1_188 (lenOf pd_7 rfl) rfl (Nat.le_of_ble_eq_true rfl) (hb hby at_124) rfl rfl (by decide) (by decide) fun T198 v198 L198 X198 hQ198 => ?_
      obtain ⟨rfl, Nq198, e198⟩ := hQ198
      have N198 := Fr.app N188 Nq198
      refine Owe.iload X198.here hx (hb hby at_127) rfl ?_
      refine Owe.icmpNo X198.here hx (hb hby at_129) rfl (teq (by decide)).2 ?_
      refine Owe.iconst X198.here hx (hb hby at_132) (w := (1 : Int32)) rfl ?_
      refine Owe.goto X198.here hx (hb hby at_133) (pc' := 137) (by decide) (by decide) ?_
      refine Owe.retNW X198 hx hS0 e198 hk189 hlk (t := .boolean) Bd.returns (by simp) (hb hby at_137) rfl fun fs hE => ?_
      rw [hG]
      refine ⟨_, _, rfl, ?_, ?_, coldMono hE (by decide) (by decide)⟩
      rotate_left
      · rw [hh]
        show CHr Z own_EL s.vm h0 T198.vm T198.heap
        rw [e198]
        exact Rr189.trans (CHv.at X198 hZ (own_ew hw) H189)
      show Q0 Z q1 p2 p3 p4 p5 G1 h0 n0 _ T198.heap _
      rw [e198]
      exact ⟨rfl, N198⟩
    · rw [hk]
      refine Owe.istore X0.here hx (hb hby at_20) rfl (l' := #[.val (.long q1), .second, .val (.int p2), .val (.int p3), .val (.int p4), .val (.int p5), .val (.int (0 : Int32)), .val (.int (2 : Int32)), .unset, .unset, .unset, .unset]) rfl ?_
      refine Owe.iconst X0.here hx (hb hby at_22) (w := (2 : Int32)) rfl ?_
      refine Owe.newarr X0 hx hZ (aty := .char) (hw _ (List.mem_of_getElem? (i := 1) rfl)) e0 (hb hby at_23) rfl (by decide) (cap := 2) (by decide) (by decide) (by decide) (by decide) fun T199 h199 b199 k199 g199 X199 e199 E199 V199 => ?_
      have sf_b199 := (Safe.new (Nat.le_of_eq g199.symm) : Safe Z own_EL s.vm h0 b199)
      have ge_b199 := Nat.le_trans Z0 (Nat.le_of_eq g199.symm)
      have hk200 := Nat.le_trans hk0 E199.1
      have sf_b199_200 := Safe.ext E199 H0 sf_b199
      have Rr200 := R0.trans (CHr.ext E199 H0)
      have H200 := CHv.ext E199 H0
      have Ol_201 := Ol.ext E199
      have Z_202 := Nat.le_trans Z0 E199.1
      have V_b199_199 : Arv Z h199 b199 k199 .char (2 : Int32) [(.int (0 : Int32)), (.int (0 : Int32))] (.int (0 : Int32)) := V199.pad (pad_rep [] (.int (0 : Int32)) 2)
      refine Owe.astore X199.here hx (hb hby at_25) rfl rfl (l' := #[.val (.long q1), .second, .val (.int p2), .val (.int p3), .val (.int p4), .val (.int p5), .val (.int (0 : Int32)), .val (.int (2 : Int32)), .val (.ref b199), .unset, .unset, .unset]) rfl ?_
      refine Owe.aload X199.here hx (hb hby at_27) rfl rfl ?_
      refine Owe.iconst X199.here hx (hb hby at_29) (w := (0 : Int32)) rfl ?_
      refine Owe.iloadN X199.here hx (hb hby at_30) rfl ?_
      refine Owe.sipush X199.here hx (hb hby at_31) (w := (255 : Int32)) rfl ?_
      refine Owe.iand X199.here hx (hb hby at_34) rfl ?_
      refine Owe.i2c X199.here hx (hb hby at_35) rfl ?_
      refine Owe.castore X199 hx hZ e199 V_b199_199 (x := ((p3 &&& (255 : Int32)).toUInt32.toUInt16.toUInt32.toInt32)) 0 rfl (Nat.le_of_ble_eq_true rfl) (by decide) (hb hby at_36) rfl fun T203 h203 X203 e203 W203 (V203 : Arv Z h203 b199 k199 .char (2 : Int32) [(.int (nar .char ((p3 &&& (255 : Int32)).toUInt32.toUInt16.toUInt32.toInt32))), (.int (0 : Int32))] (.int (0 : Int32))) => ?_
      have hk204 := Nat.le_trans hk200 (Keep.of_wr W203).1
      have sf_b199_204 := Safe.wr W203 sf_b199_200 H200 sf_b199_200
      have Rr204 := Rr200.trans (CHr.wr W203 sf_b199_200 H200)
      have H204 := CHv.wr W203 sf_b199_200 H200
      have Ol_205 := Ol_201.wr W203 ge_b199
      have Z_206 := Nat.le_trans Z_202 (Keep.of_wr W203).1
      have N203 := Fr.snoc X203 N0 ge_b199
      refine Owe.aload X203.here hx (hb hby at_37) rfl rfl ?_
      refine Owe.iconst X203.here hx (hb hby at_39) (w := (1 : Int32)) rfl ?_
      refine Owe.iload X203.here hx (hb hby at_40) rfl ?_
      refine Owe.sipush X203.here hx (hb hby at_42) (w := (255 : Int32)) rfl ?_
      refine Owe.iand X203.here hx (hb hby at_45) rfl ?_
      refine Owe.i2c X203.here hx (hb hby at_46) rfl ?_
      refine Owe.castore X203 hx hZ e203 V203 (x := ((p4 &&& (255 : Int32)).toUInt32.toUInt16.toUInt32.toInt32)) 1 rfl (Nat.le_of_ble_eq_true rfl) (by decide) (hb hby at_47) rfl fun T207 h207 X207 e207 W207 (V207 : Arv Z h207 b199 k199 .char (2 : Int32) [(.int (nar .char ((p3 &&& (255 : Int32)).toUInt32.toUInt16.toUInt32.toInt32))), (.int (nar .char ((p4 &&& (255 : Int32)).toUInt32.toUInt16.toUInt32.toInt32)))] (.int (0 : Int32))) => ?_
      have hk208 := Nat.le_trans hk204 (Keep.of_wr W207).1
      have sf_b199_208 := Safe.wr W207 sf_b199_204 H204 sf_b199_204
      have Rr208 := Rr204.trans (CHr.wr W207 sf_b199_204 H204)
      have H208 := CHv.wr W207 sf_b199_204 H204
      have Ol_209 := Ol_205.wr W207 ge_b199
      have Z_210 := Nat.le_trans Z_206 (Keep.of_wr W207).1
      have N207 := Fr.snoc X207 N203 ge_b199
      refine Owe.iload X207.here hx (hb hby at_48) rfl ?_
      refine Owe.ifYes X207.here hx (hb hby at_50) rfl ((if0 _ _).trans (feq (by decide)).2) (pc' := 68) (by decide) (by decide) ?_
      refine Owe.iload X207.here hx (hb hby at_68) rfl ?_
      refine Owe.iconst X207.here hx (hb hby at_70) (w := (1 : Int32)) rfl ?_
      refine Owe.icmpYes X207.here hx (hb hby at_71) rfl (feq (by decide)).2 (pc' := 86) (by decide) (by decide) ?_
      refine Owe.new X207 hx hZ hown1 (hw _ (List.mem_of_getElem? (i := 2) rfl)) (hw _ (List.mem_of_getElem? (i := 3) rfl)) (hw _ (List.mem_of_getElem? (i := 4) rfl)) e207 (hb hby at_86) (by decide) (by decide) fun T211 h211 b211 g211 X211 e211 E211 A211 D211 => ?_
      have ne_b199_b211 : b199 ≠ b211 := Nat.ne_of_lt (Nat.lt_of_lt_of_le V207.lt (Nat.le_of_eq g211.symm))
      have sf_b211 := (Safe.new (Nat.le_of_eq g211.symm) : Safe Z own_EL s.vm h207 b211)
      have ge_b211 := Nat.le_trans Z_210 (Nat.le_of_eq g211.symm)
      have hk212 := Nat.le_trans hk208 E211.1
      have sf_b199_212 := Safe.ext E211 H208 sf_b199_208
      have sf_b211_212 := Safe.ext E211 H208 sf_b211
      have Rr212 := Rr208.trans (CHr.ext E211 H208)
      have H212 := CHv.ext E211 H208
      have Ol_213 := Ol_209.ext E211
      have V207_214 := V207.ext E211
      have Z_215 := Nat.le_trans Z_210 E211.1
      have Fvalue_b211 : Fld Z h211 b211 "java/lang/String" "value" "[B" .null := D211 (Or.inr (hw _ (List.mem_of_getElem? (i := 17) rfl))) (ty := (.array .byte)) (by decide)
      have Fcoder_b211 : Fld Z h211 b211 "java/lang/String" "coder" "B" (.int (0 : Int32)) := D211 (Or.inr (hw _ (List.mem_of_getElem? (i := 18) rfl))) (ty := .byte) (by decide)
      refine Owe.dup X211.here hx (hb hby at_89) rfl rfl ?_
      refine Owe.aload X211.here hx (hb hby at_90) rfl rfl ?_
      have hp216 : ∀ c ∈ ([(nar .char ((p3 &&& (255 : Int32)).toUInt32.toUInt16.toUInt32.toInt32)), (nar .char ((p4 &&& (255 : Int32)).toUInt32.toUInt16.toUInt32.toInt32))] : List Int32), ¬ c < 0 ∧ ¬ (255 : Int32) < c := by
        intro c hc
        simp only [List.mem_cons, List.not_mem_nil, or_false] at hc
        rcases hc with rfl | rfl
        · exact and255_chars _
        · exact and255_chars _
      refine Owe.special X211 hx (y := (⟨"java/lang/String", "<init>", "([C)V"⟩ : MethodName)) rfl hown1 (mvT hZ (hw _ (List.mem_of_getElem? (i := 5) rfl))) (mvT hZ (hw _ (List.mem_of_getElem? (i := 6) rfl))) (mvT hZ (hw _ (List.mem_of_getElem? (i := 7) rfl))) (by decide) (StrChars.Road.backV (W := 1) hZ hws (kI := 4) (hw _ (List.mem_of_getElem? (i := 3) rfl)) (cs := ([(nar .char ((p3 &&& (255 : Int32)).toUInt32.toUInt16.toUInt32.toInt32)), (nar .char ((p4 &&& (255 : Int32)).toUInt32.toUInt16.toUInt32.toInt32))] : List Int32)) (bs := ([(nar .char ((p3 &&& (255 : Int32)).toUInt32.toUInt16.toUInt32.toInt32)), (nar .char ((p4 &&& (255 : Int32)).toUInt32.toUInt16.toUInt32.toInt32))] : List Int32).map (fun c => c.toInt8.toInt32)) (n := 2) ge_b211 Z_215 A211 Fvalue_b211 Fcoder_b211 V207_214 (S_COMPACT_STRINGS.ext Ol_213.2) cs0 rfl rfl (by decide) (by decide) hp216 rfl (by decide) (by decide)) (by rw [hml]; rfl) (a := b211) (argsL := [(.ref b199)]) (rest := [(.ref b211)]) (lenOf pd_5 rfl) rfl (Nat.le_of_ble_eq_true rfl) (hb hby at_92) rfl e211 (by decide) (by decide) fun T217 v217 L217 X217 hQ217 => ?_
      obtain ⟨rfl, Nq217, K217, Ex217, Fc217, t217, kb217, gt217, ft217, nt217, Fv217, Vt217⟩ := hQ217
      have N217 := Fr.app N207 Nq217
      have ne_b199_t217 : b199 ≠ t217 := Nat.ne_of_lt (Nat.lt_of_lt_of_le V207_214.lt ft217)
      have ne_b211_t217 : b211 ≠ t217 := Nat.ne_of_lt (Nat.lt_of_lt_of_le A211.lt ft217)
      have hk218 := Nat.le_trans hk212 K217.1
      have sf_b199_218 := Safe.keep K217 (sfS sf_b211_212 sf0) H212 sf_b199_212
      have sf_b211_218 := Safe.keep K217 (sfS sf_b211_212 sf0) H212 sf_b211_212
      have Rr218 := Rr212.trans (CHr.keep K217 (sfS sf_b211_212 sf0) H212)
      have H218 := CHv.keep K217 (sfS sf_b211_212 sf0) H212
      have Ol_219 := Ol_213.keep K217 (allS ge_b211 all0)
      have V207_220 := V207_214.keep K217 (ninS ne_b199_b211 nin0)
      have A211_221 := A211.keep K217
      have Z_222 := Nat.le_trans Z_215 K217.1
      refine Owe.astore X217.here hx (hb hby at_95) rfl rfl (l' := #[.val (.long q1), .second, .val (.int p2), .val (.int p3), .val (.int p4), .val (.int p5), .val (.int (0 : Int32)), .val (.int (2 : Int32)), .val (.ref b199), .val (.ref b211), .unset, .unset]) rfl ?_
      refine Owe.iload X217.here hx (hb hby at_97) rfl ?_
      refine Owe.ifYes X217.here hx (hb hby at_99) rfl ((if0 _ _).trans (teq (by decide)).1) (pc' := 106) (by decide) (by decide) ?_
      refine Owe.aload X217.here hx (hb hby at_106) rfl rfl ?_
      refine Owe.astore X217.here hx (hb hby at_108) rfl rfl (l' := #[.val (.long q1), .second, .val (.int p2), .val (.int p3), .val (.int p4), .val (.int p5), .val (.int (0 : Int32)), .val (.int (2 : Int32)), .val (.ref b199), .val (.ref b211), .val (.ref b211), .unset]) rfl ?_
      refine Owe.new X217 hx hZ hown1 (hw _ (List.mem_of_getElem? (i := 23) rfl)) (hw _ (List.mem_of_getElem? (i := 24) rfl)) (hw _ (List.mem_of_getElem? (i := 25) rfl)) rfl (hb hby at_110) (by decide) (by decide) fun T223 h223 b223 g223 X223 e223 E223 A223 D223 => ?_
      have ne_b199_b223 : b199 ≠ b223 := Nat.ne_of_lt (Nat.lt_of_lt_of_le V207_220.lt (Nat.le_of_eq g223.symm))
      have ne_b211_b223 : b211 ≠ b223 := Nat.ne_of_lt (Nat.lt_of_lt_of_le Ex217.lt (Nat.le_of_eq g223.symm))
      have ne_t217_b223 : t217 ≠ b223 := Nat.ne_of_lt (Nat.lt_of_lt_of_le Vt217.lt (Nat.le_of_eq g223.symm))
      have sf_b223 := (Safe.new (Nat.le_of_eq g223.symm) : Safe Z own_EL s.vm T217.heap b223)
      have ge_b223 := Nat.le_trans Z_222 (Nat.le_of_eq g223.symm)
      have hk224 := Nat.le_trans hk218 E223.1
      have sf_b199_224 := Safe.ext E223 H218 sf_b199_218
      have sf_b211_224 := Safe.ext E223 H218 sf_b211_218
      have sf_b223_224 := Safe.ext E223 H218 sf_b223
      have Rr224 := Rr218.trans (CHr.ext E223 H218)
      have H224 := CHv.ext E223 H218
      have Ol_225 := Ol_219.ext E223
      have V207_226 := V207_220.ext E223
      have Ex217_227 := Ex217.ext E223
      have Fc217_228 := Fc217.ext E223
      have Fv217_229 := Fv217.ext E223
      have Vt217_230 := Vt217.ext E223
      have Z_231 := Nat.le_trans Z_222 E223.1
      have Frecords_b223 : Fld Z h223 b223 "com/example/overrule/overrule/audit/Verification" "records" "J" (.long (0 : Int64)) := D223 (Or.inr (hw _ (List.mem_of_getElem? (i := 36) rfl))) (ty := .long) (by decide)
      have Fproblem_b223 : Fld Z h223 b223 "com/example/overrule/overrule/audit/Verification" "problem" "Ljava/lang/String;" .null := D223 (Or.inr (hw _ (List.mem_of_getElem? (i := 38) rfl))) (ty := (.object "java/lang/String")) (by decide)
      refine Owe.dup X223.here hx (hb hby at_113) rfl rfl ?_
      refine Owe.lloadN X223.here hx (hb hby at_114) rfl ?_
      refine Owe.aload X223.here hx (hb hby at_115) rfl rfl ?_
      refine Owe.special X223 hx (y := (⟨"com/example/overrule/overrule/audit/Verification", "<init>", "(JLjava/lang/String;)V"⟩ : MethodName)) rfl hown1 (mvT hZ (hw _ (List.mem_of_getElem? (i := 26) rfl))) (mvT hZ (hw _ (List.mem_of_getElem? (i := 27) rfl))) (mvT hZ (hw _ (List.mem_of_getElem? (i := 28) rfl))) (by decide) (backOf (W := 1) (rminr l Z a0 hw [] b223 q1 b211 (.long (0 : Int64)) .null h223 n0 Z_231 A223 Frecords_b223 Fproblem_b223 ge_b223) hZ (hw _ (List.mem_of_getElem? (i := 28) rfl)) (hw _ (List.mem_of_getElem? (i := 25) rfl)) (by decide) (by decide)) (by rw [hml]; rfl) (a := b223) (argsL := [(.long q1), (.ref b211)]) (rest := [(.ref b223)]) (lenOf pd_6 rfl) rfl (Nat.le_of_ble_eq_true rfl) (hb hby at_117) rfl e223 (by decide) (by decide) fun T232 v232 L232 X232 hQ232 => ?_
      obtain ⟨rfl, Nq232, K232, E_a1_232, Fproblem_a1_232⟩ := hQ232
      have N232 := Fr.app N217 Nq232
      have hk233 := Nat.le_trans hk224 K232.1
      have sf_b199_233 := Safe.keep K232 (sfS sf_b223_224 sf0) H224 sf_b199_224
      have sf_b211_233 := Safe.keep K232 (sfS sf_b223_224 sf0) H224 sf_b211_224
      have sf_b223_233 := Safe.keep K232 (sfS sf_b223_224 sf0) H224 sf_b223_224
      have Rr233 := Rr224.trans (CHr.keep K232 (sfS sf_b223_224 sf0) H224)
      have H233 := CHv.keep K232 (sfS sf_b223_224 sf0) H224
      have Ol_234 := Ol_225.keep K232 (allS ge_b223 all0)
      have V207_235 := V207_226.keep K232 (ninS ne_b199_b223 nin0)
      have Ex217_236 := Ex217_227.keep K232
      have Fc217_237 := Fc217_228.keep K232 (ninS ne_b211_b223 nin0)
      have Fv217_238 := Fv217_229.keep K232 (ninS ne_b211_b223 nin0)
      have Vt217_239 := Vt217_230.keep K232 (ninS ne_t217_b223 nin0)
      have A223_240 := A223.keep K232
      have Z_241 := Nat.le_trans Z_231 K232.1
      refine Owe.astore X232.here hx (hb hby at_120) rfl rfl (l' := #[.val (.long q1), .second, .val (.int p2), .val (.int p3), .val (.int p4), .val (.int p5), .val (.int (0 : Int32)), .val (.int (2 : Int32)), .val (.ref b199), .val (.ref b211), .val (.ref b211), .val (.ref b223)]) rfl ?_
      refine Owe.aload X232.here hx (hb hby at_122) rfl rfl ?_
      refine Owe.virt X232 hx hZ (y := (⟨"com/example/overrule/overrule/audit/Verification", "intact", "()Z"⟩ : MethodName)) (z := (⟨"com/example/overrule/overrule/audit/Verification", "intact", "()Z"⟩ : MethodName)) hown1 (mvT hZ (hw _ (List.mem_of_getElem? (i := 39) rfl))) (mvT hZ (hw _ (List.mem_of_getElem? (i := 40) rfl))) (mvT hZ (hw _ (List.mem_of_getElem? (i := 42) rfl))) (mvT hZ (hw _ (List.mem_of_getElem? (i := 41) rfl))) (notFace_of_selects (args := #[]) (mvT hZ (hw _ (List.mem_of_getElem? (i := 42) rfl)))) (by decide) (backOf (W := 0) (rmitr l Z a0 hw [] b223 b211 T232.heap n0 Z_241 Fproblem_a1_232) hZ (hw _ (List.mem_of_getElem? (i := 43) rfl)) (hw _ (List.mem_of_getElem? (i := 25) rfl)) (by decide) (by decide)) (by rw [hml]; rfl) (a := b223) (argsL := []) (rest := []) E_a1_232 (lenOf pd_7 rfl) rfl (Nat.le_of_ble_eq_true rfl) (hb hby at_124) rfl rfl (by decide) (by decide) fun T242 v242 L242 X242 hQ242 => ?_
      obtain ⟨rfl, Nq242, e242⟩ := hQ242
      have N242 := Fr.app N232 Nq242
      refine Owe.iload X242.here hx (hb hby at_127) rfl ?_
      refine Owe.icmpNo X242.here hx (hb hby at_129) rfl (teq (by decide)).2 ?_
      refine Owe.iconst X242.here hx (hb hby at_132) (w := (1 : Int32)) rfl ?_
      refine Owe.goto X242.here hx (hb hby at_133) (pc' := 137) (by decide) (by decide) ?_
      refine Owe.retNW X242 hx hS0 e242 hk233 hlk (t := .boolean) Bd.returns (by simp) (hb hby at_137) rfl fun fs hE => ?_
      rw [hG]
      refine ⟨_, _, rfl, ?_, ?_, coldMono hE (by decide) (by decide)⟩
      rotate_left
      · rw [hh]
        show CHr Z own_EL s.vm h0 T242.vm T242.heap
        rw [e242]
        exact Rr233.trans (CHv.at X242 hZ (own_ew hw) H233)
      show Q0 Z q1 p2 p3 p4 p5 G1 h0 n0 _ T242.heap _
      rw [e242]
      exact ⟨rfl, N242⟩
  · skip
    refine Owe.ifNo X0.here hx (hb hby at_3) rfl ((if0 _ _).trans (feq hc3_107).1) ?_
    refine Owe.iconst X0.here hx (hb hby at_6) (w := (1 : Int32)) rfl ?_
    refine Owe.goto X0.here hx (hb hby at_7) (pc' := 11) (by decide) (by decide) ?_
    refine Owe.istore X0.here hx (hb hby at_11) rfl (l' := #[.val (.long q1), .second, .val (.int p2), .val (.int p3), .val (.int p4), .val (.int p5), .val (.int (1 : Int32)), .unset, .unset, .unset, .unset, .unset]) rfl ?_
    refine Owe.iload X0.here hx (hb hby at_13) rfl ?_
    refine Owe.ldcI X0 hx (v := (2147483647 : Int32)) hown1 (mvT hZ (hw _ (List.mem_of_getElem? (i := 0) rfl))) (hb hby at_15) ?_
    refine Owe.iand X0.here hx (hb hby at_17) rfl ?_
    refine Owe.iconst X0.here hx (hb hby at_18) (w := (3 : Int32)) rfl ?_
    refine Owe.irem X0.here hx (hb hby at_19) rfl (by decide) ?_
    rcases own_rem3 p5 with hk | hk | hk
    · rw [hk]
      refine Owe.istore X0.here hx (hb hby at_20) rfl (l' := #[.val (.long q1), .second, .val (.int p2), .val (.int p3), .val (.int p4), .val (.int p5), .val (.int (1 : Int32)), .val (.int (0 : Int32)), .unset, .unset, .unset, .unset]) rfl ?_
      refine Owe.iconst X0.here hx (hb hby at_22) (w := (2 : Int32)) rfl ?_
      refine Owe.newarr X0 hx hZ (aty := .char) (hw _ (List.mem_of_getElem? (i := 1) rfl)) e0 (hb hby at_23) rfl (by decide) (cap := 2) (by decide) (by decide) (by decide) (by decide) fun T243 h243 b243 k243 g243 X243 e243 E243 V243 => ?_
      have sf_b243 := (Safe.new (Nat.le_of_eq g243.symm) : Safe Z own_EL s.vm h0 b243)
      have ge_b243 := Nat.le_trans Z0 (Nat.le_of_eq g243.symm)
      have hk244 := Nat.le_trans hk0 E243.1
      have sf_b243_244 := Safe.ext E243 H0 sf_b243
      have Rr244 := R0.trans (CHr.ext E243 H0)
      have H244 := CHv.ext E243 H0
      have Ol_245 := Ol.ext E243
      have Z_246 := Nat.le_trans Z0 E243.1
      have V_b243_243 : Arv Z h243 b243 k243 .char (2 : Int32) [(.int (0 : Int32)), (.int (0 : Int32))] (.int (0 : Int32)) := V243.pad (pad_rep [] (.int (0 : Int32)) 2)
      refine Owe.astore X243.here hx (hb hby at_25) rfl rfl (l' := #[.val (.long q1), .second, .val (.int p2), .val (.int p3), .val (.int p4), .val (.int p5), .val (.int (1 : Int32)), .val (.int (0 : Int32)), .val (.ref b243), .unset, .unset, .unset]) rfl ?_
      refine Owe.aload X243.here hx (hb hby at_27) rfl rfl ?_
      refine Owe.iconst X243.here hx (hb hby at_29) (w := (0 : Int32)) rfl ?_
      refine Owe.iloadN X243.here hx (hb hby at_30) rfl ?_
      refine Owe.sipush X243.here hx (hb hby at_31) (w := (255 : Int32)) rfl ?_
      refine Owe.iand X243.here hx (hb hby at_34) rfl ?_
      refine Owe.i2c X243.here hx (hb hby at_35) rfl ?_
      refine Owe.castore X243 hx hZ e243 V_b243_243 (x := ((p3 &&& (255 : Int32)).toUInt32.toUInt16.toUInt32.toInt32)) 0 rfl (Nat.le_of_ble_eq_true rfl) (by decide) (hb hby at_36) rfl fun T247 h247 X247 e247 W247 (V247 : Arv Z h247 b243 k243 .char (2 : Int32) [(.int (nar .char ((p3 &&& (255 : Int32)).toUInt32.toUInt16.toUInt32.toInt32))), (.int (0 : Int32))] (.int (0 : Int32))) => ?_
      have hk248 := Nat.le_trans hk244 (Keep.of_wr W247).1
      have sf_b243_248 := Safe.wr W247 sf_b243_244 H244 sf_b243_244
      have Rr248 := Rr244.trans (CHr.wr W247 sf_b243_244 H244)
      have H248 := CHv.wr W247 sf_b243_244 H244
      have Ol_249 := Ol_245.wr W247 ge_b243
      have Z_250 := Nat.le_trans Z_246 (Keep.of_wr W247).1
      have N247 := Fr.snoc X247 N0 ge_b243
      refine Owe.aload X247.here hx (hb hby at_37) rfl rfl ?_
      refine Owe.iconst X247.here hx (hb hby at_39) (w := (1 : Int32)) rfl ?_
      refine Owe.iload X247.here hx (hb hby at_40) rfl ?_
      refine Owe.sipush X247.here hx (hb hby at_42) (w := (255 : Int32)) rfl ?_
      refine Owe.iand X247.here hx (hb hby at_45) rfl ?_
      refine Owe.i2c X247.here hx (hb hby at_46) rfl ?_
      refine Owe.castore X247 hx hZ e247 V247 (x := ((p4 &&& (255 : Int32)).toUInt32.toUInt16.toUInt32.toInt32)) 1 rfl (Nat.le_of_ble_eq_true rfl) (by decide) (hb hby at_47) rfl fun T251 h251 X251 e251 W251 (V251 : Arv Z h251 b243 k243 .char (2 : Int32) [(.int (nar .char ((p3 &&& (255 : Int32)).toUInt32.toUInt16.toUInt32.toInt32))), (.int (nar .char ((p4 &&& (255 : Int32)).toUInt32.toUInt16.toUInt32.toInt32)))] (.int (0 : Int32))) => ?_
      have hk252 := Nat.le_trans hk248 (Keep.of_wr W251).1
      have sf_b243_252 := Safe.wr W251 sf_b243_248 H248 sf_b243_248
      have Rr252 := Rr248.trans (CHr.wr W251 sf_b243_248 H248)
      have H252 := CHv.wr W251 sf_b243_248 H248
      have Ol_253 := Ol_249.wr W251 ge_b243
      have Z_254 := Nat.le_trans Z_250 (Keep.of_wr W251).1
      have N251 := Fr.snoc X251 N247 ge_b243
      refine Owe.iload X251.here hx (hb hby at_48) rfl ?_
      refine Owe.ifNo X251.here hx (hb hby at_50) rfl ((if0 _ _).trans (teq (by decide)).2) ?_
      refine Owe.new X251 hx hZ hown1 (hw _ (List.mem_of_getElem? (i := 2) rfl)) (hw _ (List.mem_of_getElem? (i := 3) rfl)) (hw _ (List.mem_of_getElem? (i := 4) rfl)) e251 (hb hby at_53) (by decide) (by decide) fun T255 h255 b255 g255 X255 e255 E255 A255 D255 => ?_
      have ne_b243_b255 : b243 ≠ b255 := Nat.ne_of_lt (Nat.lt_of_lt_of_le V251.lt (Nat.le_of_eq g255.symm))
      have sf_b255 := (Safe.new (Nat.le_of_eq g255.symm) : Safe Z own_EL s.vm h251 b255)
      have ge_b255 := Nat.le_trans Z_254 (Nat.le_of_eq g255.symm)
      have hk256 := Nat.le_trans hk252 E255.1
      have sf_b243_256 := Safe.ext E255 H252 sf_b243_252
      have sf_b255_256 := Safe.ext E255 H252 sf_b255
      have Rr256 := Rr252.trans (CHr.ext E255 H252)
      have H256 := CHv.ext E255 H252
      have Ol_257 := Ol_253.ext E255
      have V251_258 := V251.ext E255
      have Z_259 := Nat.le_trans Z_254 E255.1
      have Fvalue_b255 : Fld Z h255 b255 "java/lang/String" "value" "[B" .null := D255 (Or.inr (hw _ (List.mem_of_getElem? (i := 17) rfl))) (ty := (.array .byte)) (by decide)
      have Fcoder_b255 : Fld Z h255 b255 "java/lang/String" "coder" "B" (.int (0 : Int32)) := D255 (Or.inr (hw _ (List.mem_of_getElem? (i := 18) rfl))) (ty := .byte) (by decide)
      refine Owe.dup X255.here hx (hb hby at_56) rfl rfl ?_
      refine Owe.iconst X255.here hx (hb hby at_57) (w := (0 : Int32)) rfl ?_
      refine Owe.newarr X255 hx hZ (aty := .char) (hw _ (List.mem_of_getElem? (i := 1) rfl)) e255 (hb hby at_58) rfl (by decide) (cap := 0) (by decide) (by decide) (by decide) (by decide) fun T260 h260 b260 k260 g260 X260 e260 E260 V260 => ?_
      have ne_b243_b260 : b243 ≠ b260 := Nat.ne_of_lt (Nat.lt_of_lt_of_le V251_258.lt (Nat.le_of_eq g260.symm))
      have ne_b255_b260 : b255 ≠ b260 := Nat.ne_of_lt (Nat.lt_of_lt_of_le A255.lt (Nat.le_of_eq g260.symm))
      have sf_b260 := (Safe.new (Nat.le_of_eq g260.symm) : Safe Z own_EL s.vm h255 b260)
      have ge_b260 := Nat.le_trans Z_259 (Nat.le_of_eq g260.symm)
      have hk261 := Nat.le_trans hk256 E260.1
      have sf_b243_261 := Safe.ext E260 H256 sf_b243_256
      have sf_b255_261 := Safe.ext E260 H256 sf_b255_256
      have sf_b260_261 := Safe.ext E260 H256 sf_b260
      have Rr261 := Rr256.trans (CHr.ext E260 H256)
      have H261 := CHv.ext E260 H256
      have Ol_262 := Ol_257.ext E260
      have V251_263 := V251_258.ext E260
      have A255_264 := A255.ext E260
      have Fvalue_b255_265 := Fvalue_b255.ext E260
      have Fcoder_b255_266 := Fcoder_b255.ext E260
      have Z_267 := Nat.le_trans Z_259 E260.1
      have V_b260_260 : Arv Z h260 b260 k260 .char (0 : Int32) [] (.int (0 : Int32)) := V260
      refine Owe.specialS X260 hx hZ hS0 hk261 (y := (⟨"java/lang/String", "<init>", "([C)V"⟩ : MethodName)) rfl hown1 (mvT hZ (hw _ (List.mem_of_getElem? (i := 5) rfl))) (mvT hZ (hw _ (List.mem_of_getElem? (i := 6) rfl))) (mvT hZ (hw _ (List.mem_of_getElem? (i := 7) rfl))) (by decide) (backOfSH (W := 1) (rmse1 l Z a0 hw [] b255 b260 k260 h260 n0 Z_267 A255_264 Fvalue_b255_265 Fcoder_b255_266 ge_b255 V_b260_260 (Ne.symm ne_b255_b260)) hZ (hw _ (List.mem_of_getElem? (i := 7) rfl)) (hw _ (List.mem_of_getElem? (i := 4) rfl)) (by decide) (by decide) (own_ew hw) H261) (by rw [hml]; rfl) (a := b255) (argsL := [(.ref b260)]) (rest := [(.ref b255)]) (lenOf pd_5 rfl) rfl (Nat.le_of_ble_eq_true rfl) (hb hby at_60) rfl e260 (by decide) (by decide) fun T268 v268 L268 X268 hS268 hZ268 hown268 hC268 hQ268 => ?_
      obtain ⟨b1_268, kb1_268, rfl, Nq268, K268, E_a1_268, Fvalue_a1_268, Fcoder_a1_268, V_b1_268⟩ := hQ268
      have N268 := Fr.app N251 Nq268
      have hk269 := Nat.le_trans hk261 K268.1
      have Ol_270 := Ol_262.keep K268 (allS ge_b255 all0)
      have V251_271 := V251_263.keep K268 (ninS ne_b243_b255 nin0)
      have A255_272 := A255_264.keep K268
      have V_b260_273 := V_b260_260.keep K268 (ninS (Ne.symm ne_b255_b260) nin0)
      have Z_274 := Nat.le_trans Z_267 K268.1
      have sf_b243_268 := CHr.safe hC268 V251_263.lt sf_b243_261
      have sf_b255_268 := CHr.safe hC268 A255_264.lt sf_b255_261
      have sf_b260_268 := CHr.safe hC268 V_b260_260.lt sf_b260_261
      have Rr268 := Rr261.trans hC268
      have H268 := hC268.1
      have hk268 : T268.heap.size ≤ T268.heap.size := Nat.le_refl _
      refine Owe.astore X268.here hx (hb hby at_63) rfl rfl (l' := #[.val (.long q1), .second, .val (.int p2), .val (.int p3), .val (.int p4), .val (.int p5), .val (.int (1 : Int32)), .val (.int (0 : Int32)), .val (.ref b243), .val (.ref b255), .unset, .unset]) rfl ?_
      refine Owe.goto X268.here hx (hb hby at_65) (pc' := 97) (by decide) (by decide) ?_
      refine Owe.iload X268.here hx (hb hby at_97) rfl ?_
      refine Owe.ifNo X268.here hx (hb hby at_99) rfl ((if0 _ _).trans (feq (by decide)).1) ?_
      refine Owe.aconstNull X268.here hx (hb hby at_102)  ?_
      refine Owe.goto X268.here hx (hb hby at_103) (pc' := 108) (by decide) (by decide) ?_
      refine Owe.astore X268.here hx (hb hby at_108) rfl rfl (l' := #[.val (.long q1), .second, .val (.int p2), .val (.int p3), .val (.int p4), .val (.int p5), .val (.int (1 : Int32)), .val (.int (0 : Int32)), .val (.ref b243), .val (.ref b255), .val .null, .unset]) rfl ?_
      refine Owe.new X268 hx hZ268 hown268 (hw _ (List.mem_of_getElem? (i := 23) rfl)) (hw _ (List.mem_of_getElem? (i := 24) rfl)) (hw _ (List.mem_of_getElem? (i := 25) rfl)) rfl (hb hby at_110) (by decide) (by decide) fun T275 h275 b275 g275 X275 e275 E275 A275 D275 => ?_
      have ne_b243_b275 : b243 ≠ b275 := Nat.ne_of_lt (Nat.lt_of_lt_of_le V251_271.lt (Nat.le_of_eq g275.symm))
      have ne_b255_b275 : b255 ≠ b275 := Nat.ne_of_lt (Nat.lt_of_lt_of_le E_a1_268.lt (Nat.le_of_eq g275.symm))
      have ne_b260_b275 : b260 ≠ b275 := Nat.ne_of_lt (Nat.lt_of_lt_of_le V_b260_273.lt (Nat.le_of_eq g275.symm))
      have ne_b1_268_b275 : b1_268 ≠ b275 := Nat.ne_of_lt (Nat.lt_of_lt_of_le V_b1_268.lt (Nat.le_of_eq g275.symm))
      have sf_b275 := (Safe.new (Nat.le_of_eq g275.symm) : Safe Z own_EL T268.vm T268.heap b275)
      have ge_b275 := Nat.le_trans Z_274 (Nat.le_of_eq g275.symm)
      have hk276 := Nat.le_trans hk268 E275.1
      have sf_b243_276 := Safe.ext E275 H268 sf_b243_268
      have sf_b255_276 := Safe.ext E275 H268 sf_b255_268
      have sf_b260_276 := Safe.ext E275 H268 sf_b260_268
      have sf_b275_276 := Safe.ext E275 H268 sf_b275
      have Rr276 := Rr268.trans (CHr.ext E275 H268)
      have H276 := CHv.ext E275 H268
      have Ol_277 := Ol_270.ext E275
      have V251_278 := V251_271.ext E275
      have E_a1_279 := E_a1_268.ext E275
      have V_b260_280 := V_b260_273.ext E275
      have Fvalue_a1_281 := Fvalue_a1_268.ext E275
      have Fcoder_a1_282 := Fcoder_a1_268.ext E275
      have V_b1_283 := V_b1_268.ext E275
      have Z_284 := Nat.le_trans Z_274 E275.1
      have Frecords_b275 : Fld Z h275 b275 "com/example/overrule/overrule/audit/Verification" "records" "J" (.long (0 : Int64)) := D275 (Or.inr (hw _ (List.mem_of_getElem? (i := 36) rfl))) (ty := .long) (by decide)
      have Fproblem_b275 : Fld Z h275 b275 "com/example/overrule/overrule/audit/Verification" "problem" "Ljava/lang/String;" .null := D275 (Or.inr (hw _ (List.mem_of_getElem? (i := 38) rfl))) (ty := (.object "java/lang/String")) (by decide)
      refine Owe.dup X275.here hx (hb hby at_113) rfl rfl ?_
      refine Owe.lloadN X275.here hx (hb hby at_114) rfl ?_
      refine Owe.aload X275.here hx (hb hby at_115) rfl rfl ?_
      refine Owe.special X275 hx (y := (⟨"com/example/overrule/overrule/audit/Verification", "<init>", "(JLjava/lang/String;)V"⟩ : MethodName)) rfl hown268 (mvT hZ268 (hw _ (List.mem_of_getElem? (i := 26) rfl))) (mvT hZ268 (hw _ (List.mem_of_getElem? (i := 27) rfl))) (mvT hZ268 (hw _ (List.mem_of_getElem? (i := 28) rfl))) (by decide) (backOf (W := 1) (rminn l Z a0 hw [] b275 q1 (.long (0 : Int64)) .null h275 n0 Z_284 A275 Frecords_b275 Fproblem_b275 ge_b275) hZ268 (hw _ (List.mem_of_getElem? (i := 28) rfl)) (hw _ (List.mem_of_getElem? (i := 25) rfl)) (by decide) (by decide)) (by rw [hml]; rfl) (a := b275) (argsL := [(.long q1), .null]) (rest := [(.ref b275)]) (lenOf pd_6 rfl) rfl (Nat.le_of_ble_eq_true rfl) (hb hby at_117) rfl e275 (by decide) (by decide) fun T285 v285 L285 X285 hQ285 => ?_
      obtain ⟨rfl, Nq285, K285, E_a1_285, Fproblem_a1_285⟩ := hQ285
      have N285 := Fr.app N268 Nq285
      have hk286 := Nat.le_trans hk276 K285.1
      have sf_b243_286 := Safe.keep K285 (sfS sf_b275_276 sf0) H276 sf_b243_276
      have sf_b255_286 := Safe.keep K285 (sfS sf_b275_276 sf0) H276 sf_b255_276
      have sf_b260_286 := Safe.keep K285 (sfS sf_b275_276 sf0) H276 sf_b260_276
      have sf_b275_286 := Safe.keep K285 (sfS sf_b275_276 sf0) H276 sf_b275_276
      have Rr286 := Rr276.trans (CHr.keep K285 (sfS sf_b275_276 sf0) H276)
      have H286 := CHv.keep K285 (sfS sf_b275_276 sf0) H276
      have Ol_287 := Ol_277.keep K285 (allS ge_b275 all0)
      have V251_288 := V251_278.keep K285 (ninS ne_b243_b275 nin0)
      have E_a1_289 := E_a1_279.keep K285
      have V_b260_290 := V_b260_280.keep K285 (ninS ne_b260_b275 nin0)
      have Fvalue_a1_291 := Fvalue_a1_281.keep K285 (ninS ne_b255_b275 nin0)
      have Fcoder_a1_292 := Fcoder_a1_282.keep K285 (ninS ne_b255_b275 nin0)
      have V_b1_293 := V_b1_283.keep K285 (ninS ne_b1_268_b275 nin0)
      have A275_294 := A275.keep K285
      have Z_295 := Nat.le_trans Z_284 K285.1
      refine Owe.astore X285.here hx (hb hby at_120) rfl rfl (l' := #[.val (.long q1), .second, .val (.int p2), .val (.int p3), .val (.int p4), .val (.int p5), .val (.int (1 : Int32)), .val (.int (0 : Int32)), .val (.ref b243), .val (.ref b255), .val .null, .val (.ref b275)]) rfl ?_
      refine Owe.aload X285.here hx (hb hby at_122) rfl rfl ?_
      refine Owe.virt X285 hx hZ268 (y := (⟨"com/example/overrule/overrule/audit/Verification", "intact", "()Z"⟩ : MethodName)) (z := (⟨"com/example/overrule/overrule/audit/Verification", "intact", "()Z"⟩ : MethodName)) hown268 (mvT hZ268 (hw _ (List.mem_of_getElem? (i := 39) rfl))) (mvT hZ268 (hw _ (List.mem_of_getElem? (i := 40) rfl))) (mvT hZ268 (hw _ (List.mem_of_getElem? (i := 42) rfl))) (mvT hZ268 (hw _ (List.mem_of_getElem? (i := 41) rfl))) (notFace_of_selects (args := #[]) (mvT hZ268 (hw _ (List.mem_of_getElem? (i := 42) rfl)))) (by decide) (backOf (W := 0) (rmitn l Z a0 hw [] b275 T285.heap n0 Z_295 Fproblem_a1_285) hZ268 (hw _ (List.mem_of_getElem? (i := 43) rfl)) (hw _ (List.mem_of_getElem? (i := 25) rfl)) (by decide) (by decide)) (by rw [hml]; rfl) (a := b275) (argsL := []) (rest := []) E_a1_285 (lenOf pd_7 rfl) rfl (Nat.le_of_ble_eq_true rfl) (hb hby at_124) rfl rfl (by decide) (by decide) fun T296 v296 L296 X296 hQ296 => ?_
      obtain ⟨rfl, Nq296, e296⟩ := hQ296
      have N296 := Fr.app N285 Nq296
      refine Owe.iload X296.here hx (hb hby at_127) rfl ?_
      refine Owe.icmpNo X296.here hx (hb hby at_129) rfl (teq (by decide)).2 ?_
      refine Owe.iconst X296.here hx (hb hby at_132) (w := (1 : Int32)) rfl ?_
      refine Owe.goto X296.here hx (hb hby at_133) (pc' := 137) (by decide) (by decide) ?_
      refine Owe.retNW X296 hx hS268 e296 hk286 hlk (t := .boolean) Bd.returns (by simp) (hb hby at_137) rfl fun fs hE => ?_
      rw [hG]
      refine ⟨_, _, rfl, ?_, ?_, coldMono hE (by decide) (by decide)⟩
      rotate_left
      · rw [hh]
        show CHr Z own_EL s.vm h0 T296.vm T296.heap
        rw [e296]
        exact Rr286.trans (CHv.at X296 hZ268 (own_ew hw) H286)
      show Q0 Z q1 p2 p3 p4 p5 G1 h0 n0 _ T296.heap _
      rw [e296]
      exact ⟨rfl, N296⟩
    · rw [hk]
      refine Owe.istore X0.here hx (hb hby at_20) rfl (l' := #[.val (.long q1), .second, .val (.int p2), .val (.int p3), .val (.int p4), .val (.int p5), .val (.int (1 : Int32)), .val (.int (1 : Int32)), .unset, .unset, .unset, .unset]) rfl ?_
      refine Owe.iconst X0.here hx (hb hby at_22) (w := (2 : Int32)) rfl ?_
      refine Owe.newarr X0 hx hZ (aty := .char) (hw _ (List.mem_of_getElem? (i := 1) rfl)) e0 (hb hby at_23) rfl (by decide) (cap := 2) (by decide) (by decide) (by decide) (by decide) fun T297 h297 b297 k297 g297 X297 e297 E297 V297 => ?_
      have sf_b297 := (Safe.new (Nat.le_of_eq g297.symm) : Safe Z own_EL s.vm h0 b297)
      have ge_b297 := Nat.le_trans Z0 (Nat.le_of_eq g297.symm)
      have hk298 := Nat.le_trans hk0 E297.1
      have sf_b297_298 := Safe.ext E297 H0 sf_b297
      have Rr298 := R0.trans (CHr.ext E297 H0)
      have H298 := CHv.ext E297 H0
      have Ol_299 := Ol.ext E297
      have Z_300 := Nat.le_trans Z0 E297.1
      have V_b297_297 : Arv Z h297 b297 k297 .char (2 : Int32) [(.int (0 : Int32)), (.int (0 : Int32))] (.int (0 : Int32)) := V297.pad (pad_rep [] (.int (0 : Int32)) 2)
      refine Owe.astore X297.here hx (hb hby at_25) rfl rfl (l' := #[.val (.long q1), .second, .val (.int p2), .val (.int p3), .val (.int p4), .val (.int p5), .val (.int (1 : Int32)), .val (.int (1 : Int32)), .val (.ref b297), .unset, .unset, .unset]) rfl ?_
      refine Owe.aload X297.here hx (hb hby at_27) rfl rfl ?_
      refine Owe.iconst X297.here hx (hb hby at_29) (w := (0 : Int32)) rfl ?_
      refine Owe.iloadN X297.here hx (hb hby at_30) rfl ?_
      refine Owe.sipush X297.here hx (hb hby at_31) (w := (255 : Int32)) rfl ?_
      refine Owe.iand X297.here hx (hb hby at_34) rfl ?_
      refine Owe.i2c X297.here hx (hb hby at_35) rfl ?_
      refine Owe.castore X297 hx hZ e297 V_b297_297 (x := ((p3 &&& (255 : Int32)).toUInt32.toUInt16.toUInt32.toInt32)) 0 rfl (Nat.le_of_ble_eq_true rfl) (by decide) (hb hby at_36) rfl fun T301 h301 X301 e301 W301 (V301 : Arv Z h301 b297 k297 .char (2 : Int32) [(.int (nar .char ((p3 &&& (255 : Int32)).toUInt32.toUInt16.toUInt32.toInt32))), (.int (0 : Int32))] (.int (0 : Int32))) => ?_
      have hk302 := Nat.le_trans hk298 (Keep.of_wr W301).1
      have sf_b297_302 := Safe.wr W301 sf_b297_298 H298 sf_b297_298
      have Rr302 := Rr298.trans (CHr.wr W301 sf_b297_298 H298)
      have H302 := CHv.wr W301 sf_b297_298 H298
      have Ol_303 := Ol_299.wr W301 ge_b297
      have Z_304 := Nat.le_trans Z_300 (Keep.of_wr W301).1
      have N301 := Fr.snoc X301 N0 ge_b297
      refine Owe.aload X301.here hx (hb hby at_37) rfl rfl ?_
      refine Owe.iconst X301.here hx (hb hby at_39) (w := (1 : Int32)) rfl ?_
      refine Owe.iload X301.here hx (hb hby at_40) rfl ?_
      refine Owe.sipush X301.here hx (hb hby at_42) (w := (255 : Int32)) rfl ?_
      refine Owe.iand X301.here hx (hb hby at_45) rfl ?_
      refine Owe.i2c X301.here hx (hb hby at_46) rfl ?_
      refine Owe.castore X301 hx hZ e301 V301 (x := ((p4 &&& (255 : Int32)).toUInt32.toUInt16.toUInt32.toInt32)) 1 rfl (Nat.le_of_ble_eq_true rfl) (by decide) (hb hby at_47) rfl fun T305 h305 X305 e305 W305 (V305 : Arv Z h305 b297 k297 .char (2 : Int32) [(.int (nar .char ((p3 &&& (255 : Int32)).toUInt32.toUInt16.toUInt32.toInt32))), (.int (nar .char ((p4 &&& (255 : Int32)).toUInt32.toUInt16.toUInt32.toInt32)))] (.int (0 : Int32))) => ?_
      have hk306 := Nat.le_trans hk302 (Keep.of_wr W305).1
      have sf_b297_306 := Safe.wr W305 sf_b297_302 H302 sf_b297_302
      have Rr306 := Rr302.trans (CHr.wr W305 sf_b297_302 H302)
      have H306 := CHv.wr W305 sf_b297_302 H302
      have Ol_307 := Ol_303.wr W305 ge_b297
      have Z_308 := Nat.le_trans Z_304 (Keep.of_wr W305).1
      have N305 := Fr.snoc X305 N301 ge_b297
      refine Owe.iload X305.here hx (hb hby at_48) rfl ?_
      refine Owe.ifYes X305.here hx (hb hby at_50) rfl ((if0 _ _).trans (feq (by decide)).2) (pc' := 68) (by decide) (by decide) ?_
      refine Owe.iload X305.here hx (hb hby at_68) rfl ?_
      refine Owe.iconst X305.here hx (hb hby at_70) (w := (1 : Int32)) rfl ?_
      refine Owe.icmpNo X305.here hx (hb hby at_71) rfl (teq (by decide)).2 ?_
      refine Owe.aload X305.here hx (hb hby at_74) rfl rfl ?_
      refine Owe.iconst X305.here hx (hb hby at_76) (w := (0 : Int32)) rfl ?_
      refine Owe.caload X305 hx hZ e305 V305 (v := (.int (nar .char ((p3 &&& (255 : Int32)).toUInt32.toUInt16.toUInt32.toInt32)))) (by decide) rfl (hb hby at_77) rfl ?_
      refine Owe.stat X305 hx (y := (⟨"java/lang/String", "valueOf", "(C)Ljava/lang/String;"⟩ : MethodName)) hown1 (mvT hZ (hw _ (List.mem_of_getElem? (i := 55) rfl))) (mvT hZ (hw _ (List.mem_of_getElem? (i := 56) rfl))) (mvT hZ (hw _ (List.mem_of_getElem? (i := 4) rfl))) (mvT hZ (hw _ (List.mem_of_getElem? (i := 57) rfl))) (by decide) (backOf (W := 0) (rmvof l Z a0 hw [] (nar .char ((p3 &&& (255 : Int32)).toUInt32.toUInt16.toUInt32.toInt32)) G1 h305 n0 Z_308 S_COMPACT_STRINGS cs0 (and255_chars p3).2 Ol_307) hZ (hw _ (List.mem_of_getElem? (i := 57) rfl)) (hw _ (List.mem_of_getElem? (i := 4) rfl)) (by decide) (by decide)) (by rw [hml]; rfl) (argsL := [(.int (nar .char ((p3 &&& (255 : Int32)).toUInt32.toUInt16.toUInt32.toInt32)))]) (rest := []) (lenOf pd_8 rfl) rfl (Nat.le_of_ble_eq_true rfl) (hb hby at_78) rfl e305 (by decide) (by decide) fun T309 v309 L309 X309 hQ309 => ?_
      obtain ⟨x1_309, t1_309, k1_309, rfl, Nq309, K309, ge_x1_309, fresh_x1_309, ge_t1_309, fresh_t1_309, E_x1_309, Fvalue_x1_309, Fcoder_x1_309, V_t1_309⟩ := hQ309
      have N309 := Fr.app N305 Nq309
      have hk310 := Nat.le_trans hk306 K309.1
      have sf_b297_310 := Safe.keep K309 sf0 H306 sf_b297_306
      have Rr310 := Rr306.trans (CHr.keep K309 sf0 H306)
      have H310 := CHv.keep K309 sf0 H306
      have Ol_311 := Ol_307.keep K309 all0
      have V305_312 := V305.keep K309 nin0
      have Z_313 := Nat.le_trans Z_308 K309.1
      have ne_b297_x1_309 : b297 ≠ x1_309 := Nat.ne_of_lt (Nat.lt_of_lt_of_le V305.lt fresh_x1_309)
      have ne_b297_t1_309 : b297 ≠ t1_309 := Nat.ne_of_lt (Nat.lt_of_lt_of_le V305.lt fresh_t1_309)
      refine Owe.astore X309.here hx (hb hby at_81) rfl rfl (l' := #[.val (.long q1), .second, .val (.int p2), .val (.int p3), .val (.int p4), .val (.int p5), .val (.int (1 : Int32)), .val (.int (1 : Int32)), .val (.ref b297), .val (.ref x1_309), .unset, .unset]) rfl ?_
      refine Owe.goto X309.here hx (hb hby at_83) (pc' := 97) (by decide) (by decide) ?_
      refine Owe.iload X309.here hx (hb hby at_97) rfl ?_
      refine Owe.ifNo X309.here hx (hb hby at_99) rfl ((if0 _ _).trans (feq (by decide)).1) ?_
      refine Owe.aconstNull X309.here hx (hb hby at_102)  ?_
      refine Owe.goto X309.here hx (hb hby at_103) (pc' := 108) (by decide) (by decide) ?_
      refine Owe.astore X309.here hx (hb hby at_108) rfl rfl (l' := #[.val (.long q1), .second, .val (.int p2), .val (.int p3), .val (.int p4), .val (.int p5), .val (.int (1 : Int32)), .val (.int (1 : Int32)), .val (.ref b297), .val (.ref x1_309), .val .null, .unset]) rfl ?_
      refine Owe.new X309 hx hZ hown1 (hw _ (List.mem_of_getElem? (i := 23) rfl)) (hw _ (List.mem_of_getElem? (i := 24) rfl)) (hw _ (List.mem_of_getElem? (i := 25) rfl)) rfl (hb hby at_110) (by decide) (by decide) fun T314 h314 b314 g314 X314 e314 E314 A314 D314 => ?_
      have ne_b297_b314 : b297 ≠ b314 := Nat.ne_of_lt (Nat.lt_of_lt_of_le V305_312.lt (Nat.le_of_eq g314.symm))
      have ne_x1_309_b314 : x1_309 ≠ b314 := Nat.ne_of_lt (Nat.lt_of_lt_of_le E_x1_309.lt (Nat.le_of_eq g314.symm))
      have ne_t1_309_b314 : t1_309 ≠ b314 := Nat.ne_of_lt (Nat.lt_of_lt_of_le V_t1_309.lt (Nat.le_of_eq g314.symm))
      have sf_b314 := (Safe.new (Nat.le_of_eq g314.symm) : Safe Z own_EL s.vm T309.heap b314)
      have ge_b314 := Nat.le_trans Z_313 (Nat.le_of_eq g314.symm)
      have hk315 := Nat.le_trans hk310 E314.1
      have sf_b297_315 := Safe.ext E314 H310 sf_b297_310
      have sf_b314_315 := Safe.ext E314 H310 sf_b314
      have Rr315 := Rr310.trans (CHr.ext E314 H310)
      have H315 := CHv.ext E314 H310
      have Ol_316 := Ol_311.ext E314
      have V305_317 := V305_312.ext E314
      have E_x1_318 := E_x1_309.ext E314
      have Fvalue_x1_319 := Fvalue_x1_309.ext E314
      have Fcoder_x1_320 := Fcoder_x1_309.ext E314
      have V_t1_321 := V_t1_309.ext E314
      have Z_322 := Nat.le_trans Z_313 E314.1
      have Frecords_b314 : Fld Z h314 b314 "com/example/overrule/overrule/audit/Verification" "records" "J" (.long (0 : Int64)) := D314 (Or.inr (hw _ (List.mem_of_getElem? (i := 36) rfl))) (ty := .long) (by decide)
      have Fproblem_b314 : Fld Z h314 b314 "com/example/overrule/overrule/audit/Verification" "problem" "Ljava/lang/String;" .null := D314 (Or.inr (hw _ (List.mem_of_getElem? (i := 38) rfl))) (ty := (.object "java/lang/String")) (by decide)
      refine Owe.dup X314.here hx (hb hby at_113) rfl rfl ?_
      refine Owe.lloadN X314.here hx (hb hby at_114) rfl ?_
      refine Owe.aload X314.here hx (hb hby at_115) rfl rfl ?_
      refine Owe.special X314 hx (y := (⟨"com/example/overrule/overrule/audit/Verification", "<init>", "(JLjava/lang/String;)V"⟩ : MethodName)) rfl hown1 (mvT hZ (hw _ (List.mem_of_getElem? (i := 26) rfl))) (mvT hZ (hw _ (List.mem_of_getElem? (i := 27) rfl))) (mvT hZ (hw _ (List.mem_of_getElem? (i := 28) rfl))) (by decide) (backOf (W := 1) (rminn l Z a0 hw [] b314 q1 (.long (0 : Int64)) .null h314 n0 Z_322 A314 Frecords_b314 Fproblem_b314 ge_b314) hZ (hw _ (List.mem_of_getElem? (i := 28) rfl)) (hw _ (List.mem_of_getElem? (i := 25) rfl)) (by decide) (by decide)) (by rw [hml]; rfl) (a := b314) (argsL := [(.long q1), .null]) (rest := [(.ref b314)]) (lenOf pd_6 rfl) rfl (Nat.le_of_ble_eq_true rfl) (hb hby at_117) rfl e314 (by decide) (by decide) fun T323 v323 L323 X323 hQ323 => ?_
      obtain ⟨rfl, Nq323, K323, E_a1_323, Fproblem_a1_323⟩ := hQ323
      have N323 := Fr.app N309 Nq323
      have hk324 := Nat.le_trans hk315 K323.1
      have sf_b297_324 := Safe.keep K323 (sfS sf_b314_315 sf0) H315 sf_b297_315
      have sf_b314_324 := Safe.keep K323 (sfS sf_b314_315 sf0) H315 sf_b314_315
      have Rr324 := Rr315.trans (CHr.keep K323 (sfS sf_b314_315 sf0) H315)
      have H324 := CHv.keep K323 (sfS sf_b314_315 sf0) H315
      have Ol_325 := Ol_316.keep K323 (allS ge_b314 all0)
      have V305_326 := V305_317.keep K323 (ninS ne_b297_b314 nin0)
      have E_x1_327 := E_x1_318.keep K323
      have Fvalue_x1_328 := Fvalue_x1_319.keep K323 (ninS ne_x1_309_b314 nin0)
      have Fcoder_x1_329 := Fcoder_x1_320.keep K323 (ninS ne_x1_309_b314 nin0)
      have V_t1_330 := V_t1_321.keep K323 (ninS ne_t1_309_b314 nin0)
      have A314_331 := A314.keep K323
      have Z_332 := Nat.le_trans Z_322 K323.1
      refine Owe.astore X323.here hx (hb hby at_120) rfl rfl (l' := #[.val (.long q1), .second, .val (.int p2), .val (.int p3), .val (.int p4), .val (.int p5), .val (.int (1 : Int32)), .val (.int (1 : Int32)), .val (.ref b297), .val (.ref x1_309), .val .null, .val (.ref b314)]) rfl ?_
      refine Owe.aload X323.here hx (hb hby at_122) rfl rfl ?_
      refine Owe.virt X323 hx hZ (y := (⟨"com/example/overrule/overrule/audit/Verification", "intact", "()Z"⟩ : MethodName)) (z := (⟨"com/example/overrule/overrule/audit/Verification", "intact", "()Z"⟩ : MethodName)) hown1 (mvT hZ (hw _ (List.mem_of_getElem? (i := 39) rfl))) (mvT hZ (hw _ (List.mem_of_getElem? (i := 40) rfl))) (mvT hZ (hw _ (List.mem_of_getElem? (i := 42) rfl))) (mvT hZ (hw _ (List.mem_of_getElem? (i := 41) rfl))) (notFace_of_selects (args := #[]) (mvT hZ (hw _ (List.mem_of_getElem? (i := 42) rfl)))) (by decide) (backOf (W := 0) (rmitn l Z a0 hw [] b314 T323.heap n0 Z_332 Fproblem_a1_323) hZ (hw _ (List.mem_of_getElem? (i := 43) rfl)) (hw _ (List.mem_of_getElem? (i := 25) rfl)) (by decide) (by decide)) (by rw [hml]; rfl) (a := b314) (argsL := []) (rest := []) E_a1_323 (lenOf pd_7 rfl) rfl (Nat.le_of_ble_eq_true rfl) (hb hby at_124) rfl rfl (by decide) (by decide) fun T333 v333 L333 X333 hQ333 => ?_
      obtain ⟨rfl, Nq333, e333⟩ := hQ333
      have N333 := Fr.app N323 Nq333
      refine Owe.iload X333.here hx (hb hby at_127) rfl ?_
      refine Owe.icmpNo X333.here hx (hb hby at_129) rfl (teq (by decide)).2 ?_
      refine Owe.iconst X333.here hx (hb hby at_132) (w := (1 : Int32)) rfl ?_
      refine Owe.goto X333.here hx (hb hby at_133) (pc' := 137) (by decide) (by decide) ?_
      refine Owe.retNW X333 hx hS0 e333 hk324 hlk (t := .boolean) Bd.returns (by simp) (hb hby at_137) rfl fun fs hE => ?_
      rw [hG]
      refine ⟨_, _, rfl, ?_, ?_, coldMono hE (by decide) (by decide)⟩
      rotate_left
      · rw [hh]
        show CHr Z own_EL s.vm h0 T333.vm T333.heap
        rw [e333]
        exact Rr324.trans (CHv.at X333 hZ (own_ew hw) H324)
      show Q0 Z q1 p2 p3 p4 p5 G1 h0 n0 _ T333.heap _
      rw [e333]
      exact ⟨rfl, N333⟩
    · rw [hk]
      refine Owe.istore X0.here hx (hb hby at_20) rfl (l' := #[.val (.long q1), .second, .val (.int p2), .val (.int p3), .val (.int p4), .val (.int p5), .val (.int (1 : Int32)), .val (.int (2 : Int32)), .unset, .unset, .unset, .unset]) rfl ?_
      refine Owe.iconst X0.here hx (hb hby at_22) (w := (2 : Int32)) rfl ?_
      refine Owe.newarr X0 hx hZ (aty := .char) (hw _ (List.mem_of_getElem? (i := 1) rfl)) e0 (hb hby at_23) rfl (by decide) (cap := 2) (by decide) (by decide) (by decide) (by decide) fun T334 h334 b334 k334 g334 X334 e334 E334 V334 => ?_
      have sf_b334 := (Safe.new (Nat.le_of_eq g334.symm) : Safe Z own_EL s.vm h0 b334)
      have ge_b334 := Nat.le_trans Z0 (Nat.le_of_eq g334.symm)
      have hk335 := Nat.le_trans hk0 E334.1
      have sf_b334_335 := Safe.ext E334 H0 sf_b334
      have Rr335 := R0.trans (CHr.ext E334 H0)
      have H335 := CHv.ext E334 H0
      have Ol_336 := Ol.ext E334
      have Z_337 := Nat.le_trans Z0 E334.1
      have V_b334_334 : Arv Z h334 b334 k334 .char (2 : Int32) [(.int (0 : Int32)), (.int (0 : Int32))] (.int (0 : Int32)) := V334.pad (pad_rep [] (.int (0 : Int32)) 2)
      refine Owe.astore X334.here hx (hb hby at_25) rfl rfl (l' := #[.val (.long q1), .second, .val (.int p2), .val (.int p3), .val (.int p4), .val (.int p5), .val (.int (1 : Int32)), .val (.int (2 : Int32)), .val (.ref b334), .unset, .unset, .unset]) rfl ?_
      refine Owe.aload X334.here hx (hb hby at_27) rfl rfl ?_
      refine Owe.iconst X334.here hx (hb hby at_29) (w := (0 : Int32)) rfl ?_
      refine Owe.iloadN X334.here hx (hb hby at_30) rfl ?_
      refine Owe.sipush X334.here hx (hb hby at_31) (w := (255 : Int32)) rfl ?_
      refine Owe.iand X334.here hx (hb hby at_34) rfl ?_
      refine Owe.i2c X334.here hx (hb hby at_35) rfl ?_
      refine Owe.castore X334 hx hZ e334 V_b334_334 (x := ((p3 &&& (255 : Int32)).toUInt32.toUInt16.toUInt32.toInt32)) 0 rfl (Nat.le_of_ble_eq_true rfl) (by decide) (hb hby at_36) rfl fun T338 h338 X338 e338 W338 (V338 : Arv Z h338 b334 k334 .char (2 : Int32) [(.int (nar .char ((p3 &&& (255 : Int32)).toUInt32.toUInt16.toUInt32.toInt32))), (.int (0 : Int32))] (.int (0 : Int32))) => ?_
      have hk339 := Nat.le_trans hk335 (Keep.of_wr W338).1
      have sf_b334_339 := Safe.wr W338 sf_b334_335 H335 sf_b334_335
      have Rr339 := Rr335.trans (CHr.wr W338 sf_b334_335 H335)
      have H339 := CHv.wr W338 sf_b334_335 H335
      have Ol_340 := Ol_336.wr W338 ge_b334
      have Z_341 := Nat.le_trans Z_337 (Keep.of_wr W338).1
      have N338 := Fr.snoc X338 N0 ge_b334
      refine Owe.aload X338.here hx (hb hby at_37) rfl rfl ?_
      refine Owe.iconst X338.here hx (hb hby at_39) (w := (1 : Int32)) rfl ?_
      refine Owe.iload X338.here hx (hb hby at_40) rfl ?_
      refine Owe.sipush X338.here hx (hb hby at_42) (w := (255 : Int32)) rfl ?_
      refine Owe.iand X338.here hx (hb hby at_45) rfl ?_
      refine Owe.i2c X338.here hx (hb hby at_46) rfl ?_
      refine Owe.castore X338 hx hZ e338 V338 (x := ((p4 &&& (255 : Int32)).toUInt32.toUInt16.toUInt32.toInt32)) 1 rfl (Nat.le_of_ble_eq_true rfl) (by decide) (hb hby at_47) rfl fun T342 h342 X342 e342 W342 (V342 : Arv Z h342 b334 k334 .char (2 : Int32) [(.int (nar .char ((p3 &&& (255 : Int32)).toUInt32.toUInt16.toUInt32.toInt32))), (.int (nar .char ((p4 &&& (255 : Int32)).toUInt32.toUInt16.toUInt32.toInt32)))] (.int (0 : Int32))) => ?_
      have hk343 := Nat.le_trans hk339 (Keep.of_wr W342).1
      have sf_b334_343 := Safe.wr W342 sf_b334_339 H339 sf_b334_339
      have Rr343 := Rr339.trans (CHr.wr W342 sf_b334_339 H339)
      have H343 := CHv.wr W342 sf_b334_339 H339
      have Ol_344 := Ol_340.wr W342 ge_b334
      have Z_345 := Nat.le_trans Z_341 (Keep.of_wr W342).1
      have N342 := Fr.snoc X342 N338 ge_b334
      refine Owe.iload X342.here hx (hb hby at_48) rfl ?_
      refine Owe.ifYes X342.here hx (hb hby at_50) rfl ((if0 _ _).trans (feq (by decide)).2) (pc' := 68) (by decide) (by decide) ?_
      refine Owe.iload X342.here hx (hb hby at_68) rfl ?_
      refine Owe.iconst X342.here hx (hb hby at_70) (w := (1 : Int32)) rfl ?_
      refine Owe.icmpYes X342.here hx (hb hby at_71) rfl (feq (by decide)).2 (pc' := 86) (by decide) (by decide) ?_
      refine Owe.new X342 hx hZ hown1 (hw _ (List.mem_of_getElem? (i := 2) rfl)) (hw _ (List.mem_of_getElem? (i := 3) rfl)) (hw _ (List.mem_of_getElem? (i := 4) rfl)) e342 (hb hby at_86) (by decide) (by decide) fun T346 h346 b346 g346 X346 e346 E346 A346 D346 => ?_
      have ne_b334_b346 : b334 ≠ b346 := Nat.ne_of_lt (Nat.lt_of_lt_of_le V342.lt (Nat.le_of_eq g346.symm))
      have sf_b346 := (Safe.new (Nat.le_of_eq g346.symm) : Safe Z own_EL s.vm h342 b346)
      have ge_b346 := Nat.le_trans Z_345 (Nat.le_of_eq g346.symm)
      have hk347 := Nat.le_trans hk343 E346.1
      have sf_b334_347 := Safe.ext E346 H343 sf_b334_343
      have sf_b346_347 := Safe.ext E346 H343 sf_b346
      have Rr347 := Rr343.trans (CHr.ext E346 H343)
      have H347 := CHv.ext E346 H343
      have Ol_348 := Ol_344.ext E346
      have V342_349 := V342.ext E346
      have Z_350 := Nat.le_trans Z_345 E346.1
      have Fvalue_b346 : Fld Z h346 b346 "java/lang/String" "value" "[B" .null := D346 (Or.inr (hw _ (List.mem_of_getElem? (i := 17) rfl))) (ty := (.array .byte)) (by decide)
      have Fcoder_b346 : Fld Z h346 b346 "java/lang/String" "coder" "B" (.int (0 : Int32)) := D346 (Or.inr (hw _ (List.mem_of_getElem? (i := 18) rfl))) (ty := .byte) (by decide)
      refine Owe.dup X346.here hx (hb hby at_89) rfl rfl ?_
      refine Owe.aload X346.here hx (hb hby at_90) rfl rfl ?_
      have hp351 : ∀ c ∈ ([(nar .char ((p3 &&& (255 : Int32)).toUInt32.toUInt16.toUInt32.toInt32)), (nar .char ((p4 &&& (255 : Int32)).toUInt32.toUInt16.toUInt32.toInt32))] : List Int32), ¬ c < 0 ∧ ¬ (255 : Int32) < c := by
        intro c hc
        simp only [List.mem_cons, List.not_mem_nil, or_false] at hc
        rcases hc with rfl | rfl
        · exact and255_chars _
        · exact and255_chars _
      refine Owe.special X346 hx (y := (⟨"java/lang/String", "<init>", "([C)V"⟩ : MethodName)) rfl hown1 (mvT hZ (hw _ (List.mem_of_getElem? (i := 5) rfl))) (mvT hZ (hw _ (List.mem_of_getElem? (i := 6) rfl))) (mvT hZ (hw _ (List.mem_of_getElem? (i := 7) rfl))) (by decide) (StrChars.Road.backV (W := 1) hZ hws (kI := 4) (hw _ (List.mem_of_getElem? (i := 3) rfl)) (cs := ([(nar .char ((p3 &&& (255 : Int32)).toUInt32.toUInt16.toUInt32.toInt32)), (nar .char ((p4 &&& (255 : Int32)).toUInt32.toUInt16.toUInt32.toInt32))] : List Int32)) (bs := ([(nar .char ((p3 &&& (255 : Int32)).toUInt32.toUInt16.toUInt32.toInt32)), (nar .char ((p4 &&& (255 : Int32)).toUInt32.toUInt16.toUInt32.toInt32))] : List Int32).map (fun c => c.toInt8.toInt32)) (n := 2) ge_b346 Z_350 A346 Fvalue_b346 Fcoder_b346 V342_349 (S_COMPACT_STRINGS.ext Ol_348.2) cs0 rfl rfl (by decide) (by decide) hp351 rfl (by decide) (by decide)) (by rw [hml]; rfl) (a := b346) (argsL := [(.ref b334)]) (rest := [(.ref b346)]) (lenOf pd_5 rfl) rfl (Nat.le_of_ble_eq_true rfl) (hb hby at_92) rfl e346 (by decide) (by decide) fun T352 v352 L352 X352 hQ352 => ?_
      obtain ⟨rfl, Nq352, K352, Ex352, Fc352, t352, kb352, gt352, ft352, nt352, Fv352, Vt352⟩ := hQ352
      have N352 := Fr.app N342 Nq352
      have ne_b334_t352 : b334 ≠ t352 := Nat.ne_of_lt (Nat.lt_of_lt_of_le V342_349.lt ft352)
      have ne_b346_t352 : b346 ≠ t352 := Nat.ne_of_lt (Nat.lt_of_lt_of_le A346.lt ft352)
      have hk353 := Nat.le_trans hk347 K352.1
      have sf_b334_353 := Safe.keep K352 (sfS sf_b346_347 sf0) H347 sf_b334_347
      have sf_b346_353 := Safe.keep K352 (sfS sf_b346_347 sf0) H347 sf_b346_347
      have Rr353 := Rr347.trans (CHr.keep K352 (sfS sf_b346_347 sf0) H347)
      have H353 := CHv.keep K352 (sfS sf_b346_347 sf0) H347
      have Ol_354 := Ol_348.keep K352 (allS ge_b346 all0)
      have V342_355 := V342_349.keep K352 (ninS ne_b334_b346 nin0)
      have A346_356 := A346.keep K352
      have Z_357 := Nat.le_trans Z_350 K352.1
      refine Owe.astore X352.here hx (hb hby at_95) rfl rfl (l' := #[.val (.long q1), .second, .val (.int p2), .val (.int p3), .val (.int p4), .val (.int p5), .val (.int (1 : Int32)), .val (.int (2 : Int32)), .val (.ref b334), .val (.ref b346), .unset, .unset]) rfl ?_
      refine Owe.iload X352.here hx (hb hby at_97) rfl ?_
      refine Owe.ifNo X352.here hx (hb hby at_99) rfl ((if0 _ _).trans (feq (by decide)).1) ?_
      refine Owe.aconstNull X352.here hx (hb hby at_102)  ?_
      refine Owe.goto X352.here hx (hb hby at_103) (pc' := 108) (by decide) (by decide) ?_
      refine Owe.astore X352.here hx (hb hby at_108) rfl rfl (l' := #[.val (.long q1), .second, .val (.int p2), .val (.int p3), .val (.int p4), .val (.int p5), .val (.int (1 : Int32)), .val (.int (2 : Int32)), .val (.ref b334), .val (.ref b346), .val .null, .unset]) rfl ?_
      refine Owe.new X352 hx hZ hown1 (hw _ (List.mem_of_getElem? (i := 23) rfl)) (hw _ (List.mem_of_getElem? (i := 24) rfl)) (hw _ (List.mem_of_getElem? (i := 25) rfl)) rfl (hb hby at_110) (by decide) (by decide) fun T358 h358 b358 g358 X358 e358 E358 A358 D358 => ?_
      have ne_b334_b358 : b334 ≠ b358 := Nat.ne_of_lt (Nat.lt_of_lt_of_le V342_355.lt (Nat.le_of_eq g358.symm))
      have ne_b346_b358 : b346 ≠ b358 := Nat.ne_of_lt (Nat.lt_of_lt_of_le Ex352.lt (Nat.le_of_eq g358.symm))
      have ne_t352_b358 : t352 ≠ b358 := Nat.ne_of_lt (Nat.lt_of_lt_of_le Vt352.lt (Nat.le_of_eq g358.symm))
      have sf_b358 := (Safe.new (Nat.le_of_eq g358.symm) : Safe Z own_EL s.vm T352.heap b358)
      have ge_b358 := Nat.le_trans Z_357 (Nat.le_of_eq g358.symm)
      have hk359 := Nat.le_trans hk353 E358.1
      have sf_b334_359 := Safe.ext E358 H353 sf_b334_353
      have sf_b346_359 := Safe.ext E358 H353 sf_b346_353
      have sf_b358_359 := Safe.ext E358 H353 sf_b358
      have Rr359 := Rr353.trans (CHr.ext E358 H353)
      have H359 := CHv.ext E358 H353
      have Ol_360 := Ol_354.ext E358
      have V342_361 := V342_355.ext E358
      have Ex352_362 := Ex352.ext E358
      have Fc352_363 := Fc352.ext E358
      have Fv352_364 := Fv352.ext E358
      have Vt352_365 := Vt352.ext E358
      have Z_366 := Nat.le_trans Z_357 E358.1
      have Frecords_b358 : Fld Z h358 b358 "com/example/overrule/overrule/audit/Verification" "records" "J" (.long (0 : Int64)) := D358 (Or.inr (hw _ (List.mem_of_getElem? (i := 36) rfl))) (ty := .long) (by decide)
      have Fproblem_b358 : Fld Z h358 b358 "com/example/overrule/overrule/audit/Verification" "problem" "Ljava/lang/String;" .null := D358 (Or.inr (hw _ (List.mem_of_getElem? (i := 38) rfl))) (ty := (.object "java/lang/String")) (by decide)
      refine Owe.dup X358.here hx (hb hby at_113) rfl rfl ?_
      refine Owe.lloadN X358.here hx (hb hby at_114) rfl ?_
      refine Owe.aload X358.here hx (hb hby at_115) rfl rfl ?_
      refine Owe.special X358 hx (y := (⟨"com/example/overrule/overrule/audit/Verification", "<init>", "(JLjava/lang/String;)V"⟩ : MethodName)) rfl hown1 (mvT hZ (hw _ (List.mem_of_getElem? (i := 26) rfl))) (mvT hZ (hw _ (List.mem_of_getElem? (i := 27) rfl))) (mvT hZ (hw _ (List.mem_of_getElem? (i := 28) rfl))) (by decide) (backOf (W := 1) (rminn l Z a0 hw [] b358 q1 (.long (0 : Int64)) .null h358 n0 Z_366 A358 Frecords_b358 Fproblem_b358 ge_b358) hZ (hw _ (List.mem_of_getElem? (i := 28) rfl)) (hw _ (List.mem_of_getElem? (i := 25) rfl)) (by decide) (by decide)) (by rw [hml]; rfl) (a := b358) (argsL := [(.long q1), .null]) (rest := [(.ref b358)]) (lenOf pd_6 rfl) rfl (Nat.le_of_ble_eq_true rfl) (hb hby at_117) rfl e358 (by decide) (by decide) fun T367 v367 L367 X367 hQ367 => ?_
      obtain ⟨rfl, Nq367, K367, E_a1_367, Fproblem_a1_367⟩ := hQ367
      have N367 := Fr.app N352 Nq367
      have hk368 := Nat.le_trans hk359 K367.1
      have sf_b334_368 := Safe.keep K367 (sfS sf_b358_359 sf0) H359 sf_b334_359
      have sf_b346_368 := Safe.keep K367 (sfS sf_b358_359 sf0) H359 sf_b346_359
      have sf_b358_368 := Safe.keep K367 (sfS sf_b358_359 sf0) H359 sf_b358_359
      have Rr368 := Rr359.trans (CHr.keep K367 (sfS sf_b358_359 sf0) H359)
      have H368 := CHv.keep K367 (sfS sf_b358_359 sf0) H359
      have Ol_369 := Ol_360.keep K367 (allS ge_b358 all0)
      have V342_370 := V342_361.keep K367 (ninS ne_b334_b358 nin0)
      have Ex352_371 := Ex352_362.keep K367
      have Fc352_372 := Fc352_363.keep K367 (ninS ne_b346_b358 nin0)
      have Fv352_373 := Fv352_364.keep K367 (ninS ne_b346_b358 nin0)
      have Vt352_374 := Vt352_365.keep K367 (ninS ne_t352_b358 nin0)
      have A358_375 := A358.keep K367
      have Z_376 := Nat.le_trans Z_366 K367.1
      refine Owe.astore X367.here hx (hb hby at_120) rfl rfl (l' := #[.val (.long q1), .second, .val (.int p2), .val (.int p3), .val (.int p4), .val (.int p5), .val (.int (1 : Int32)), .val (.int (2 : Int32)), .val (.ref b334), .val (.ref b346), .val .null, .val (.ref b358)]) rfl ?_
      refine Owe.aload X367.here hx (hb hby at_122) rfl rfl ?_
      refine Owe.virt X367 hx hZ (y := (⟨"com/example/overrule/overrule/audit/Verification", "intact", "()Z"⟩ : MethodName)) (z := (⟨"com/example/overrule/overrule/audit/Verification", "intact", "()Z"⟩ : MethodName)) hown1 (mvT hZ (hw _ (List.mem_of_getElem? (i := 39) rfl))) (mvT hZ (hw _ (List.mem_of_getElem? (i := 40) rfl))) (mvT hZ (hw _ (List.mem_of_getElem? (i := 42) rfl))) (mvT hZ (hw _ (List.mem_of_getElem? (i := 41) rfl))) (notFace_of_selects (args := #[]) (mvT hZ (hw _ (List.mem_of_getElem? (i := 42) rfl)))) (by decide) (backOf (W := 0) (rmitn l Z a0 hw [] b358 T367.heap n0 Z_376 Fproblem_a1_367) hZ (hw _ (List.mem_of_getElem? (i := 43) rfl)) (hw _ (List.mem_of_getElem? (i := 25) rfl)) (by decide) (by decide)) (by rw [hml]; rfl) (a := b358) (argsL := []) (rest := []) E_a1_367 (lenOf pd_7 rfl) rfl (Nat.le_of_ble_eq_true rfl) (hb hby at_124) rfl rfl (by decide) (by decide) fun T377 v377 L377 X377 hQ377 => ?_
      obtain ⟨rfl, Nq377, e377⟩ := hQ377
      have N377 := Fr.app N367 Nq377
      refine Owe.iload X377.here hx (hb hby at_127) rfl ?_
      refine Owe.icmpNo X377.here hx (hb hby at_129) rfl (teq (by decide)).2 ?_
      refine Owe.iconst X377.here hx (hb hby at_132) (w := (1 : Int32)) rfl ?_
      refine Owe.goto X377.here hx (hb hby at_133) (pc' := 137) (by decide) (by decide) ?_
      refine Owe.retNW X377 hx hS0 e377 hk368 hlk (t := .boolean) Bd.returns (by simp) (hb hby at_137) rfl fun fs hE => ?_
      rw [hG]
      refine ⟨_, _, rfl, ?_, ?_, coldMono hE (by decide) (by decide)⟩
      rotate_left
      · rw [hh]
        show CHr Z own_EL s.vm h0 T377.vm T377.heap
        rw [e377]
        exact Rr368.trans (CHv.at X377 hZ (own_ew hw) H368)
      show Q0 Z q1 p2 p3 p4 p5 G1 h0 n0 _ T377.heap _
      rw [e377]
      exact ⟨rfl, N377⟩
set_option maxRecDepth 65536 in
set_option maxHeartbeats 40000000 in
theorem comes_1 {Post : Tables → Env → Array Value → State → Outcome → State → Prop} (hpost : ∀ tb e args s v u, (limb_1_1.after args s (.returned v) u = true ∧ limb_1_2.after args s (.returned v) u = true ∧ True) → ReturnedEndW s (.returned v) u (Jvm.fieldLocs frame_1_writes args s ++ Jvm.arrayLocs frame_1_arrays args s ++ Jvm.staticLocs frame_1_statics s) 24 1152 → Post tb e args s (.returned v) u) :
    ArmFor flags0 classFile x code maxLocals ret World_1 tables_1 room_1 Calls_1 rest_1 Pre_1 Post := by
  intro l hfl _ _ p e ha hc hk s m args below hf hA hF happ hP
  obtain ⟨hcalls, hrest, hpre⟩ := hP
  obtain ⟨-, -, -, hnamed, -, -, -, hat⟩ := (Spec.applies_iff hf).mp happ
  obtain ⟨hg, hn⟩ := and_e (Cond.before_iff.mp (show (Jvm.Cond.and given_1 narrow_1).before args s = true from hpre))
  obtain ⟨g0, q0⟩ := and_e hg
  obtain ⟨g1, q1⟩ := and_e q0
  obtain ⟨g2, q2⟩ := and_e q1
  obtain ⟨g3, q3⟩ := and_e q2
  obtain ⟨g4, q4⟩ := and_e q3
  obtain ⟨w0, w1, w2, w3, w4, rfl⟩ : ∃ w0 w1 w2 w3 w4 : Value, args = #[w0, w1, w2, w3, w4] := by
    have hs : args.size = 5 := by simpa [Cond.value, given_1] using g0
    obtain ⟨L⟩ := args
    match L, hs with
    | [w0, w1, w2, w3, w4], _ => exact ⟨w0, w1, w2, w3, w4, rfl⟩
  have hw := fun d (hd : d ∈ tables_1) => atoms_spec (ws := Jvm.Cond.code x code maxLocals ret :: tables_1) hat d (List.mem_cons_of_mem _ hd)
  have hfit : Fit s := fun {y c} hc i hi => by
    obtain ⟨ha, rfl⟩ := Array.getElem?_eq_some_iff.mp hc
    have q := List.all_eq_true.mp ((Array.all_eq_true_iff_forall_mem.mp hF) _ (Array.getElem_mem ha)) i (List.mem_range.mpr hi)
    simpa [Array.getElem?_eq_getElem hi] using q
  obtain ⟨hsets, hown0⟩ := atoms_of _ (rest_1_c_eq ▸ (show rest_1_c.before _ s = true from hrest))
  have hr0 := Cond.before_iff.mp hown0
  obtain ⟨i0, ei0⟩ := isL_v g1
  obtain rfl : w0 = (.long i0) := Option.some.inj ei0
  obtain ⟨i1, ei1⟩ := is_v g2
  obtain rfl : w1 = (.int i1) := Option.some.inj ei1
  obtain ⟨i2, ei2⟩ := is_v g3
  obtain rfl : w2 = (.int i2) := Option.some.inj ei2
  obtain ⟨i3, ei3⟩ := is_v g4
  obtain rfl : w3 = (.int i3) := Option.some.inj ei3
  obtain ⟨i4, ei4⟩ := is_v q4
  obtain rfl : w4 = (.int i4) := Option.some.inj ei4
  have n5 := not_v (Cond.before_iff.mp (hsets _ (List.mem_of_getElem? (i := 2) rfl)))
  obtain ⟨ics, ecs⟩ := is_v (Cond.before_iff.mp (hsets _ (List.mem_of_getElem? (i := 1) rfl)))
  have Scs : Sta s s.heap "java/lang/String" "COMPACT_STRINGS" "Z" (.int ics) := Sta.start ecs (Or.inl (hsets _ (List.mem_of_getElem? (i := 0) rfl)))
  have hcs0 : ¬ (ics = (0 : Int32)) := gotF (Cond.eq_ints ecs (Term.int_eval (0))) n5
  have H0 : CHv s own_EL s.vm s.heap := CHv.start (own_ew hw) (fun p hp => hcalls.1 p hp) (hsets _ (List.mem_of_getElem? (i := 2) rfl)) (hw _ (List.mem_of_getElem? (i := 16) rfl)) (hw _ (List.mem_of_getElem? (i := 3) rfl))
  obtain ⟨n, o, h1, h2, h3, _, L, rfl, ⟨rfl, N⟩, _, hq⟩ := rm0 l s _ hw tables_1 i0 i1 i2 i3 i4 ics s.heap s.heap.size (Nat.le_refl _) Scs hcs0 (Old.start s) p e ha hc hk s m _ below hf ((Spec.applies_iff_loose hf).mp happ).1 ⟨rfl, State.Warmed39.refl s, rfl, H0⟩ trivial
  refine ⟨n, _, h1, h2, h3, hpost _ _ _ _ _ _ ⟨Cond.after_iff.mpr rfl, Cond.after_iff.mpr (eq_i res_at (Term.int_eval (1)) rfl), trivial⟩ ⟨hq.1, hq.2.1, hq.2.2.1, (hq.2.2.2.sift fun y hy => Or.inr (N y hy)).mono (by decide) (by decide)⟩⟩
theorem main_1_1 : Claimed_1_1 := comes_1 fun _ _ _ _ _ _ h hF => ⟨h.1, hF⟩
theorem main_1_2 : Claimed_1_2 := comes_1 fun _ _ _ _ _ _ h hF => ⟨h.2.1, hF⟩
end Jvm.Pilot.@@N@@
namespace Jvm.Pilot.@@N@@
open Jvm Jvm.ClassFile Sem Op Lib Jvm.Free Jvm.Stand Jvm.Pilot.@@N@@.Jvm.D
/-! MADE BY PROGRAM (witnessworld.py) out of the Statement's table words and the real class files: 21 classes; the members and pool entries that the words name. The judged class is class 1, her method 1. -/
namespace start1
open Jvm.ClassFile
def u (s : String) : CpInfo := .utf8 (stringToUtf16 s)
/-- a pool by its gaps: so many unusable entries, then the entry; so many at the end -/
def gap : Nat → List CpInfo → List CpInfo
  | 0, r => r
  | n + 1, r => .unusable :: gap n r
def poolList (es : List (Nat × CpInfo)) (last : Nat) : List CpInfo := es.foldr (fun e r => gap e.1 (e.2 :: r)) (gap last [])
def pool (es : List (Nat × CpInfo)) (last : Nat) : Array CpInfo := ⟨poolList es last⟩
def fileOf (pool : Array CpInfo) (this : Nat) (attrs : Array Attribute := #[]) (ms : Array MethodInfo := #[]) (fl : Nat := 33) (sup : Nat := 0) (ifs : Array Nat := #[]) (fds : Array FieldInfo := #[]) : ClassFile where
  minorVersion := 0
  majorVersion := 65
  constantPool := pool
  accessFlags := fl
  thisClass := this
  superClass := sup
  interfaces := ifs
  fields := fds
  methods := ms
  attributes := attrs
def plain (name : String) (sup : Option ClassId) : Class where
  name := name
  kind := .ordinary
  loader := none
  accessFlags := 33
  super := sup
  interfaces := #[]
  cf := none
  fields := #[]
  methods := #[]
  instanceTypes := #[]
  staticTypes := #[]
  resolved := #[]
  callSites := []
  init := .initialized
  statics := none
  mirror := none

def pool0 : Array CpInfo := pool [(5, u "<init>"), (0, u "()V"), (1, .class_ 10), (1, u "java/lang/Object")] 113

def k0c0 : Code := { maxStack := 0, maxLocals := 1, code := object_method_1_code, exceptionTable := #[], attributes := #[] }
def k0m0 : Method := { name := "<init>", desc := "()V", sig := { parameters := [], returnType := none }, accessFlags := 1, code := some k0c0 }
/-- java/lang/Object -/
def k0 : Class := { plain "java/lang/Object" none with
  accessFlags := 33
  interfaces := #[]
  cf := some (fileOf pool0 8 #[] #[{ accessFlags := 1, nameIndex := 5, descriptorIndex := 6, attributes := #[] }] 33 0 #[] #[])
  fields := #[]
  methods := #[k0m0]
  instanceTypes := #[]
  staticTypes := #[]
  resolved := Array.replicate 124 none
  statics := none }

def pool1 : Array CpInfo := pool [(2, .class_ 4), (1, u "java/lang/Object"), (0, u "<init>"), (0, u "()V"), (0, .integer 2147483647), (0, .class_ 9), (0, u "java/lang/String"), (0, .methodref 8 11), (0, .nameAndType 5 12), (0, u "([C)V"), (0, .methodref 8 14), (0, .nameAndType 15 16), (0, u "valueOf"), (0, u "(C)Ljava/lang/String;"), (0, .class_ 18), (0, u "com/example/overrule/overrule/audit/Verification"), (0, .methodref 17 20), (0, .nameAndType 5 21), (0, u "(JLjava/lang/String;)V"), (0, .methodref 17 23), (0, .nameAndType 24 25), (0, u "intact"), (0, u "()Z"), (0, .class_ 27), (0, u "com/example/overrule/overrule/audit/VerificationIntactPinLaw"), (2, u "law"), (0, u "(JIIII)Z")] 5

def k1m0 : Method := { name := "<init>", desc := "()V", sig := { parameters := [], returnType := none }, accessFlags := 1, code := none }
def k1c1 : Code := { maxStack := 5, maxLocals := 12, code := code, exceptionTable := #[], attributes := #[] }
def k1m1 : Method := { name := "law", desc := "(JIIII)Z", sig := { parameters := [.long, .int, .int, .int, .int], returnType := some .boolean }, accessFlags := 9, code := some k1c1 }
/-- com/example/overrule/overrule/audit/VerificationIntactPinLaw -/
def k1 : Class := { plain "com/example/overrule/overrule/audit/VerificationIntactPinLaw" (some 0) with
  accessFlags := 49
  interfaces := #[]
  cf := some (fileOf pool1 26 #[] #[{ accessFlags := 1, nameIndex := 5, descriptorIndex := 6, attributes := #[] }, { accessFlags := 9, nameIndex := 30, descriptorIndex := 31, attributes := #[] }] 49 2 #[] #[])
  fields := #[]
  methods := #[k1m0, k1m1]
  instanceTypes := #[]
  staticTypes := #[]
  resolved := Array.replicate 37 none
  statics := none }

def pool2 : Array CpInfo := pool [(1, .class_ 2), (0, u "java/io/Serializable"), (0, .class_ 4), (0, u "java/lang/Object")] 2

/-- java/io/Serializable -/
def k2 : Class := { plain "java/io/Serializable" (some 0) with
  accessFlags := 1537
  interfaces := #[]
  cf := some (fileOf pool2 1 #[] #[] 1537 3 #[] #[])
  fields := #[]
  methods := #[]
  instanceTypes := #[]
  staticTypes := #[]
  resolved := Array.replicate 7 none
  statics := none }

def pool3 : Array CpInfo := pool [(1, .class_ 2), (0, u "java/lang/Comparable"), (0, .class_ 4), (0, u "java/lang/Object")] 7

/-- java/lang/Comparable -/
def k3 : Class := { plain "java/lang/Comparable" (some 0) with
  accessFlags := 1537
  interfaces := #[]
  cf := some (fileOf pool3 1 #[] #[] 1537 3 #[] #[])
  fields := #[]
  methods := #[]
  instanceTypes := #[]
  staticTypes := #[]
  resolved := Array.replicate 12 none
  statics := none }

def pool4 : Array CpInfo := pool [(2, .class_ 4), (1, u "java/lang/CharSequence"), (42, .class_ 48), (0, u "java/lang/CharSequence$1CodePointIterator"), (10, .class_ 60), (0, u "java/lang/CharSequence$1CharIterator"), (5, .class_ 67), (0, u "java/lang/Object")] 63

/-- java/lang/CharSequence -/
def k4 : Class := { plain "java/lang/CharSequence" (some 0) with
  accessFlags := 1537
  interfaces := #[]
  cf := some (fileOf pool4 2 #[.nestMembers #[47, 59]] #[] 1537 66 #[] #[])
  fields := #[]
  methods := #[]
  instanceTypes := #[]
  staticTypes := #[]
  resolved := Array.replicate 131 none
  statics := none }

def pool5 : Array CpInfo := pool [(1, .class_ 2), (0, u "java/lang/constant/Constable"), (0, .class_ 4), (0, u "java/lang/Object")] 6

/-- java/lang/constant/Constable -/
def k5 : Class := { plain "java/lang/constant/Constable" (some 0) with
  accessFlags := 1537
  interfaces := #[]
  cf := some (fileOf pool5 1 #[] #[] 1537 3 #[] #[])
  fields := #[]
  methods := #[]
  instanceTypes := #[]
  staticTypes := #[]
  resolved := Array.replicate 11 none
  statics := none }

def pool6 : Array CpInfo := pool [(1, .class_ 2), (0, u "java/lang/constant/ConstantDesc"), (0, .class_ 4), (0, u "java/lang/Object")] 32

/-- java/lang/constant/ConstantDesc -/
def k6 : Class := { plain "java/lang/constant/ConstantDesc" (some 0) with
  accessFlags := 1537
  interfaces := #[]
  cf := some (fileOf pool6 1 #[] #[] 1537 3 #[] #[])
  fields := #[]
  methods := #[]
  instanceTypes := #[]
  staticTypes := #[]
  resolved := Array.replicate 37 none
  statics := none }

def pool7 : Array CpInfo := pool [(1, .methodref 2 3), (0, .class_ 4), (0, .nameAndType 5 6), (0, u "java/lang/Object"), (0, u "<init>"), (0, u "()V"), (0, .string 8), (0, u ""), (0, .fieldref 10 11), (0, .class_ 12), (0, .nameAndType 13 14), (0, u "java/lang/String"), (0, u "value"), (0, u "[B"), (0, .fieldref 10 16), (0, .nameAndType 17 18), (0, u "coder"), (0, u "B"), (2, u "hash"), (0, u "I"), (2, u "hashIsZero"), (0, u "Z"), (0, .methodref 10 28), (0, .nameAndType 5 29), (0, u "([CIILjava/lang/Void;)V"), (8, .fieldref 10 39), (0, .nameAndType 40 26), (0, u "COMPACT_STRINGS"), (1, .class_ 44), (1, u "java/lang/StringUTF16"), (0, u "compress"), (1, .methodref 42 48), (0, .nameAndType 49 50), (0, u "coderFromArrayLen"), (0, u "([BI)B"), (2, u "toBytes"), (53, .class_ 109), (1, u "java/lang/StringLatin1"), (67, .methodref 42 178), (0, .nameAndType 45 179), (0, u "([CII)[B"), (29, .methodref 10 210), (0, .nameAndType 5 211), (0, u "([BB)V"), (157, u "(C)Z"), (205, .class_ 576), (0, u "java/lang/CharSequence"), (22, u "CASE_INSENSITIVE_ORDER"), (0, u "Ljava/util/Comparator;"), (181, u "valueOf"), (0, u "(C)Ljava/lang/String;"), (226, u "([C)V"), (4, .methodref 107 1016), (0, .nameAndType 1017 369), (0, u "canEncode"), (0, .methodref 107 1019), (0, .nameAndType 53 1020), (0, u "(C)[B"), (80, u "serialPersistentFields"), (0, u "[Ljava/io/ObjectStreamField;"), (0, .class_ 1104), (0, u "java/lang/String$CaseInsensitiveComparator"), (1, .class_ 1107), (0, u "java/io/Serializable"), (0, .class_ 1109), (0, u "java/lang/Comparable"), (0, .class_ 1111), (0, u "java/lang/constant/Constable"), (0, .class_ 1113), (0, u "java/lang/constant/ConstantDesc"), (2, u "serialVersionUID"), (0, u "J"), (3, u "REPL"), (0, u "C"), (2, u "LATIN1"), (1, u "UTF16")] 323

def k7m0 : Method := { name := "<init>", desc := "()V", sig := { parameters := [], returnType := none }, accessFlags := 1, code := none }
def k7c1 : Code := { maxStack := 5, maxLocals := 2, code := jdk_42_method_3_code, exceptionTable := #[], attributes := #[] }
def k7m1 : Method := { name := "<init>", desc := "([C)V", sig := { parameters := [(.array .char)], returnType := none }, accessFlags := 1, code := some k7c1 }
def k7c2 : Code := { maxStack := 4, maxLocals := 1, code := jdk_42_method_139_code, exceptionTable := #[], attributes := #[] }
def k7m2 : Method := { name := "valueOf", desc := "(C)Ljava/lang/String;", sig := { parameters := [.char], returnType := some (.object "java/lang/String") }, accessFlags := 9, code := some k7c2 }
def k7c3 : Code := { maxStack := 4, maxLocals := 6, code := jdk_42_method_149_code, exceptionTable := #[], attributes := #[] }
def k7m3 : Method := { name := "<init>", desc := "([CIILjava/lang/Void;)V", sig := { parameters := [(.array .char), .int, .int, (.object "java/lang/Void")], returnType := none }, accessFlags := 2, code := some k7c3 }
def k7c4 : Code := { maxStack := 2, maxLocals := 3, code := jdk_42_method_151_code, exceptionTable := #[], attributes := #[] }
def k7m4 : Method := { name := "<init>", desc := "([BB)V", sig := { parameters := [(.array .byte), .byte], returnType := none }, accessFlags := 0, code := some k7c4 }
/-- java/lang/String -/
def k7 : Class := { plain "java/lang/String" (some 0) with
  accessFlags := 49
  interfaces := #[2, 3, 4, 5, 6]
  cf := some (fileOf pool7 10 #[.nestMembers #[1103]] #[{ accessFlags := 1, nameIndex := 5, descriptorIndex := 6, attributes := #[] }, { accessFlags := 1, nameIndex := 5, descriptorIndex := 1010, attributes := #[] }, { accessFlags := 9, nameIndex := 782, descriptorIndex := 783, attributes := #[] }, { accessFlags := 2, nameIndex := 5, descriptorIndex := 29, attributes := #[] }, { accessFlags := 0, nameIndex := 5, descriptorIndex := 211, attributes := #[] }] 49 2 #[1106, 1108, 575, 1110, 1112] #[{ accessFlags := 18, nameIndex := 13, descriptorIndex := 14, attributes := #[] }, { accessFlags := 18, nameIndex := 17, descriptorIndex := 18, attributes := #[] }, { accessFlags := 2, nameIndex := 21, descriptorIndex := 22, attributes := #[] }, { accessFlags := 2, nameIndex := 25, descriptorIndex := 26, attributes := #[] }, { accessFlags := 26, nameIndex := 1116, descriptorIndex := 1117, attributes := #[] }, { accessFlags := 24, nameIndex := 40, descriptorIndex := 26, attributes := #[] }, { accessFlags := 26, nameIndex := 1101, descriptorIndex := 1102, attributes := #[] }, { accessFlags := 26, nameIndex := 1121, descriptorIndex := 1122, attributes := #[] }, { accessFlags := 25, nameIndex := 599, descriptorIndex := 600, attributes := #[] }, { accessFlags := 24, nameIndex := 1125, descriptorIndex := 18, attributes := #[] }, { accessFlags := 24, nameIndex := 1127, descriptorIndex := 18, attributes := #[] }])
  fields := #[{ name := "value", type := (.array .byte), accessFlags := 18, slot := 0, constantValue := 0 }, { name := "coder", type := .byte, accessFlags := 18, slot := 1, constantValue := 0 }, { name := "hash", type := .int, accessFlags := 2, slot := 2, constantValue := 0 }, { name := "hashIsZero", type := .boolean, accessFlags := 2, slot := 3, constantValue := 0 }, { name := "serialVersionUID", type := .long, accessFlags := 26, slot := 0, constantValue := 0 }, { name := "COMPACT_STRINGS", type := .boolean, accessFlags := 24, slot := 1, constantValue := 0 }, { name := "serialPersistentFields", type := (.array (.object "java/io/ObjectStreamField")), accessFlags := 26, slot := 2, constantValue := 0 }, { name := "REPL", type := .char, accessFlags := 26, slot := 3, constantValue := 0 }, { name := "CASE_INSENSITIVE_ORDER", type := (.object "java/util/Comparator"), accessFlags := 25, slot := 4, constantValue := 0 }, { name := "LATIN1", type := .byte, accessFlags := 24, slot := 5, constantValue := 0 }, { name := "UTF16", type := .byte, accessFlags := 24, slot := 6, constantValue := 0 }]
  methods := #[k7m0, k7m1, k7m2, k7m3, k7m4]
  instanceTypes := #[(.array .byte), .byte, .int, .boolean]
  staticTypes := #[.long, .boolean, (.array (.object "java/io/ObjectStreamField")), .char, (.object "java/util/Comparator"), .byte, .byte]
  resolved := Array.replicate 1451 none
  statics := some 0 }

def pool8 : Array CpInfo := pool [(1, .methodref 2 3), (0, .class_ 4), (0, .nameAndType 5 6), (0, u "java/lang/Object"), (0, u "<init>"), (0, u "()V"), (0, .class_ 8), (0, u "java/lang/Record")] 13

def k8c0 : Code := { maxStack := 1, maxLocals := 1, code := jdk_30_method_1_code, exceptionTable := #[], attributes := #[] }
def k8m0 : Method := { name := "<init>", desc := "()V", sig := { parameters := [], returnType := none }, accessFlags := 4, code := some k8c0 }
/-- java/lang/Record -/
def k8 : Class := { plain "java/lang/Record" (some 0) with
  accessFlags := 1057
  interfaces := #[]
  cf := some (fileOf pool8 7 #[] #[{ accessFlags := 4, nameIndex := 5, descriptorIndex := 6, attributes := #[] }] 1057 2 #[] #[])
  fields := #[]
  methods := #[k8m0]
  instanceTypes := #[]
  staticTypes := #[]
  resolved := Array.replicate 22 none
  statics := none }

def pool9 : Array CpInfo := pool [(1, .methodref 2 3), (0, .class_ 4), (0, .nameAndType 5 6), (0, u "java/lang/Record"), (0, u "<init>"), (0, u "()V"), (0, .fieldref 8 9), (0, .class_ 10), (0, .nameAndType 11 12), (0, u "com/example/overrule/overrule/audit/Verification"), (0, u "records"), (0, u "J"), (0, .fieldref 8 14), (0, .nameAndType 15 16), (0, u "problem"), (0, u "Ljava/lang/String;"), (2, u "intact"), (0, u "()Z"), (19, u "(JLjava/lang/String;)V")] 42

def k9c0 : Code := { maxStack := 3, maxLocals := 4, code := prog_2_method_1_code, exceptionTable := #[], attributes := #[] }
def k9m0 : Method := { name := "<init>", desc := "(JLjava/lang/String;)V", sig := { parameters := [.long, (.object "java/lang/String")], returnType := none }, accessFlags := 1, code := some k9c0 }
def k9c1 : Code := { maxStack := 1, maxLocals := 1, code := prog_2_method_2_code, exceptionTable := #[], attributes := #[] }
def k9m1 : Method := { name := "intact", desc := "()Z", sig := { parameters := [], returnType := some .boolean }, accessFlags := 1, code := some k9c1 }
/-- com/example/overrule/overrule/audit/Verification -/
def k9 : Class := { plain "com/example/overrule/overrule/audit/Verification" (some 8) with
  accessFlags := 49
  interfaces := #[]
  cf := some (fileOf pool9 8 #[] #[{ accessFlags := 1, nameIndex := 5, descriptorIndex := 40, attributes := #[] }, { accessFlags := 1, nameIndex := 19, descriptorIndex := 20, attributes := #[] }] 49 2 #[] #[{ accessFlags := 18, nameIndex := 11, descriptorIndex := 12, attributes := #[] }, { accessFlags := 18, nameIndex := 15, descriptorIndex := 16, attributes := #[] }])
  fields := #[{ name := "records", type := .long, accessFlags := 18, slot := 0, constantValue := 0 }, { name := "problem", type := (.object "java/lang/String"), accessFlags := 18, slot := 1, constantValue := 0 }]
  methods := #[k9m0, k9m1]
  instanceTypes := #[.long, (.object "java/lang/String")]
  staticTypes := #[]
  resolved := Array.replicate 83 none
  statics := none }

def pool10 : Array CpInfo := pool [(6, .class_ 8), (1, u "java/lang/Object"), (0, u "<init>"), (0, u "()V"), (1, .class_ 14), (1, u "java/lang/StringUTF16"), (31, u "$assertionsDisabled"), (0, u "Z"), (13, u "HI_BYTE_SHIFT"), (0, u "I"), (2, u "LO_BYTE_SHIFT"), (49, .methodref 12 116), (0, .nameAndType 117 118), (0, u "compress"), (0, u "([CI[BII)I"), (3, u "([CII)[B"), (138, u "coderFromArrayLen"), (0, u "([BI)B"), (106, .class_ 371), (1, u "java/lang/StringUTF16$LinesSpliterator"), (58, u "MAX_LENGTH"), (196, .class_ 628), (0, u "java/lang/StringUTF16$CodePointsSpliterator"), (0, .class_ 630), (0, u "java/lang/StringUTF16$CharsSpliterator")] 4

def k10m0 : Method := { name := "<init>", desc := "()V", sig := { parameters := [], returnType := none }, accessFlags := 0, code := none }
def k10c1 : Code := { maxStack := 2, maxLocals := 2, code := jdk_52_method_15_code, exceptionTable := #[], attributes := #[] }
def k10m1 : Method := { name := "coderFromArrayLen", desc := "([BI)B", sig := { parameters := [(.array .byte), .int], returnType := some .byte }, accessFlags := 8, code := some k10c1 }
def k10c2 : Code := { maxStack := 5, maxLocals := 6, code := jdk_52_method_16_code, exceptionTable := #[], attributes := #[] }
def k10m2 : Method := { name := "compress", desc := "([CII)[B", sig := { parameters := [(.array .char), .int, .int], returnType := some (.array .byte) }, accessFlags := 9, code := some k10c2 }
def k10c3 : Code := { maxStack := 3, maxLocals := 7, code := jdk_52_method_21_code, exceptionTable := #[], attributes := #[] }
def k10m3 : Method := { name := "compress", desc := "([CI[BII)I", sig := { parameters := [(.array .char), .int, (.array .byte), .int, .int], returnType := some .int }, accessFlags := 9, code := some k10c3 }
/-- java/lang/StringUTF16 -/
def k10 : Class := { plain "java/lang/StringUTF16" (some 0) with
  accessFlags := 48
  interfaces := #[]
  cf := some (fileOf pool10 12 #[.nestMembers #[627, 629, 369]] #[{ accessFlags := 0, nameIndex := 9, descriptorIndex := 10, attributes := #[] }, { accessFlags := 8, nameIndex := 261, descriptorIndex := 262, attributes := #[] }, { accessFlags := 9, nameIndex := 117, descriptorIndex := 122, attributes := #[] }, { accessFlags := 9, nameIndex := 117, descriptorIndex := 118, attributes := #[] }] 48 6 #[] #[{ accessFlags := 26, nameIndex := 61, descriptorIndex := 62, attributes := #[] }, { accessFlags := 26, nameIndex := 65, descriptorIndex := 62, attributes := #[] }, { accessFlags := 24, nameIndex := 430, descriptorIndex := 62, attributes := #[] }, { accessFlags := 4120, nameIndex := 46, descriptorIndex := 47, attributes := #[] }])
  fields := #[{ name := "HI_BYTE_SHIFT", type := .int, accessFlags := 26, slot := 0, constantValue := 0 }, { name := "LO_BYTE_SHIFT", type := .int, accessFlags := 26, slot := 1, constantValue := 0 }, { name := "MAX_LENGTH", type := .int, accessFlags := 24, slot := 2, constantValue := 0 }, { name := "$assertionsDisabled", type := .boolean, accessFlags := 4120, slot := 3, constantValue := 0 }]
  methods := #[k10m0, k10m1, k10m2, k10m3]
  instanceTypes := #[]
  staticTypes := #[.int, .int, .int, .boolean]
  resolved := Array.replicate 635 none
  statics := none }

def pool11 : Array CpInfo := pool [(4, .class_ 6), (1, u "java/lang/Object"), (0, u "<init>"), (0, u "()V"), (5, .class_ 16), (1, u "java/lang/StringLatin1"), (73, u "canEncode"), (14, u "(C)Z"), (15, u "$assertionsDisabled"), (0, u "Z"), (98, .class_ 223), (1, u "java/lang/StringLatin1$LinesSpliterator"), (156, u "toBytes"), (1, u "(C)[B"), (7, .class_ 391), (0, u "java/lang/StringLatin1$CharsSpliterator")] 3

def k11m0 : Method := { name := "<init>", desc := "()V", sig := { parameters := [], returnType := none }, accessFlags := 0, code := none }
def k11c1 : Code := { maxStack := 2, maxLocals := 1, code := jdk_43_method_3_code, exceptionTable := #[], attributes := #[] }
def k11m1 : Method := { name := "canEncode", desc := "(C)Z", sig := { parameters := [.char], returnType := some .boolean }, accessFlags := 9, code := some k11c1 }
def k11c2 : Code := { maxStack := 4, maxLocals := 1, code := jdk_43_method_46_code, exceptionTable := #[], attributes := #[] }
def k11m2 : Method := { name := "toBytes", desc := "(C)[B", sig := { parameters := [.char], returnType := some (.array .byte) }, accessFlags := 9, code := some k11c2 }
/-- java/lang/StringLatin1 -/
def k11 : Class := { plain "java/lang/StringLatin1" (some 0) with
  accessFlags := 48
  interfaces := #[]
  cf := some (fileOf pool11 14 #[.nestMembers #[390, 221]] #[{ accessFlags := 0, nameIndex := 7, descriptorIndex := 8, attributes := #[] }, { accessFlags := 9, nameIndex := 90, descriptorIndex := 105, attributes := #[] }, { accessFlags := 9, nameIndex := 380, descriptorIndex := 382, attributes := #[] }] 48 4 #[] #[{ accessFlags := 4120, nameIndex := 121, descriptorIndex := 122, attributes := #[] }])
  fields := #[{ name := "$assertionsDisabled", type := .boolean, accessFlags := 4120, slot := 0, constantValue := 0 }]
  methods := #[k11m0, k11m1, k11m2]
  instanceTypes := #[]
  staticTypes := #[.boolean]
  resolved := Array.replicate 395 none
  statics := none }

def pool12 : Array CpInfo := pool [(2, .class_ 4), (1, u "java/lang/Object"), (0, u "<init>"), (0, u "()V"), (17, .class_ 26), (1, u "jdk/internal/util/Preconditions"), (28, .class_ 56), (0, u "jdk/internal/util/Preconditions$4"), (57, .class_ 115), (0, u "jdk/internal/util/Preconditions$1"), (7, u "SIOOBE_FORMATTER"), (0, u "Ljava/util/function/BiFunction;"), (0, .class_ 126), (0, u "jdk/internal/util/Preconditions$2"), (3, u "AIOOBE_FORMATTER"), (0, .class_ 132), (0, u "jdk/internal/util/Preconditions$3"), (3, u "IOOBE_FORMATTER")] 57

def k12m0 : Method := { name := "<init>", desc := "()V", sig := { parameters := [], returnType := none }, accessFlags := 1, code := none }
/-- jdk/internal/util/Preconditions -/
def k12 : Class := { plain "jdk/internal/util/Preconditions" (some 0) with
  accessFlags := 33
  interfaces := #[]
  cf := some (fileOf pool12 24 #[.nestMembers #[55, 131, 125, 114]] #[{ accessFlags := 1, nameIndex := 5, descriptorIndex := 6, attributes := #[] }] 33 2 #[] #[{ accessFlags := 25, nameIndex := 123, descriptorIndex := 124, attributes := #[] }, { accessFlags := 25, nameIndex := 130, descriptorIndex := 124, attributes := #[] }, { accessFlags := 25, nameIndex := 136, descriptorIndex := 124, attributes := #[] }])
  fields := #[{ name := "SIOOBE_FORMATTER", type := (.object "java/util/function/BiFunction"), accessFlags := 25, slot := 0, constantValue := 0 }, { name := "AIOOBE_FORMATTER", type := (.object "java/util/function/BiFunction"), accessFlags := 25, slot := 1, constantValue := 0 }, { name := "IOOBE_FORMATTER", type := (.object "java/util/function/BiFunction"), accessFlags := 25, slot := 2, constantValue := 0 }]
  methods := #[k12m0]
  instanceTypes := #[]
  staticTypes := #[(.object "java/util/function/BiFunction"), (.object "java/util/function/BiFunction"), (.object "java/util/function/BiFunction")]
  resolved := Array.replicate 194 none
  statics := some 1 }

def pool13 : Array CpInfo := pool [(9, u "<init>"), (6, .class_ 18), (1, u "java/lang/Object"), (0, u "()V"), (1, .class_ 23), (1, u "jdk/internal/util/ArraysSupport"), (0, u "LOG2_ARRAY_LONG_INDEX_SCALE"), (0, u "I"), (2, u "U"), (0, u "Ljdk/internal/misc/Unsafe;"), (8, u "BIG_ENDIAN"), (0, u "Z"), (8, u "LOG2_BYTE_BIT_SIZE"), (4, u "LOG2_ARRAY_INT_INDEX_SCALE"), (54, u "JLA"), (0, u "Ljdk/internal/access/JavaLangAccess;"), (11, u "LOG2_ARRAY_BOOLEAN_INDEX_SCALE"), (9, u "LOG2_ARRAY_BYTE_INDEX_SCALE"), (5, u "LOG2_ARRAY_CHAR_INDEX_SCALE"), (5, u "LOG2_ARRAY_SHORT_INDEX_SCALE"), (18, u "LOG2_ARRAY_FLOAT_INDEX_SCALE"), (24, u "LOG2_ARRAY_DOUBLE_INDEX_SCALE"), (89, u "T_BOOLEAN"), (2, u "T_CHAR"), (1, u "T_FLOAT"), (1, u "T_DOUBLE"), (1, u "T_BYTE"), (1, u "T_SHORT"), (1, u "T_INT"), (1, u "T_LONG"), (1, u "SOFT_MAX_ARRAY_LENGTH")] 83

def k13m0 : Method := { name := "<init>", desc := "()V", sig := { parameters := [], returnType := none }, accessFlags := 2, code := none }
/-- jdk/internal/util/ArraysSupport -/
def k13 : Class := { plain "jdk/internal/util/ArraysSupport" (some 0) with
  accessFlags := 33
  interfaces := #[]
  cf := some (fileOf pool13 21 #[] #[{ accessFlags := 2, nameIndex := 9, descriptorIndex := 19, attributes := #[] }] 33 16 #[] #[{ accessFlags := 24, nameIndex := 28, descriptorIndex := 29, attributes := #[] }, { accessFlags := 26, nameIndex := 38, descriptorIndex := 39, attributes := #[] }, { accessFlags := 25, nameIndex := 121, descriptorIndex := 25, attributes := #[] }, { accessFlags := 25, nameIndex := 131, descriptorIndex := 25, attributes := #[] }, { accessFlags := 25, nameIndex := 137, descriptorIndex := 25, attributes := #[] }, { accessFlags := 25, nameIndex := 143, descriptorIndex := 25, attributes := #[] }, { accessFlags := 25, nameIndex := 53, descriptorIndex := 25, attributes := #[] }, { accessFlags := 25, nameIndex := 24, descriptorIndex := 25, attributes := #[] }, { accessFlags := 25, nameIndex := 162, descriptorIndex := 25, attributes := #[] }, { accessFlags := 25, nameIndex := 187, descriptorIndex := 25, attributes := #[] }, { accessFlags := 26, nameIndex := 48, descriptorIndex := 25, attributes := #[] }, { accessFlags := 25, nameIndex := 277, descriptorIndex := 25, attributes := #[] }, { accessFlags := 25, nameIndex := 280, descriptorIndex := 25, attributes := #[] }, { accessFlags := 25, nameIndex := 282, descriptorIndex := 25, attributes := #[] }, { accessFlags := 25, nameIndex := 284, descriptorIndex := 25, attributes := #[] }, { accessFlags := 25, nameIndex := 286, descriptorIndex := 25, attributes := #[] }, { accessFlags := 25, nameIndex := 288, descriptorIndex := 25, attributes := #[] }, { accessFlags := 25, nameIndex := 290, descriptorIndex := 25, attributes := #[] }, { accessFlags := 25, nameIndex := 292, descriptorIndex := 25, attributes := #[] }, { accessFlags := 26, nameIndex := 108, descriptorIndex := 109, attributes := #[] }, { accessFlags := 25, nameIndex := 294, descriptorIndex := 25, attributes := #[] }])
  fields := #[{ name := "U", type := (.object "jdk/internal/misc/Unsafe"), accessFlags := 24, slot := 0, constantValue := 0 }, { name := "BIG_ENDIAN", type := .boolean, accessFlags := 26, slot := 1, constantValue := 0 }, { name := "LOG2_ARRAY_BOOLEAN_INDEX_SCALE", type := .int, accessFlags := 25, slot := 2, constantValue := 0 }, { name := "LOG2_ARRAY_BYTE_INDEX_SCALE", type := .int, accessFlags := 25, slot := 3, constantValue := 0 }, { name := "LOG2_ARRAY_CHAR_INDEX_SCALE", type := .int, accessFlags := 25, slot := 4, constantValue := 0 }, { name := "LOG2_ARRAY_SHORT_INDEX_SCALE", type := .int, accessFlags := 25, slot := 5, constantValue := 0 }, { name := "LOG2_ARRAY_INT_INDEX_SCALE", type := .int, accessFlags := 25, slot := 6, constantValue := 0 }, { name := "LOG2_ARRAY_LONG_INDEX_SCALE", type := .int, accessFlags := 25, slot := 7, constantValue := 0 }, { name := "LOG2_ARRAY_FLOAT_INDEX_SCALE", type := .int, accessFlags := 25, slot := 8, constantValue := 0 }, { name := "LOG2_ARRAY_DOUBLE_INDEX_SCALE", type := .int, accessFlags := 25, slot := 9, constantValue := 0 }, { name := "LOG2_BYTE_BIT_SIZE", type := .int, accessFlags := 26, slot := 10, constantValue := 0 }, { name := "T_BOOLEAN", type := .int, accessFlags := 25, slot := 11, constantValue := 0 }, { name := "T_CHAR", type := .int, accessFlags := 25, slot := 12, constantValue := 0 }, { name := "T_FLOAT", type := .int, accessFlags := 25, slot := 13, constantValue := 0 }, { name := "T_DOUBLE", type := .int, accessFlags := 25, slot := 14, constantValue := 0 }, { name := "T_BYTE", type := .int, accessFlags := 25, slot := 15, constantValue := 0 }, { name := "T_SHORT", type := .int, accessFlags := 25, slot := 16, constantValue := 0 }, { name := "T_INT", type := .int, accessFlags := 25, slot := 17, constantValue := 0 }, { name := "T_LONG", type := .int, accessFlags := 25, slot := 18, constantValue := 0 }, { name := "JLA", type := (.object "jdk/internal/access/JavaLangAccess"), accessFlags := 26, slot := 19, constantValue := 0 }, { name := "SOFT_MAX_ARRAY_LENGTH", type := .int, accessFlags := 25, slot := 20, constantValue := 0 }]
  methods := #[k13m0]
  instanceTypes := #[]
  staticTypes := #[(.object "jdk/internal/misc/Unsafe"), .boolean, .int, .int, .int, .int, .int, .int, .int, .int, .int, .int, .int, .int, .int, .int, .int, .int, .int, (.object "jdk/internal/access/JavaLangAccess"), .int]
  resolved := Array.replicate 378 none
  statics := none }

def pool14 : Array CpInfo := pool [(1, u "java/lang/Cloneable"), (0, .class_ 1), (0, u "java/lang/Object"), (0, .class_ 3)] 3

/-- java/lang/Cloneable -/
def k14 : Class := { plain "java/lang/Cloneable" (some 0) with
  accessFlags := 1537
  interfaces := #[]
  cf := some (fileOf pool14 2 #[] #[] 1537 4 #[] #[])
  fields := #[]
  methods := #[]
  instanceTypes := #[]
  staticTypes := #[]
  resolved := Array.replicate 8 none
  statics := none }

/-- the primitive byte -/
def k15 : Class := { plain "byte" none with kind := .primitive 'B', accessFlags := 0x411 }
/-- [B -/
def k16 : Class := { plain "[B" (some 0) with kind := .array 15 .byte, interfaces := #[14, 2], accessFlags := 1041 }

/-- the primitive char -/
def k17 : Class := { plain "char" none with kind := .primitive 'C', accessFlags := 0x411 }
/-- [C -/
def k18 : Class := { plain "[C" (some 0) with kind := .array 17 .char, interfaces := #[14, 2], accessFlags := 1041 }

/-- the primitive int -/
def k19 : Class := { plain "int" none with kind := .primitive 'I', accessFlags := 0x411 }
/-- [I -/
def k20 : Class := { plain "[I" (some 0) with kind := .array 19 .int, interfaces := #[14, 2], accessFlags := 1041 }

def heap : Heap := #[{ cls := 7, slots := #[.long 0, .int 1, .null, .int 0, .null, .int 0, .int 0], vm := .statics 7 },
  { cls := 12, slots := #[.null, .null, .null], vm := .statics 12 }]
def classes : Array Class := #[k0, k1, k2, k3, k4, k5, k6, k7, k8, k9, k10, k11, k12, k13, k14, k15, k16, k17, k18, k19, k20]
def interned : List (Array UInt16 × Addr) := []
def slotsUsed : Nat := 10
def theMethod : MethodId := ⟨1, 1⟩
def args0 : Array Value := #[.long 5, .int 5, .int 5, .int 6, .int 1]
def aboutOver (below : List Frame) : State where
  vm := { classes := classes, interned := interned.toArray }
  heap := heap
  slotsUsed := slotsUsed
  threads := #[{ frames := .invoking theMethod args0 :: below }]
def below0 : List Frame := [.native { method := ⟨0, 0⟩, args := #[] }]
def about1 : State := aboutOver below0
def p0 : Program := .bare "" "" ""
def e0 : Env := launch0.env 0 0 0
theorem w_frames : about1.frames = Frame.invoking theMethod args0 :: below0 := rfl
set_option maxRecDepth 65536 in
theorem w_args : argsFit about1.vm theMethod args0 = true := by decide +kernel
set_option maxRecDepth 65536 in
theorem w_heap : heapFits about1 = true := by decide +kernel
set_option maxRecDepth 65536 in
theorem w_runnable : about1.curStatus? = some .runnable := by decide +kernel
set_option maxRecDepth 65536 in
theorem w_alone : about1.alone = true := by decide +kernel
set_option maxRecDepth 65536 in
theorem w_named : about1.methodNamed? x = some theMethod := by decide +kernel
set_option maxRecDepth 65536 in
theorem w_hears : about1.hears theMethod below0 = true := by decide +kernel
set_option maxRecDepth 65536 in
theorem w_ripe : about1.ripe theMethod args0 below0 = true := by decide +kernel
theorem w_running : about1.status = .running := rfl
set_option maxRecDepth 65536 in
theorem w_room : about1.hasRoom e0.platform room_1 = true :=
  launch0.hasRoom_least _ room_1 (by decide +kernel) (by decide +kernel) (by decide +kernel) (by decide +kernel) (by decide +kernel) (by decide +kernel)
theorem allAtoms_all (ts : List Jvm.Cond) (a : Array Jvm.Value) (st : Jvm.State) : (allAtoms ts).before a st = ts.all (fun c => c.before a st) := by
  induction ts with
  | nil => rfl
  | cons c t ih =>
    show (Jvm.Cond.and c (allAtoms t)).before a st = _
    rw [Jvm.Cond.before_and, ih, List.all_cons]
def words1 : List Jvm.Cond := Jvm.Cond.code x code maxLocals ret :: tables_1
/-- a 'code' word, met by the world's own term for the bytes: nothing is compared byte by byte -/
theorem code_word {y : MethodName} {bytes : ByteArray} {mx : Nat} {rt : Option FieldType} {a : Array Value} {s : State} {m : MethodId} {meth : Method} {c : Code} (h1 : s.methodNamed? y = some m) (h2 : s.vm.method? m = some meth) (h3 : meth.code = some c) (h4 : c.code = bytes)
    (h5 : (c.maxLocals == mx && c.exceptionTable.isEmpty && decide (c.maxStack ≤ mostOperands) && decide (meth.sig.returnType = rt) && !meth.locks && decide (parseMethodDescriptor y.desc = some meth.sig)) = true) : (Jvm.Cond.code y bytes mx rt).before a s = true := by
  simp only [Bool.and_eq_true, beq_iff_eq, Bool.not_eq_true', decide_eq_true_eq] at h5
  obtain ⟨⟨⟨⟨⟨g1, g2⟩, g3⟩, g4⟩, g5⟩, g6⟩ := h5
  simp [Cond.before, Cond.holds, Cond.value, h1, h2, h3, h4, g1, g2, g3, g4, g5, g6]
def isCode : Jvm.Cond → Bool
  | .code _ _ _ _ => true
  | _ => false
theorem all_split {L : List Jvm.Cond} {P : Jvm.Cond → Bool} (h1 : L.all (fun c => isCode c || P c) = true) (h2 : ∀ c ∈ L.filter isCode, P c = true) : L.all P = true := by
  refine List.all_eq_true.mpr fun c hc => ?_
  have h := List.all_eq_true.mp h1 c hc
  rcases Bool.eq_false_or_eq_true (isCode c) with hi | hi
  · exact h2 c (List.mem_filter.mpr ⟨hc, hi⟩)
  · simpa [hi] using h
set_option maxRecDepth 65536 in
theorem w_c0 : (Jvm.Cond.code x code maxLocals ret).before args0 about1 = true := code_word (m := ⟨1, 1⟩) (meth := k1m1) (c := k1c1) (by decide +kernel) rfl rfl rfl (by decide +kernel)
set_option maxRecDepth 65536 in
theorem w_c1 : (Jvm.Cond.code ({ cls := "java/lang/String", name := "<init>", desc := "([C)V" } : Jvm.MethodName) jdk_42_method_3_code (2 : Nat) (Option.none : Option Jvm.ClassFile.FieldType)).before args0 about1 = true := code_word (m := ⟨7, 1⟩) (meth := k7m1) (c := k7c1) (by decide +kernel) rfl rfl rfl (by decide +kernel)
set_option maxRecDepth 65536 in
theorem w_c2 : (Jvm.Cond.code ({ cls := "java/lang/String", name := "<init>", desc := "([CIILjava/lang/Void;)V" } : Jvm.MethodName) jdk_42_method_149_code (6 : Nat) (Option.none : Option Jvm.ClassFile.FieldType)).before args0 about1 = true := code_word (m := ⟨7, 3⟩) (meth := k7m3) (c := k7c3) (by decide +kernel) rfl rfl rfl (by decide +kernel)
set_option maxRecDepth 65536 in
theorem w_c3 : (Jvm.Cond.code ({ cls := "java/lang/Object", name := "<init>", desc := "()V" } : Jvm.MethodName) object_method_1_code (1 : Nat) (Option.none : Option Jvm.ClassFile.FieldType)).before args0 about1 = true := code_word (m := ⟨0, 0⟩) (meth := k0m0) (c := k0c0) (by decide +kernel) rfl rfl rfl (by decide +kernel)
set_option maxRecDepth 65536 in
theorem w_c4 : (Jvm.Cond.code ({ cls := "com/example/overrule/overrule/audit/Verification", name := "<init>", desc := "(JLjava/lang/String;)V" } : Jvm.MethodName) prog_2_method_1_code (4 : Nat) (Option.none : Option Jvm.ClassFile.FieldType)).before args0 about1 = true := code_word (m := ⟨9, 0⟩) (meth := k9m0) (c := k9c0) (by decide +kernel) rfl rfl rfl (by decide +kernel)
set_option maxRecDepth 65536 in
theorem w_c5 : (Jvm.Cond.code ({ cls := "java/lang/Record", name := "<init>", desc := "()V" } : Jvm.MethodName) jdk_30_method_1_code (1 : Nat) (Option.none : Option Jvm.ClassFile.FieldType)).before args0 about1 = true := code_word (m := ⟨8, 0⟩) (meth := k8m0) (c := k8c0) (by decide +kernel) rfl rfl rfl (by decide +kernel)
set_option maxRecDepth 65536 in
theorem w_c6 : (Jvm.Cond.code ({ cls := "com/example/overrule/overrule/audit/Verification", name := "intact", desc := "()Z" } : Jvm.MethodName) prog_2_method_2_code (1 : Nat) (Option.some Jvm.ClassFile.FieldType.boolean)).before args0 about1 = true := code_word (m := ⟨9, 1⟩) (meth := k9m1) (c := k9c1) (by decide +kernel) rfl rfl rfl (by decide +kernel)
set_option maxRecDepth 65536 in
theorem w_c7 : (Jvm.Cond.code ({ cls := "java/lang/StringUTF16", name := "compress", desc := "([CII)[B" } : Jvm.MethodName) jdk_52_method_16_code (6 : Nat) (Option.some (Jvm.ClassFile.FieldType.array Jvm.ClassFile.FieldType.byte))).before args0 about1 = true := code_word (m := ⟨10, 2⟩) (meth := k10m2) (c := k10c2) (by decide +kernel) rfl rfl rfl (by decide +kernel)
set_option maxRecDepth 65536 in
theorem w_c8 : (Jvm.Cond.code ({ cls := "java/lang/StringUTF16", name := "compress", desc := "([CI[BII)I" } : Jvm.MethodName) jdk_52_method_21_code (7 : Nat) (Option.some Jvm.ClassFile.FieldType.int)).before args0 about1 = true := code_word (m := ⟨10, 3⟩) (meth := k10m3) (c := k10c3) (by decide +kernel) rfl rfl rfl (by decide +kernel)
set_option maxRecDepth 65536 in
theorem w_c9 : (Jvm.Cond.code ({ cls := "java/lang/StringUTF16", name := "coderFromArrayLen", desc := "([BI)B" } : Jvm.MethodName) jdk_52_method_15_code (2 : Nat) (Option.some Jvm.ClassFile.FieldType.byte)).before args0 about1 = true := code_word (m := ⟨10, 1⟩) (meth := k10m1) (c := k10c1) (by decide +kernel) rfl rfl rfl (by decide +kernel)
set_option maxRecDepth 65536 in
theorem w_c10 : (Jvm.Cond.code ({ cls := "java/lang/String", name := "valueOf", desc := "(C)Ljava/lang/String;" } : Jvm.MethodName) jdk_42_method_139_code (1 : Nat) (Option.some (Jvm.ClassFile.FieldType.object "java/lang/String"))).before args0 about1 = true := code_word (m := ⟨7, 2⟩) (meth := k7m2) (c := k7c2) (by decide +kernel) rfl rfl rfl (by decide +kernel)
set_option maxRecDepth 65536 in
theorem w_c11 : (Jvm.Cond.code ({ cls := "java/lang/StringLatin1", name := "canEncode", desc := "(C)Z" } : Jvm.MethodName) jdk_43_method_3_code (1 : Nat) (Option.some Jvm.ClassFile.FieldType.boolean)).before args0 about1 = true := code_word (m := ⟨11, 1⟩) (meth := k11m1) (c := k11c1) (by decide +kernel) rfl rfl rfl (by decide +kernel)
set_option maxRecDepth 65536 in
theorem w_c12 : (Jvm.Cond.code ({ cls := "java/lang/StringLatin1", name := "toBytes", desc := "(C)[B" } : Jvm.MethodName) jdk_43_method_46_code (1 : Nat) (Option.some (Jvm.ClassFile.FieldType.array Jvm.ClassFile.FieldType.byte))).before args0 about1 = true := code_word (m := ⟨11, 2⟩) (meth := k11m2) (c := k11c2) (by decide +kernel) rfl rfl rfl (by decide +kernel)
set_option maxRecDepth 65536 in
theorem w_c13 : (Jvm.Cond.code ({ cls := "java/lang/String", name := "<init>", desc := "([BB)V" } : Jvm.MethodName) jdk_42_method_151_code (3 : Nat) (Option.none : Option Jvm.ClassFile.FieldType)).before args0 about1 = true := code_word (m := ⟨7, 4⟩) (meth := k7m4) (c := k7c4) (by decide +kernel) rfl rfl rfl (by decide +kernel)
def codes1 : List Jvm.Cond := [Jvm.Cond.code x code maxLocals ret, Jvm.Cond.code ({ cls := "java/lang/String", name := "<init>", desc := "([C)V" } : Jvm.MethodName) jdk_42_method_3_code (2 : Nat) (Option.none : Option Jvm.ClassFile.FieldType), Jvm.Cond.code ({ cls := "java/lang/String", name := "<init>", desc := "([CIILjava/lang/Void;)V" } : Jvm.MethodName) jdk_42_method_149_code (6 : Nat) (Option.none : Option Jvm.ClassFile.FieldType), Jvm.Cond.code ({ cls := "java/lang/Object", name := "<init>", desc := "()V" } : Jvm.MethodName) object_method_1_code (1 : Nat) (Option.none : Option Jvm.ClassFile.FieldType), Jvm.Cond.code ({ cls := "com/example/overrule/overrule/audit/Verification", name := "<init>", desc := "(JLjava/lang/String;)V" } : Jvm.MethodName) prog_2_method_1_code (4 : Nat) (Option.none : Option Jvm.ClassFile.FieldType), Jvm.Cond.code ({ cls := "java/lang/Record", name := "<init>", desc := "()V" } : Jvm.MethodName) jdk_30_method_1_code (1 : Nat) (Option.none : Option Jvm.ClassFile.FieldType), Jvm.Cond.code ({ cls := "com/example/overrule/overrule/audit/Verification", name := "intact", desc := "()Z" } : Jvm.MethodName) prog_2_method_2_code (1 : Nat) (Option.some Jvm.ClassFile.FieldType.boolean), Jvm.Cond.code ({ cls := "java/lang/StringUTF16", name := "compress", desc := "([CII)[B" } : Jvm.MethodName) jdk_52_method_16_code (6 : Nat) (Option.some (Jvm.ClassFile.FieldType.array Jvm.ClassFile.FieldType.byte)), Jvm.Cond.code ({ cls := "java/lang/StringUTF16", name := "compress", desc := "([CI[BII)I" } : Jvm.MethodName) jdk_52_method_21_code (7 : Nat) (Option.some Jvm.ClassFile.FieldType.int), Jvm.Cond.code ({ cls := "java/lang/StringUTF16", name := "coderFromArrayLen", desc := "([BI)B" } : Jvm.MethodName) jdk_52_method_15_code (2 : Nat) (Option.some Jvm.ClassFile.FieldType.byte), Jvm.Cond.code ({ cls := "java/lang/String", name := "valueOf", desc := "(C)Ljava/lang/String;" } : Jvm.MethodName) jdk_42_method_139_code (1 : Nat) (Option.some (Jvm.ClassFile.FieldType.object "java/lang/String")), Jvm.Cond.code ({ cls := "java/lang/StringLatin1", name := "canEncode", desc := "(C)Z" } : Jvm.MethodName) jdk_43_method_3_code (1 : Nat) (Option.some Jvm.ClassFile.FieldType.boolean), Jvm.Cond.code ({ cls := "java/lang/StringLatin1", name := "toBytes", desc := "(C)[B" } : Jvm.MethodName) jdk_43_method_46_code (1 : Nat) (Option.some (Jvm.ClassFile.FieldType.array Jvm.ClassFile.FieldType.byte)), Jvm.Cond.code ({ cls := "java/lang/String", name := "<init>", desc := "([BB)V" } : Jvm.MethodName) jdk_42_method_151_code (3 : Nat) (Option.none : Option Jvm.ClassFile.FieldType)]
set_option maxRecDepth 65536 in
theorem codes_eq : words1.filter isCode = codes1 := rfl
theorem w_codes : ∀ c ∈ words1.filter isCode, c.before args0 about1 = true := by
  rw [codes_eq]
  intro c hc
  simp only [codes1, List.mem_cons, List.not_mem_nil, or_false] at hc
  rcases hc with rfl | rfl | rfl | rfl | rfl | rfl | rfl | rfl | rfl | rfl | rfl | rfl | rfl | rfl
  · exact w_c0
  · exact w_c1
  · exact w_c2
  · exact w_c3
  · exact w_c4
  · exact w_c5
  · exact w_c6
  · exact w_c7
  · exact w_c8
  · exact w_c9
  · exact w_c10
  · exact w_c11
  · exact w_c12
  · exact w_c13
set_option maxRecDepth 65536 in
theorem w_t1 : (words1.take 24).all (fun c => isCode c || c.before args0 about1) = true := by decide +kernel
set_option maxRecDepth 65536 in
theorem w_t2 : ((words1.drop 24).take 24).all (fun c => isCode c || c.before args0 about1) = true := by decide +kernel
set_option maxRecDepth 65536 in
theorem w_t3 : ((words1.drop 24).drop 24).all (fun c => isCode c || c.before args0 about1) = true := by decide +kernel
theorem w_tables : (allAtoms (Jvm.Cond.code x code maxLocals ret :: tables_1)).before args0 about1 = true := by
  rw [allAtoms_all]
  show words1.all (fun c => c.before args0 about1) = true
  refine all_split ?_ w_codes
  rw [← List.take_append_drop 24 words1, List.all_append, w_t1, ← List.take_append_drop 24 (words1.drop 24), List.all_append, w_t2, w_t3]
  rfl
set_option maxRecDepth 65536 in
theorem w_rest : rest_1_c.before args0 about1 = true := by decide +kernel
set_option maxRecDepth 65536 in
theorem w_case : (Jvm.Cond.and given_1 narrow_1).before args0 about1 = true := by decide +kernel
set_option maxRecDepth 65536 in
theorem w_consts : constsHeld consts_1 about1 := Jvm.Lit.constsHeldB_iff.mp (by decide +kernel)
theorem w_applies : (headSpec (Jvm.Cond.code x code maxLocals ret :: tables_1) room_1).applies x e0.platform about1 = true :=
  (Spec.applies_iff w_frames).mpr ⟨w_running, w_runnable, w_alone, w_named, w_hears, w_ripe, w_room, w_tables⟩
theorem atStart : AtStart classFile x code maxLocals ret World_1 tables_1 room_1 Calls_1 rest_1 Pre_1 launch0 p0 e0 about1 theMethod args0 below0 :=
  ⟨lists_1, trivial, launch0.admits_env _ _ _, launch0.least_env, fairChoices_fair.cas, fairChoices_fair.clock, w_frames, w_args, w_heap, w_applies, ⟨w_consts, trivial⟩, w_rest, w_case⟩
end start1
theorem witness_1 : WitnessClaimed_1 := ⟨start1.p0, start1.e0, start1.about1, start1.theMethod, start1.args0, start1.below0, start1.atStart⟩
end Jvm.Pilot.@@N@@
