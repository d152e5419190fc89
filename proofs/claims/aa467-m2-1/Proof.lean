import JvmDerived
import JvmDerived.Pilot.@@N@@Statement
import JvmDerived.Pilot.@@N@@Code
set_option linter.unusedVariables false
set_option linter.unusedSimpArgs false
/- laws to paste: Road.backV (cut by pick.py; bodies as the Statement names them) -/
namespace Jvm.Pilot.@@N@@
namespace StrChars
open Jvm Sem ClassFile Op Lib Jvm.Stand Jvm.Free.XT Jvm.Free.ALB Jvm.Free.JM Jvm.Free
open Jvm.Lib.Cold (StaticIs)
/-- a char array whose places are chars -/
def Ch (a : Addr) (A : Cell) (U : State) : Prop := Arr .char a A U ∧ Typed .char A
theorem Ch.mv {a : Addr} {A : Cell} {U U' : State} (h : Ch a A U) (hal : U.vm.Alike U'.vm) (hh : U'.heap = U.heap) : Ch a A U' := ⟨h.1.mv hal hh, h.2⟩
theorem Ch.keep {a : Addr} {A : Cell} {U U' : State} (h : Ch a A U) (hal : U.vm.Alike U'.vm) (hk : U'.heap[a]? = some A) : Ch a A U' := ⟨h.1.keep hal hk, h.2⟩
/-- what place i of a char[]'s cell holds -/
def cv (A : Cell) (i : Nat) : Int32 := match A.slots[i]? with | some (.int x) => x | _ => 0
theorem Ch.get {a : Addr} {A : Cell} {U : State} (h : Ch a A U) {i : Nat} (hi : i < A.slots.size) : A.slots[i]? = some (.int (cv A i)) := by
  have e := Array.getElem?_eq_getElem hi
  have f := h.2 i _ e
  unfold cv; rw [e]
  generalize A.slots[i] = v at f
  cases v <;> simp [fits] at f ⊢
/-- the byte that i2b leaves of a char -/
def lo8 (x : Int32) : Int32 := x.toInt8.toInt32
theorem fits_lo8 (y : Int32) : fits .byte (.int (lo8 y)) = true := by
  have h1 := y.toInt8.le_toInt
  have h2 := y.toInt8.toInt_lt
  simp only [lo8, fits, Bool.and_eq_true, decide_eq_true_eq, Int32.le_iff_toInt_le, Int8.toInt_toInt32, show (-128 : Int32).toInt = -128 from by decide, show (127 : Int32).toInt = 127 from by decide]
  omega
/-- A' is A but that each place j of lo .. hi - 1 holds f j -/
def Laid (A A' : Cell) (lo hi : Nat) (f : Nat → Value) : Prop := A'.cls = A.cls ∧ A'.vm = A.vm ∧ A'.slots.size = A.slots.size ∧ ∀ i, A'.slots[i]? = if lo ≤ i ∧ i < hi then some (f i) else A.slots[i]?
theorem Laid.zero (A : Cell) (lo : Nat) (f : Nat → Value) : Laid A A lo (lo + 0) f := ⟨rfl, rfl, rfl, fun i => by rw [if_neg (by omega)]⟩
theorem Laid.step {A Ak : Cell} {lo k : Nat} {f : Nat → Value} {v : Value} (h : Laid A Ak lo k f) (hlo : lo ≤ k) (hk : k < Ak.slots.size) (hv : v = f k) : Laid A (Ak.setSlot k v) lo (k + 1) f := by
  refine ⟨h.1, h.2.1, by simpa [Cell.setSlot] using h.2.2.1, fun i => ?_⟩
  by_cases e : k = i
  · subst e; rw [Cell.slots_setSlot_self v hk, if_pos (by omega), hv]
  · rw [Cell.slots_setSlot_ne v e, h.2.2.2 i]
    by_cases q : lo ≤ i ∧ i < k
    · rw [if_pos q, if_pos (by omega)]
    · rw [if_neg q, if_neg (by omega)]
def U16 : String := "java/lang/StringUTF16"
namespace Cmp5
def yN : MethodName := ⟨"java/lang/StringUTF16", "compress", "([CI[BII)I"⟩
abbrev yB : ByteArray := jdk_52_method_21_code
theorem d0 : decode yB 0 = .ok (.iconst 0, 1) := by decide +kernel
theorem d1 : decode yB 1 = .ok (.istore 5, 2) := by decide +kernel
theorem d3 : decode yB 3 = .ok (.iload 5, 2) := by decide +kernel
theorem d5 : decode yB 5 = .ok (.iload 4, 2) := by decide +kernel
theorem d7 : decode yB 7 = .ok (.if_icmp (.ge) 37, 3) := by decide +kernel
theorem d10 : decode yB 10 = .ok (.aload_n 0, 1) := by decide +kernel
theorem d11 : decode yB 11 = .ok (.iload_n 1, 1) := by decide +kernel
theorem d12 : decode yB 12 = .ok (.caload, 1) := by decide +kernel
theorem d13 : decode yB 13 = .ok (.istore 6, 2) := by decide +kernel
theorem d15 : decode yB 15 = .ok (.iload 6, 2) := by decide +kernel
theorem d17 : decode yB 17 = .ok (.sipush 255, 3) := by decide +kernel
theorem d20 : decode yB 20 = .ok (.if_icmp (.le) 6, 3) := by decide +kernel
theorem d26 : decode yB 26 = .ok (.aload_n 2, 1) := by decide +kernel
theorem d27 : decode yB 27 = .ok (.iload_n 3, 1) := by decide +kernel
theorem d28 : decode yB 28 = .ok (.iload 6, 2) := by decide +kernel
theorem d30 : decode yB 30 = .ok (.i2b, 1) := by decide +kernel
theorem d31 : decode yB 31 = .ok (.bastore, 1) := by decide +kernel
theorem d32 : decode yB 32 = .ok (.iinc 1 1, 3) := by decide +kernel
theorem d35 : decode yB 35 = .ok (.iinc 3 1, 3) := by decide +kernel
theorem d38 : decode yB 38 = .ok (.iinc 5 1, 3) := by decide +kernel
theorem d41 : decode yB 41 = .ok (.goto (-38), 3) := by decide +kernel
theorem d44 : decode yB 44 = .ok (.iload 4, 2) := by decide +kernel
theorem d46 : decode yB 46 = .ok (.ireturn, 1) := by decide +kernel
def site : List Cond := []
def tab : Cond := tabOf yN yB 7 (some .int) site
def P (b : Addr) (A : Cell) (d : Addr) (B : Cell) (o q len : Nat) (args : Array Value) (s : State) : Prop := args = #[.ref b, .int (Int32.ofNat o), .ref d, .int (Int32.ofNat q), .int (Int32.ofNat len)] ∧ Ch b A s ∧ Arr .byte d B s ∧ b ≠ d ∧ o + len ≤ A.slots.size ∧ q + len ≤ B.slots.size ∧ ∀ i, i < len → ¬ 255 < cv A (o + i)
def E (b : Addr) (A : Cell) (d : Addr) (B : Cell) (o q len : Nat) (r : Option Value) (s u : State) : Prop := r = some (.int (Int32.ofNat len)) ∧ ∃ B', Put d B' s u ∧ Laid B B' q (q + len) (fun j => Value.int (lo8 (cv A (o + (j - q)))))
/-- no char of the range above 255: len; the places written hold each char's low byte -/
theorem law (l : Launch) (b : Addr) (A : Cell) (d : Addr) (B : Cell) (o q len : Nat) : Law l yN 5 5 0 0 yB 7 (some .int) site (P b A d B o q len) (E b A d B o q len) (copyLocs d q len) 0 0 := by
  refine Law.of_walk (plainFor_of_name (by decide +kernel)) (by decide +kernel) (by decide +kernel) (by decide) (fun _ _ h => by rw [h.1]; rfl) (fun _ U U' hal hh h => ⟨h.1, h.2.1.mv hal hh, h.2.2.1.mv hal hh, h.2.2.2⟩) (fun r U U' V V' h1 hal h2 h => ⟨h.1, h.2.elim fun B' q => ⟨B', q.1.mv h1 h2, q.2⟩⟩) ?_
  intro p e s m args below meth c s₁ X0 hexec hbytes hml hret hlk hnm hown hh0 W hP
  obtain ⟨rfl, hA, hB, hne, l1, l2, hp⟩ := hP
  have c1 : Steps p.tables e below (s₁.setTop (entryFrame m #[.ref b, .int (Int32.ofNat o), .ref d, .int (Int32.ofNat q), .int (Int32.ofNat len)] 7)) (s₁.setTop (mkF m 0 #[.val (.ref b), .val (.int (Int32.ofNat o)), .val (.ref d), .val (.int (Int32.ofNat q)), .val (.int (Int32.ofNat len)), .unset, .unset] [])) := entry rfl
  have hA0 := hA.1.mv X0.warmed.alike hh0
  have hB0 := hB.mv X0.warmed.alike hh0
  have a31 := hA.1.2.2.2
  have c2 : Steps p.tables e below (s₁.setTop (entryFrame m #[.ref b, .int (Int32.ofNat o), .ref d, .int (Int32.ofNat q), .int (Int32.ofNat len)] 7)) (s₁.setTop (mkF m 3 #[.val (.ref b), .val (.int (Int32.ofNat o)), .val (.ref d), .val (.int (Int32.ofNat q)), .val (.int (Int32.ofNat len)), .val (.int 0), .unset] [])) := c1.trans (by
    refine iconstV X0.here hexec rfl 0 (hb hbytes d0) (by decide) ?_
    refine XS.istore X0.here hexec rfl (hb hbytes d1) rfl rfl ?_
    exact Steps.refl _)
  have loop : ∀ (r i : Nat), i + r = len → ∀ (z : Slot), (z = .unset ∨ ∃ w, z = .val w ∧ w.category = 1) → ∀ (Tl : State) (Bk : Cell), Stand p l e { frames := 0, locals := 0, cells := 0, slots := 0 } s m #[.ref b, .int (Int32.ofNat o), .ref d, .int (Int32.ofNat q), .int (Int32.ofNat len)] below meth c Tl ([] ++ copyLocs d q i) 0 0 → Put d Bk s₁ Tl → Laid B Bk q (q + i) (fun j => Value.int (lo8 (cv A (o + (j - q))))) →
      Steps p.tables e below (s₁.setTop (entryFrame m #[.ref b, .int (Int32.ofNat o), .ref d, .int (Int32.ofNat q), .int (Int32.ofNat len)] 7)) (Tl.setTop (mkF m 3 #[.val (.ref b), .val (.int (Int32.ofNat (o + i))), .val (.ref d), .val (.int (Int32.ofNat (q + i))), .val (.int (Int32.ofNat len)), .val (.int (Int32.ofNat i)), z] [])) → ∃ (T' : State) (B' : Cell) (z' : Slot), Stand p l e { frames := 0, locals := 0, cells := 0, slots := 0 } s m #[.ref b, .int (Int32.ofNat o), .ref d, .int (Int32.ofNat q), .int (Int32.ofNat len)] below meth c T' ([] ++ copyLocs d q len) 0 0 ∧ Put d B' s₁ T' ∧ Laid B B' q (q + len) (fun j => Value.int (lo8 (cv A (o + (j - q))))) ∧
      Steps p.tables e below (s₁.setTop (entryFrame m #[.ref b, .int (Int32.ofNat o), .ref d, .int (Int32.ofNat q), .int (Int32.ofNat len)] 7)) (T'.setTop (mkF m 3 #[.val (.ref b), .val (.int (Int32.ofNat (o + len))), .val (.ref d), .val (.int (Int32.ofNat (q + len))), .val (.int (Int32.ofNat len)), .val (.int (Int32.ofNat len)), z'] [])) := by
    intro r
    induction r with
    | zero =>
      intro i hi z hz Tl Bk Xl pl fl cl
      have hil : i = len := by omega
      rw [hil] at Xl fl cl
      exact ⟨Tl, Bk, z, Xl, pl, fl, cl⟩
    | succ r ih =>
      intro i hi z hz Tl Bk Xl pl fl cl
      have all := X0.warmed.alike.symm.trans Xl.warmed.alike
      have hAl := hA0.keep all (pl.other hne hA0.1)
      have hBk := hB0.like all pl.1 fl.1 fl.2.1 fl.2.2.1
      have hlt : q + i < Bk.slots.size := by rw [fl.2.2.1]; omega
      have c3 : Steps p.tables e below (s₁.setTop (entryFrame m #[.ref b, .int (Int32.ofNat o), .ref d, .int (Int32.ofNat q), .int (Int32.ofNat len)] 7)) (Tl.setTop (mkF m 12 #[.val (.ref b), .val (.int (Int32.ofNat (o + i))), .val (.ref d), .val (.int (Int32.ofNat (q + i))), .val (.int (Int32.ofNat len)), .val (.int (Int32.ofNat i)), z] [.int (Int32.ofNat (o + i)), .ref b])) := cl.trans (by
        refine XS.iload Xl.here hexec rfl (hb hbytes d3) rfl ?_
        refine XS.iload Xl.here hexec rfl (hb hbytes d5) rfl ?_
        refine XS.icmpNo Xl.here hexec rfl (hb hbytes d7) rfl (ii_ge_f (lt32 (by omega) (by omega))) ?_
        refine XS.aloadN Xl.here hexec rfl (hb hbytes d10) rfl rfl ?_
        refine XS.iloadN Xl.here hexec rfl (hb hbytes d11) rfl ?_
        exact Steps.refl _)
      have c4 : Steps p.tables e below (s₁.setTop (entryFrame m #[.ref b, .int (Int32.ofNat o), .ref d, .int (Int32.ofNat q), .int (Int32.ofNat len)] 7)) (Tl.setTop (mkF m 13 #[.val (.ref b), .val (.int (Int32.ofNat (o + i))), .val (.ref d), .val (.int (Int32.ofNat (q + i))), .val (.int (Int32.ofNat len)), .val (.int (Int32.ofNat i)), z] [.int (cv A (o + i))])) := c3.trans (by
        refine Xl.aget hexec hAl rfl (hA.get (i := o + i) (by omega)) rfl rfl (hb hbytes d12) ?_
        exact Steps.refl _)
      have c5 : Steps p.tables e below (s₁.setTop (entryFrame m #[.ref b, .int (Int32.ofNat o), .ref d, .int (Int32.ofNat q), .int (Int32.ofNat len)] 7)) (Tl.setTop (mkF m 15 #[.val (.ref b), .val (.int (Int32.ofNat (o + i))), .val (.ref d), .val (.int (Int32.ofNat (q + i))), .val (.int (Int32.ofNat len)), .val (.int (Int32.ofNat i)), .val (.int (cv A (o + i)))] [])) := c4.trans (by
        refine XS.istoreS Xl.here hexec rfl (hb hbytes d13) rfl rfl hz ?_
        exact Steps.refl _)
      have c6 : Steps p.tables e below (s₁.setTop (entryFrame m #[.ref b, .int (Int32.ofNat o), .ref d, .int (Int32.ofNat q), .int (Int32.ofNat len)] 7)) (Tl.setTop (mkF m 31 #[.val (.ref b), .val (.int (Int32.ofNat (o + i))), .val (.ref d), .val (.int (Int32.ofNat (q + i))), .val (.int (Int32.ofNat len)), .val (.int (Int32.ofNat i)), .val (.int (cv A (o + i)))] [.int (lo8 (cv A (o + i))), .int (Int32.ofNat (q + i)), .ref d])) := c5.trans (by
        refine XS.iload Xl.here hexec rfl (hb hbytes d15) rfl ?_
        refine sipushV Xl.here hexec rfl 255 (hb hbytes d17) (by decide) ?_
        refine XS.icmpYes Xl.here hexec rfl (pc0 := 20) rfl (hb hbytes d20) rfl (ii_le_t (hp i (by omega))) (by decide) rfl ?_
        refine XS.aloadN Xl.here hexec rfl (hb hbytes d26) rfl rfl ?_
        refine XS.iloadN Xl.here hexec rfl (hb hbytes d27) rfl ?_
        refine XS.iload Xl.here hexec rfl (hb hbytes d28) rfl ?_
        refine i2b Xl.here hexec rfl (hb hbytes d30) rfl ?_
        exact Steps.refl _)
      obtain ⟨T7, X7, p7, st7⟩ := Xl.aput hexec hBk rfl hlt rfl (fits_lo8 (cv A (o + i))) (g := (mkF m 31 #[.val (.ref b), .val (.int (Int32.ofNat (o + i))), .val (.ref d), .val (.int (Int32.ofNat (q + i))), .val (.int (Int32.ofNat len)), .val (.int (Int32.ofNat i)), .val (.int (cv A (o + i)))] [.int (lo8 (cv A (o + i))), .int (Int32.ofNat (q + i)), .ref d])) rfl (rest := []) rfl (hb hbytes d31)
      have c8 : Steps p.tables e below (s₁.setTop (entryFrame m #[.ref b, .int (Int32.ofNat o), .ref d, .int (Int32.ofNat q), .int (Int32.ofNat len)] 7)) (T7.setTop (mkF m 32 #[.val (.ref b), .val (.int (Int32.ofNat (o + i))), .val (.ref d), .val (.int (Int32.ofNat (q + i))), .val (.int (Int32.ofNat len)), .val (.int (Int32.ofNat i)), .val (.int (cv A (o + i)))] [])) := c6.trans (st7 _ (Steps.refl _))
      have c9 : Steps p.tables e below (s₁.setTop (entryFrame m #[.ref b, .int (Int32.ofNat o), .ref d, .int (Int32.ofNat q), .int (Int32.ofNat len)] 7)) (T7.setTop (mkF m 3 #[.val (.ref b), .val (.int (Int32.ofNat (o + i) + 1)), .val (.ref d), .val (.int (Int32.ofNat (q + i) + 1)), .val (.int (Int32.ofNat len)), .val (.int (Int32.ofNat i + 1)), .val (.int (cv A (o + i)))] [])) := c8.trans (by
        refine iincV X7.here hexec rfl 1 (hb hbytes d32) (by decide) rfl rfl ?_
        refine iincV X7.here hexec rfl 1 (hb hbytes d35) (by decide) rfl rfl ?_
        refine iincV X7.here hexec rfl 1 (hb hbytes d38) (by decide) rfl rfl ?_
        refine XS.goto X7.here hexec rfl (pc0 := 41) rfl (hb hbytes d41) (by decide) rfl ?_
        exact Steps.refl _)
      have c10 : Steps p.tables e below (s₁.setTop (entryFrame m #[.ref b, .int (Int32.ofNat o), .ref d, .int (Int32.ofNat q), .int (Int32.ofNat len)] 7)) (T7.setTop (mkF m 3 #[.val (.ref b), .val (.int (Int32.ofNat (o + (i + 1)))), .val (.ref d), .val (.int (Int32.ofNat (q + (i + 1)))), .val (.int (Int32.ofNat len)), .val (.int (Int32.ofNat (i + 1))), .val (.int (cv A (o + i)))] [])) := by
        have := c9
        rw [succ32, succ32, succ32] at this
        exact this
      exact ih (i + 1) (by omega) _ (Or.inr ⟨_, rfl, rfl⟩) T7 _ (by rw [copyLocs_step, ← List.append_assoc]; exact X7) (pl.trans p7) (fl.step (by omega) hlt (by simp)) c10
  obtain ⟨T9, B9, z9, X9, p9, f9, g9⟩ := loop len 0 (by omega) .unset (Or.inl rfl) s₁ B (by simpa [copyLocs] using X0) ⟨hB0.1, fun _ _ => rfl, rfl⟩ (Laid.zero _ _ _) c2
  have c11 : Steps p.tables e below (s₁.setTop (entryFrame m #[.ref b, .int (Int32.ofNat o), .ref d, .int (Int32.ofNat q), .int (Int32.ofNat len)] 7)) (T9.setTop (mkF m 46 #[.val (.ref b), .val (.int (Int32.ofNat (o + len))), .val (.ref d), .val (.int (Int32.ofNat (q + len))), .val (.int (Int32.ofNat len)), .val (.int (Int32.ofNat len)), z9] [.int (Int32.ofNat len)])) := g9.trans (by
    refine XS.iload X9.here hexec rfl (hb hbytes d3) rfl ?_
    refine XS.iload X9.here hexec rfl (hb hbytes d5) rfl ?_
    refine XS.icmpYes X9.here hexec rfl (pc0 := 7) rfl (hb hbytes d7) rfl (ii_ge_t (nlt32 (by omega) (Nat.le_refl _))) (by decide) rfl ?_
    refine XS.iload X9.here hexec rfl (hb hbytes d44) rfl ?_
    exact Steps.refl _)
  exact ⟨T9, some (.int (Int32.ofNat len)), _, _, _, X9, by simp, rfl, rfl, (fun h => by cases h), ⟨rfl, B9, p9.from hh0, f9⟩, fun fs hl => c11.trans (X9.ireturnOut hexec hret rfl (Or.inl rfl) (hb hbytes d46) hl)⟩
end Cmp5
namespace Cmp3
def yN : MethodName := ⟨"java/lang/StringUTF16", "compress", "([CII)[B"⟩
abbrev yB : ByteArray := jdk_52_method_16_code
theorem d0 : decode yB 0 = .ok (.iload_n 2, 1) := by decide +kernel
theorem d1 : decode yB 1 = .ok (.newarray .byte, 2) := by decide +kernel
theorem d3 : decode yB 3 = .ok (.astore_n 3, 1) := by decide +kernel
theorem d4 : decode yB 4 = .ok (.aload_n 0, 1) := by decide +kernel
theorem d5 : decode yB 5 = .ok (.iload_n 1, 1) := by decide +kernel
theorem d6 : decode yB 6 = .ok (.aload_n 3, 1) := by decide +kernel
theorem d7 : decode yB 7 = .ok (.iconst 0, 1) := by decide +kernel
theorem d8 : decode yB 8 = .ok (.iload_n 2, 1) := by decide +kernel
theorem d9 : decode yB 9 = .ok (.invokestatic 115, 3) := by decide +kernel
theorem d12 : decode yB 12 = .ok (.istore 4, 2) := by decide +kernel
theorem d14 : decode yB 14 = .ok (.iload 4, 2) := by decide +kernel
theorem d16 : decode yB 16 = .ok (.iload_n 2, 1) := by decide +kernel
theorem d17 : decode yB 17 = .ok (.if_icmp (.eq) 40, 3) := by decide +kernel
theorem d57 : decode yB 57 = .ok (.aload_n 3, 1) := by decide +kernel
theorem d58 : decode yB 58 = .ok (.areturn, 1) := by decide +kernel
def site : List Cond := [.arrayClass .byte, Cmp5.tab] ++ staticW U16 115 Cmp5.yN
def tab : Cond := tabOf yN yB 6 (some (.array .byte)) site
def P (b : Addr) (A : Cell) (o len : Nat) (args : Array Value) (s : State) : Prop := args = #[.ref b, .int (Int32.ofNat o), .int (Int32.ofNat len)] ∧ Ch b A s ∧ o + len ≤ A.slots.size ∧ len ≤ 536870912 ∧ ∀ i, i < len → ¬ 255 < cv A (o + i)
def E (b : Addr) (A : Cell) (o len : Nat) (r : Option Value) (s u : State) : Prop := NewArr .byte "[B" len (fun j => .int (lo8 (cv A (o + j)))) r s u ∧ u.heap.size = s.heap.size + 1
/-- no char of the range above 255: a new byte[] of their low bytes -/
theorem law (l : Launch) (b : Addr) (A : Cell) (o len : Nat) : Law l yN 3 3 1 18 yB 6 (some (.array .byte)) site (P b A o len) (E b A o len) [] 1 len := by
  refine Law.of_walk (plainFor_of_name (by decide +kernel)) (by decide +kernel) (by decide +kernel) (by decide) (fun _ _ h => by rw [h.1]; rfl) (fun _ U U' hal hh h => ⟨h.1, h.2.1.mv hal hh, h.2.2⟩) (fun r U U' V V' h1 hal h2 h => ⟨NewArr.mv r U U' V V' h1 hal h2 h.1, by rw [h1, h2]; exact h.2⟩) ?_
  intro p e s m args below meth c s₁ X0 hexec hbytes hml hret hlk hnm hown hh0 W hP
  obtain ⟨rfl, hA, l1, l2, hp⟩ := hP
  have a31 := hA.1.2.2.2
  have c1 : Steps p.tables e below (s₁.setTop (entryFrame m #[.ref b, .int (Int32.ofNat o), .int (Int32.ofNat len)] 6)) (s₁.setTop (mkF m 0 #[.val (.ref b), .val (.int (Int32.ofNat o)), .val (.int (Int32.ofNat len)), .unset, .unset, .unset] [])) := entry rfl
  have c2 : Steps p.tables e below (s₁.setTop (entryFrame m #[.ref b, .int (Int32.ofNat o), .int (Int32.ofNat len)] 6)) (s₁.setTop (mkF m 1 #[.val (.ref b), .val (.int (Int32.ofNat o)), .val (.int (Int32.ofNat len)), .unset, .unset, .unset] [.int (Int32.ofNat len)])) := c1.trans (by
    refine XS.iloadN X0.here hexec rfl (hb hbytes d0) rfl ?_
    exact Steps.refl _)
  obtain ⟨T3, B3, X3, ba3, bs3, bv3, bh3, bf3, st3⟩ := X0.anew hexec (atype := .byte) (wk W (.arrayClass .byte)) rfl (by show len * 1 ≤ _; omega) (by omega) (g := (mkF m 1 #[.val (.ref b), .val (.int (Int32.ofNat o)), .val (.int (Int32.ofNat len)), .unset, .unset, .unset] [.int (Int32.ofNat len)])) rfl (hb hbytes d1) (rest := []) rfl (Nat.le_refl _) (by show 0 + len ≤ len; omega)
  rw [hh0] at ba3 st3
  have kp3 : XT.Kept s T3 := (XT.Kept.of_eq hh0).push bh3
  have hA3 := hA.keep X3.warmed.alike (kp3 _ _ hA.1.1)
  have hne : b ≠ s.heap.size := hA.1.ne
  have c4 : Steps p.tables e below (s₁.setTop (entryFrame m #[.ref b, .int (Int32.ofNat o), .int (Int32.ofNat len)] 6)) (T3.setTop (mkF m 3 #[.val (.ref b), .val (.int (Int32.ofNat o)), .val (.int (Int32.ofNat len)), .unset, .unset, .unset] [.ref s.heap.size])) := c2.trans (st3 _ (Steps.refl _))
  have c5 : Steps p.tables e below (s₁.setTop (entryFrame m #[.ref b, .int (Int32.ofNat o), .int (Int32.ofNat len)] 6)) (T3.setTop (mkF m 9 #[.val (.ref b), .val (.int (Int32.ofNat o)), .val (.int (Int32.ofNat len)), .val (.ref s.heap.size), .unset, .unset] [.int (Int32.ofNat len), .int 0, .ref s.heap.size, .int (Int32.ofNat o), .ref b])) := c4.trans (by
    refine XS.astoreN X3.here hexec rfl (hb hbytes d3) rfl rfl rfl ?_
    refine XS.aloadN X3.here hexec rfl (hb hbytes d4) rfl rfl ?_
    refine XS.iloadN X3.here hexec rfl (hb hbytes d5) rfl ?_
    refine XS.aloadN X3.here hexec rfl (hb hbytes d6) rfl rfl ?_
    refine iconstV X3.here hexec rfl 0 (hb hbytes d7) (by decide) ?_
    refine XS.iloadN X3.here hexec rfl (hb hbytes d8) rfl ?_
    exact Steps.refl _)
  obtain ⟨v6, T6, X6, E6, g6⟩ := X3.callS hexec (Cmp5.law l b A s.heap.size B3 o 0 len) hown (wks W (staticW U16 115 Cmp5.yN)) (wk W Cmp5.tab) (W := 0) (Nat.le_of_ble_eq_true rfl) (Nat.le_of_ble_eq_true rfl) (Nat.le_refl _) (by show 0 + len + 0 ≤ len; omega) (g := (mkF m 9 #[.val (.ref b), .val (.int (Int32.ofNat o)), .val (.int (Int32.ofNat len)), .val (.ref s.heap.size), .unset, .unset] [.int (Int32.ofNat len), .int (Int32.ofNat 0), .ref s.heap.size, .int (Int32.ofNat o), .ref b])) rfl (by rw [hml]; rfl) c5 (argsL := [.ref b, .int (Int32.ofNat o), .ref s.heap.size, .int (Int32.ofNat 0), .int (Int32.ofNat len)]) (rest := []) rfl rfl (by show 2 * 0 + 0 ≤ _; decide) (hb hbytes d9) (⟨rfl, hA3, ba3, hne, l1, by rw [bs3]; simp, hp⟩)
  obtain ⟨rfl, B6, p6, f6⟩ := E6
  have c7 : Steps p.tables e below (s₁.setTop (entryFrame m #[.ref b, .int (Int32.ofNat o), .int (Int32.ofNat len)] 6)) (T6.setTop (mkF m 12 #[.val (.ref b), .val (.int (Int32.ofNat o)), .val (.int (Int32.ofNat len)), .val (.ref s.heap.size), .unset, .unset] [.int (Int32.ofNat len)])) := g6
  have c8 : Steps p.tables e below (s₁.setTop (entryFrame m #[.ref b, .int (Int32.ofNat o), .int (Int32.ofNat len)] 6)) (T6.setTop (mkF m 58 #[.val (.ref b), .val (.int (Int32.ofNat o)), .val (.int (Int32.ofNat len)), .val (.ref s.heap.size), .val (.int (Int32.ofNat len)), .unset] [.ref s.heap.size])) := c7.trans (by
    refine XS.istore X6.here hexec rfl (hb hbytes d12) rfl rfl ?_
    refine XS.iload X6.here hexec rfl (hb hbytes d14) rfl ?_
    refine XS.iloadN X6.here hexec rfl (hb hbytes d16) rfl ?_
    refine XS.icmpYes X6.here hexec rfl (pc0 := 17) rfl (hb hbytes d17) rfl (ii_eq_t rfl) (by decide) rfl ?_
    refine XS.aloadN X6.here hexec rfl (hb hbytes d57) rfl rfl ?_
    exact Steps.refl _)
  have X8 := X6.wide (L' := []) (cells' := 1) (slots' := len) (fun x hx hlt => by
    simp only [List.nil_append, copyLocs, List.mem_map, List.mem_range] at hx
    obtain ⟨i, -, rfl⟩ := hx
    exact absurd hlt (Nat.lt_irrefl _)) (Nat.le_refl _) (by omega)
  exact ⟨T6, some (.ref s.heap.size), _, _, _, X8, rfl, rfl, rfl, (fun h => by cases h), ⟨⟨rfl, B6, ba3.like (X3.warmed.alike.symm.trans X6.warmed.alike) p6.1 f6.1 f6.2.1 f6.2.2.1, f6.2.1.trans bv3, by rw [X6.warmed.alike.findClass, f6.1]; exact bf3, by rw [f6.2.2.1, bs3]; simp, fun j hj => by rw [f6.2.2.2 j, if_pos (by omega)]; rfl, kp3.put p6 (Nat.le_refl _)⟩, by rw [p6.2.2, bh3, hh0]; simp⟩, fun fs hl => c8.trans (X8.areturnOut hexec rfl hret rfl (hb hbytes d58) hl)⟩
end Cmp3
namespace CodL
def yN : MethodName := ⟨"java/lang/StringUTF16", "coderFromArrayLen", "([BI)B"⟩
abbrev yB : ByteArray := jdk_52_method_15_code
theorem d0 : decode yB 0 = .ok (.iload_n 1, 1) := by decide +kernel
theorem d1 : decode yB 1 = .ok (.aload_n 0, 1) := by decide +kernel
theorem d2 : decode yB 2 = .ok (.arraylength, 1) := by decide +kernel
theorem d3 : decode yB 3 = .ok (.isub, 1) := by decide +kernel
theorem d4 : decode yB 4 = .ok (.bipush 31, 2) := by decide +kernel
theorem d6 : decode yB 6 = .ok (.iushr, 1) := by decide +kernel
theorem d7 : decode yB 7 = .ok (.i2b, 1) := by decide +kernel
theorem d8 : decode yB 8 = .ok (.ireturn, 1) := by decide +kernel
def site : List Cond := []
def tab : Cond := tabOf yN yB 2 (some .byte) site
def P (d : Addr) (B : Cell) (args : Array Value) (s : State) : Prop := args = #[.ref d, .int (Int32.ofNat B.slots.size)] ∧ Arr .byte d B s
def E (r : Option Value) (s u : State) : Prop := XT.PureE (some (.int 0)) r s u
/-- an array as long as the number of chars: LATIN1 -/
theorem law (l : Launch) (d : Addr) (B : Cell) : Law l yN 2 2 0 0 yB 2 (some .byte) site (P d B) E [] 0 0 := by
  refine Law.of_walk (plainFor_of_name (by decide +kernel)) (by decide +kernel) (by decide +kernel) (by decide) (fun _ _ h => by rw [h.1]; rfl) (fun _ U U' hal hh h => ⟨h.1, h.2.mv hal hh⟩) (fun r U U' V V' h1 hal h2 h => XT.PureE.mv r U U' V V' h1 hal h2 h) ?_
  intro p e s m args below meth c s₁ X0 hexec hbytes hml hret hlk hnm hown hh0 W hP
  obtain ⟨rfl, hB⟩ := hP
  have hB0 := hB.mv X0.warmed.alike hh0
  have c1 : Steps p.tables e below (s₁.setTop (entryFrame m #[.ref d, .int (Int32.ofNat B.slots.size)] 2)) (s₁.setTop (mkF m 0 #[.val (.ref d), .val (.int (Int32.ofNat B.slots.size))] [])) := entry rfl
  have c2 : Steps p.tables e below (s₁.setTop (entryFrame m #[.ref d, .int (Int32.ofNat B.slots.size)] 2)) (s₁.setTop (mkF m 2 #[.val (.ref d), .val (.int (Int32.ofNat B.slots.size))] [.ref d, .int (Int32.ofNat B.slots.size)])) := c1.trans (by
    refine XS.iloadN X0.here hexec rfl (hb hbytes d0) rfl ?_
    refine XS.aloadN X0.here hexec rfl (hb hbytes d1) rfl rfl ?_
    exact Steps.refl _)
  have c3 : Steps p.tables e below (s₁.setTop (entryFrame m #[.ref d, .int (Int32.ofNat B.slots.size)] 2)) (s₁.setTop (mkF m 8 #[.val (.ref d), .val (.int (Int32.ofNat B.slots.size))] [.int (lo8 (ushr (Int32.ofNat B.slots.size - Int32.ofNat B.slots.size) 31))])) := c2.trans (by
    refine X0.alen hexec hB0 rfl rfl (hb hbytes d2) ?_
    refine XS.isub X0.here hexec rfl (hb hbytes d3) rfl ?_
    refine bipushV X0.here hexec rfl 31 (hb hbytes d4) (by decide) ?_
    refine iushr X0.here hexec rfl (hb hbytes d6) rfl ?_
    refine i2b X0.here hexec rfl (hb hbytes d7) rfl ?_
    exact Steps.refl _)
  have e0 : lo8 (ushr (Int32.ofNat B.slots.size - Int32.ofNat B.slots.size) 31) = 0 := by rw [Int32.sub_self]; decide
  rw [e0] at c3
  exact ⟨s₁, some (.int 0), _, _, _, X0, rfl, rfl, rfl, (fun h => by cases h), ⟨rfl, hh0⟩, fun fs hl => c3.trans (X0.ireturnOut hexec hret rfl (Or.inr (Or.inr (Or.inl rfl))) (hb hbytes d8) hl)⟩
end CodL
/-- the String at a is Latin-1 over a new byte[] (the heap's one new cell): the low bytes of the len chars of A from o on; every cell but a is kept -/
def Got (a : Addr) (D : Cell) (fV fC : Field) (A : Cell) (o len : Nat) (r : Option Value) (s u : State) : Prop := r = none ∧ ∃ D' V : Cell, Blank "java/lang/String" a D' u ∧ Same D D' [fV.slot, fC.slot] ∧ D'.slots[fV.slot]? = some (.ref s.heap.size) ∧ D'.slots[fC.slot]? = some (.int 0) ∧ Arr .byte s.heap.size V u ∧ V.vm = .none ∧ u.vm.findClass "[B" = some V.cls ∧ V.slots.size = len ∧ (∀ j, j < len → V.slots[j]? = some (.int (lo8 (cv A (o + j))))) ∧ (∀ (y : Addr) (c : Cell), y ≠ a → s.heap[y]? = some c → u.heap[y]? = some c) ∧ u.heap.size = s.heap.size + 1
theorem Got.mv {a : Addr} {D A : Cell} {fV fC : Field} {o len : Nat} : ∀ r (U U' V V' : State), U'.heap = U.heap → V.vm.Alike V'.vm → V'.heap = V.heap → Got a D fV fC A o len r U V → Got a D fV fC A o len r U' V' :=
  fun r U U' V V' h1 hal h2 ⟨e0, D', X, a1, a2, a3, a4, a5, a6, a7, a8, a9, a10, a11⟩ => ⟨e0, D', X, a1.mv hal h2, a2, by rw [h1]; exact a3, a4, by rw [h1]; exact a5.mv hal h2, a6, by rw [hal.findClass]; exact a7, a8, a9, by rw [h1, h2]; exact a10, by rw [h1, h2]; exact a11⟩
namespace New4
def yN : MethodName := ⟨"java/lang/String", "<init>", "([CIILjava/lang/Void;)V"⟩
abbrev yB : ByteArray := jdk_42_method_149_code
theorem d0 : decode yB 0 = .ok (.aload_n 0, 1) := by decide +kernel
theorem d1 : decode yB 1 = .ok (.invokespecial 1, 3) := by decide +kernel
theorem d4 : decode yB 4 = .ok (.iload_n 3, 1) := by decide +kernel
theorem d5 : decode yB 5 = .ok (.ifCond (.ne) 22, 3) := by decide +kernel
theorem d27 : decode yB 27 = .ok (.getstatic 38, 3) := by decide +kernel
theorem d30 : decode yB 30 = .ok (.ifCond (.eq) 28, 3) := by decide +kernel
theorem d33 : decode yB 33 = .ok (.aload_n 1, 1) := by decide +kernel
theorem d34 : decode yB 34 = .ok (.iload_n 2, 1) := by decide +kernel
theorem d35 : decode yB 35 = .ok (.iload_n 3, 1) := by decide +kernel
theorem d36 : decode yB 36 = .ok (.invokestatic 177, 3) := by decide +kernel
theorem d39 : decode yB 39 = .ok (.astore 5, 2) := by decide +kernel
theorem d41 : decode yB 41 = .ok (.aload_n 0, 1) := by decide +kernel
theorem d42 : decode yB 42 = .ok (.aload 5, 2) := by decide +kernel
theorem d44 : decode yB 44 = .ok (.iload_n 3, 1) := by decide +kernel
theorem d45 : decode yB 45 = .ok (.invokestatic 47, 3) := by decide +kernel
theorem d48 : decode yB 48 = .ok (.putfield 15, 3) := by decide +kernel
theorem d51 : decode yB 51 = .ok (.aload_n 0, 1) := by decide +kernel
theorem d52 : decode yB 52 = .ok (.aload 5, 2) := by decide +kernel
theorem d54 : decode yB 54 = .ok (.putfield 9, 3) := by decide +kernel
theorem d57 : decode yB 57 = .ok (.return_, 1) := by decide +kernel
def site : List Cond := [.fieldLink "java/lang/String" 38 "java/lang/String" "COMPACT_STRINGS" "Z", Cmp3.tab, CodL.tab, .laysFinal "java/lang/String" "java/lang/String" "value" "[B", .fieldLink "java/lang/String" 9 "java/lang/String" "value" "[B", .laysFinal "java/lang/String" "java/lang/String" "coder" "B", .fieldLink "java/lang/String" 15 "java/lang/String" "coder" "B"] ++ objW "java/lang/String" 1 ++ staticW "java/lang/String" 177 Cmp3.yN ++ staticW "java/lang/String" 47 CodL.yN
def tab : Cond := tabOf yN yB 6 none site
def P (a : Addr) (D : Cell) (fV fC : Field) (b : Addr) (A : Cell) (z : Int32) (o len : Nat) (args : Array Value) (s : State) : Prop := args = #[.ref a, .ref b, .int (Int32.ofNat o), .int (Int32.ofNat len), .null] ∧ Blank "java/lang/String" a D s ∧ Found "java/lang/String" "value" "[B" fV s ∧ Found "java/lang/String" "coder" "B" fC s ∧ Ch b A s ∧ StaticIs s "java/lang/String" "COMPACT_STRINGS" "Z" (.int z) ∧ ¬ z = 0 ∧ 0 < len ∧ o + len ≤ A.slots.size ∧ len ≤ 536870912 ∧ ∀ i, i < len → ¬ 255 < cv A (o + i)
def E (a : Addr) (D : Cell) (fV fC : Field) (A : Cell) (o len : Nat) (r : Option Value) (s u : State) : Prop := Got a D fV fC A o len r s u
/-- len > 0, no char of the range above 255: a Latin-1 String of their low bytes -/
theorem law (l : Launch) (a : Addr) (D : Cell) (fV fC : Field) (b : Addr) (A : Cell) (z : Int32) (o len : Nat) : Law l yN 5 4 2 35 yB 6 none site (P a D fV fC b A z o len) (E a D fV fC A o len) [⟨a, fC.slot⟩, ⟨a, fV.slot⟩] 1 len := by
  refine Law.of_walk (plainFor_of_name (by decide +kernel)) (by decide +kernel) (by decide +kernel) (by decide) (fun _ _ h => by rw [h.1]; rfl) (fun _ U U' hal hh h => ⟨h.1, h.2.1.mv hal hh, h.2.2.1.al hal, h.2.2.2.1.al hal, h.2.2.2.2.1.mv hal hh, h.2.2.2.2.2.1.there hal hh, h.2.2.2.2.2.2⟩) (fun r U U' V V' h1 hal h2 h => Got.mv r U U' V V' h1 hal h2 h) ?_
  intro p e s m args below meth c s₁ X0 hexec hbytes hml hret hlk hnm hown hh0 W hP
  obtain ⟨rfl, hB, f1, f2, hA, s1, hz, l0, l1, l2, hp⟩ := hP
  have a31 := hA.1.2.2.2
  have c1 : Steps p.tables e below (s₁.setTop (entryFrame m #[.ref a, .ref b, .int (Int32.ofNat o), .int (Int32.ofNat len), .null] 6)) (s₁.setTop (mkF m 0 #[.val (.ref a), .val (.ref b), .val (.int (Int32.ofNat o)), .val (.int (Int32.ofNat len)), .val .null, .unset] [])) := entry rfl
  have c2 : Steps p.tables e below (s₁.setTop (entryFrame m #[.ref a, .ref b, .int (Int32.ofNat o), .int (Int32.ofNat len), .null] 6)) (s₁.setTop (mkF m 1 #[.val (.ref a), .val (.ref b), .val (.int (Int32.ofNat o)), .val (.int (Int32.ofNat len)), .val .null, .unset] [.ref a])) := c1.trans (by
    refine XS.aloadN X0.here hexec rfl (hb hbytes d0) rfl rfl ?_
    exact Steps.refl _)
  obtain ⟨T3, X3, q3, st3⟩ := X0.oinit hexec hown (wks W (objW "java/lang/String" 1)) (g := (mkF m 1 #[.val (.ref a), .val (.ref b), .val (.int (Int32.ofNat o)), .val (.int (Int32.ofNat len)), .val .null, .unset] [.ref a])) rfl (by rw [hml]; rfl) (rest := []) rfl (hb hbytes d1) (W := 0) (by show 2 * 0 + 0 ≤ _; decide) (Nat.le_of_ble_eq_true rfl) (Nat.le_of_ble_eq_true rfl)
  have hh3 := q3.trans hh0
  have c4 : Steps p.tables e below (s₁.setTop (entryFrame m #[.ref a, .ref b, .int (Int32.ofNat o), .int (Int32.ofNat len), .null] 6)) (T3.setTop (mkF m 27 #[.val (.ref a), .val (.ref b), .val (.int (Int32.ofNat o)), .val (.int (Int32.ofNat len)), .val .null, .unset] [])) := (c2.trans (st3 _ (Steps.refl _))).trans (by
    refine XS.iloadN X3.here hexec rfl (hb hbytes d4) rfl ?_
    refine XS.ifYes X3.here hexec rfl (pc0 := 5) rfl (hb hbytes d5) rfl (i0_ne_t (nz32 (by omega) l0)) (by decide) rfl ?_
    exact Steps.refl _)
  obtain ⟨T5, X5, q5, st5⟩ := X3.sget hexec hown (wk W (.fieldLink "java/lang/String" 38 "java/lang/String" "COMPACT_STRINGS" "Z")) s1 (fun _ _ h => by rw [hh3]; exact h) (g := (mkF m 27 #[.val (.ref a), .val (.ref b), .val (.int (Int32.ofNat o)), .val (.int (Int32.ofNat len)), .val .null, .unset] [])) rfl (hb hbytes d27)
  have hh5 := q5.trans hh3
  have c6 : Steps p.tables e below (s₁.setTop (entryFrame m #[.ref a, .ref b, .int (Int32.ofNat o), .int (Int32.ofNat len), .null] 6)) (T5.setTop (mkF m 30 #[.val (.ref a), .val (.ref b), .val (.int (Int32.ofNat o)), .val (.int (Int32.ofNat len)), .val .null, .unset] [.int z])) := c4.trans (st5 _ (Steps.refl _))
  have c7 : Steps p.tables e below (s₁.setTop (entryFrame m #[.ref a, .ref b, .int (Int32.ofNat o), .int (Int32.ofNat len), .null] 6)) (T5.setTop (mkF m 36 #[.val (.ref a), .val (.ref b), .val (.int (Int32.ofNat o)), .val (.int (Int32.ofNat len)), .val .null, .unset] [.int (Int32.ofNat len), .int (Int32.ofNat o), .ref b])) := c6.trans (by
    refine XS.ifNo X5.here hexec rfl (hb hbytes d30) rfl (i0_eq_f hz) ?_
    refine XS.aloadN X5.here hexec rfl (hb hbytes d33) rfl rfl ?_
    refine XS.iloadN X5.here hexec rfl (hb hbytes d34) rfl ?_
    refine XS.iloadN X5.here hexec rfl (hb hbytes d35) rfl ?_
    exact Steps.refl _)
  obtain ⟨v8, T8, X8, E8, g8⟩ := X5.callS hexec (Cmp3.law l b A o len) hown (wks W (staticW "java/lang/String" 177 Cmp3.yN)) (wk W Cmp3.tab) (W := 0) (Nat.le_of_ble_eq_true rfl) (Nat.le_of_ble_eq_true rfl) (Nat.le_refl _) (by show 0 + len ≤ len; omega) (g := (mkF m 36 #[.val (.ref a), .val (.ref b), .val (.int (Int32.ofNat o)), .val (.int (Int32.ofNat len)), .val .null, .unset] [.int (Int32.ofNat len), .int (Int32.ofNat o), .ref b])) rfl (by rw [hml]; rfl) c7 (argsL := [.ref b, .int (Int32.ofNat o), .int (Int32.ofNat len)]) (rest := []) rfl rfl (by show 2 * 0 + 0 ≤ _; decide) (hb hbytes d36) (⟨rfl, hA.mv X5.warmed.alike hh5, l1, l2, hp⟩)
  obtain ⟨e8, z8⟩ := E8
  obtain ⟨rfl, N, n1, n2, n3, n4, n5, n6⟩ := NewArr.mv _ T5 s _ _ hh5.symm (Vm.Alike.refl _) rfl e8
  rw [hh5] at z8
  have hB1 := hB.keep X8.warmed.alike (n6 _ _ hB.1)
  have hne : s.heap.size ≠ a := (Nat.ne_of_lt (Array.getElem?_eq_some_iff.mp hB.1).1).symm
  have c9 : Steps p.tables e below (s₁.setTop (entryFrame m #[.ref a, .ref b, .int (Int32.ofNat o), .int (Int32.ofNat len), .null] 6)) (T8.setTop (mkF m 39 #[.val (.ref a), .val (.ref b), .val (.int (Int32.ofNat o)), .val (.int (Int32.ofNat len)), .val .null, .unset] [.ref s.heap.size])) := g8
  have c10 : Steps p.tables e below (s₁.setTop (entryFrame m #[.ref a, .ref b, .int (Int32.ofNat o), .int (Int32.ofNat len), .null] 6)) (T8.setTop (mkF m 45 #[.val (.ref a), .val (.ref b), .val (.int (Int32.ofNat o)), .val (.int (Int32.ofNat len)), .val .null, .val (.ref s.heap.size)] [.int (Int32.ofNat N.slots.size), .ref s.heap.size, .ref a])) := by
    have hc : Steps p.tables e below (s₁.setTop (entryFrame m #[.ref a, .ref b, .int (Int32.ofNat o), .int (Int32.ofNat len), .null] 6)) (T8.setTop (mkF m 45 #[.val (.ref a), .val (.ref b), .val (.int (Int32.ofNat o)), .val (.int (Int32.ofNat len)), .val .null, .val (.ref s.heap.size)] [.int (Int32.ofNat len), .ref s.heap.size, .ref a])) := c9.trans (by
      refine XS.astore X8.here hexec rfl (hb hbytes d39) rfl rfl rfl ?_
      refine XS.aloadN X8.here hexec rfl (hb hbytes d41) rfl rfl ?_
      refine XS.aload X8.here hexec rfl (hb hbytes d42) rfl rfl ?_
      refine XS.iloadN X8.here hexec rfl (hb hbytes d44) rfl ?_
      exact Steps.refl _)
    rw [n4]; exact hc
  obtain ⟨v11, T11, X11, E11, g11⟩ := X8.callS hexec (CodL.law l s.heap.size N) hown (wks W (staticW "java/lang/String" 47 CodL.yN)) (wk W CodL.tab) (W := 1) (Nat.le_of_ble_eq_true rfl) (Nat.le_of_ble_eq_true rfl) (Nat.le_refl _) (by show 0 + len + 0 ≤ len; omega) (g := (mkF m 45 #[.val (.ref a), .val (.ref b), .val (.int (Int32.ofNat o)), .val (.int (Int32.ofNat len)), .val .null, .val (.ref s.heap.size)] [.int (Int32.ofNat N.slots.size), .ref s.heap.size, .ref a])) rfl (by rw [hml]; rfl) c10 (argsL := [.ref s.heap.size, .int (Int32.ofNat N.slots.size)]) (rest := [.ref a]) rfl rfl (by show 2 * 0 + (1 + 0) ≤ _; decide) (hb hbytes d45) (⟨rfl, n1⟩)
  obtain ⟨rfl, q11⟩ := E11
  have hB11 := hB1.mv (X8.warmed.alike.symm.trans X11.warmed.alike) q11
  have c12 : Steps p.tables e below (s₁.setTop (entryFrame m #[.ref a, .ref b, .int (Int32.ofNat o), .int (Int32.ofNat len), .null] 6)) (T11.setTop (mkF m 48 #[.val (.ref a), .val (.ref b), .val (.int (Int32.ofNat o)), .val (.int (Int32.ofNat len)), .val .null, .val (.ref s.heap.size)] [.int 0, .ref a])) := g11
  obtain ⟨T13, X13, p13, bl13, sl13, st13⟩ := X11.finit hexec hown (wk W (.fieldLink "java/lang/String" 15 "java/lang/String" "coder" "B")) (Or.inr ⟨_, (wk W (.laysFinal "java/lang/String" "java/lang/String" "coder" "B"))⟩) (Or.inl ⟨rfl, hnm⟩) f2 (Or.inl rfl) hB11 (t := .byte) (by decide +kernel) rfl (g := (mkF m 48 #[.val (.ref a), .val (.ref b), .val (.int (Int32.ofNat o)), .val (.int (Int32.ofNat len)), .val .null, .val (.ref s.heap.size)] [.int 0, .ref a])) rfl (rest := []) rfl (hb hbytes d48)
  have c14 : Steps p.tables e below (s₁.setTop (entryFrame m #[.ref a, .ref b, .int (Int32.ofNat o), .int (Int32.ofNat len), .null] 6)) (T13.setTop (mkF m 54 #[.val (.ref a), .val (.ref b), .val (.int (Int32.ofNat o)), .val (.int (Int32.ofNat len)), .val .null, .val (.ref s.heap.size)] [.ref s.heap.size, .ref a])) := (c12.trans (st13 _ (Steps.refl _))).trans (by
    refine XS.aloadN X13.here hexec rfl (hb hbytes d51) rfl rfl ?_
    refine XS.aload X13.here hexec rfl (hb hbytes d52) rfl rfl ?_
    exact Steps.refl _)
  obtain ⟨T15, X15, p15, bl15, sl15, st15⟩ := X13.finit hexec hown (wk W (.fieldLink "java/lang/String" 9 "java/lang/String" "value" "[B")) (Or.inr ⟨_, (wk W (.laysFinal "java/lang/String" "java/lang/String" "value" "[B"))⟩) (Or.inl ⟨rfl, hnm⟩) f1 (Or.inl rfl) bl13 (t := (.array .byte)) (by decide +kernel) rfl (g := (mkF m 54 #[.val (.ref a), .val (.ref b), .val (.int (Int32.ofNat o)), .val (.int (Int32.ofNat len)), .val .null, .val (.ref s.heap.size)] [.ref s.heap.size, .ref a])) rfl (rest := []) rfl (hb hbytes d54)
  have c16 : Steps p.tables e below (s₁.setTop (entryFrame m #[.ref a, .ref b, .int (Int32.ofNat o), .int (Int32.ofNat len), .null] 6)) (T15.setTop (mkF m 57 #[.val (.ref a), .val (.ref b), .val (.int (Int32.ofNat o)), .val (.int (Int32.ofNat len)), .val .null, .val (.ref s.heap.size)] [])) := c14.trans (st15 _ (Steps.refl _))
  have ap := apart (Or.inr ⟨_, (wk W (.laysFinal "java/lang/String" "java/lang/String" "value" "[B"))⟩) (Or.inr ⟨_, (wk W (.laysFinal "java/lang/String" "java/lang/String" "coder" "B"))⟩) f1 f2 (t₁ := .array .byte) (t₂ := .byte) (by decide +kernel) (by decide +kernel) (by decide)
  have al := X8.warmed.alike.symm.trans X15.warmed.alike
  have n7 : T11.heap[s.heap.size]? = some N := by rw [q11]; exact n1.1
  exact ⟨T15, none, _, _, _, X15, by simp, rfl, by omega, (fun _ => rfl), ⟨rfl, _, N, bl15, ((Same.refl D _).set _ (by simp)).set _ (by simp), sl15, (Cell.slots_setSlot_ne _ ap).trans sl13, n1.keep al (p15.other hne (p13.other hne n7)), n2, by rw [al.findClass]; exact n3, n4, n5, fun y c h1 h2 => p15.other h1 (p13.other h1 (by rw [q11]; exact n6 y c h2)), by rw [p15.2.2, p13.2.2, q11]; exact z8⟩, fun fs hl => c16.trans (X15.returnOut hexec hret (hb hbytes d57) hl)⟩
end New4
namespace New1
def yN : MethodName := ⟨"java/lang/String", "<init>", "([C)V"⟩
abbrev yB : ByteArray := jdk_42_method_3_code
theorem d0 : decode yB 0 = .ok (.aload_n 0, 1) := by decide +kernel
theorem d1 : decode yB 1 = .ok (.aload_n 1, 1) := by decide +kernel
theorem d2 : decode yB 2 = .ok (.iconst 0, 1) := by decide +kernel
theorem d3 : decode yB 3 = .ok (.aload_n 1, 1) := by decide +kernel
theorem d4 : decode yB 4 = .ok (.arraylength, 1) := by decide +kernel
theorem d5 : decode yB 5 = .ok (.aconst_null, 1) := by decide +kernel
theorem d6 : decode yB 6 = .ok (.invokespecial 27, 3) := by decide +kernel
theorem d9 : decode yB 9 = .ok (.return_, 1) := by decide +kernel
def site : List Cond := [New4.tab] ++ initW "java/lang/String" 27 New4.yN
def tab : Cond := tabOf yN yB 2 none site
def P (a : Addr) (D : Cell) (fV fC : Field) (b : Addr) (A : Cell) (z : Int32) (args : Array Value) (s : State) : Prop := args = #[.ref a, .ref b] ∧ Blank "java/lang/String" a D s ∧ Found "java/lang/String" "value" "[B" fV s ∧ Found "java/lang/String" "coder" "B" fC s ∧ Ch b A s ∧ StaticIs s "java/lang/String" "COMPACT_STRINGS" "Z" (.int z) ∧ ¬ z = 0 ∧ 0 < A.slots.size ∧ A.slots.size ≤ 536870912 ∧ ∀ i, i < A.slots.size → ¬ 255 < cv A i
def E (a : Addr) (D : Cell) (fV fC : Field) (A : Cell) (r : Option Value) (s u : State) : Prop := Got a D fV fC A 0 A.slots.size r s u
/-- new String(chars), not empty, no char above 255: a Latin-1 String of their low bytes -/
theorem law (l : Launch) (a : Addr) (D : Cell) (fV fC : Field) (b : Addr) (A : Cell) (z : Int32) : Law l yN 2 1 3 52 yB 2 none site (P a D fV fC b A z) (E a D fV fC A) [⟨a, fC.slot⟩, ⟨a, fV.slot⟩] 1 A.slots.size := by
  refine Law.of_walk (plainFor_of_name (by decide +kernel)) (by decide +kernel) (by decide +kernel) (by decide) (fun _ _ h => by rw [h.1]; rfl) (fun _ U U' hal hh h => ⟨h.1, h.2.1.mv hal hh, h.2.2.1.al hal, h.2.2.2.1.al hal, h.2.2.2.2.1.mv hal hh, h.2.2.2.2.2.1.there hal hh, h.2.2.2.2.2.2⟩) (fun r U U' V V' h1 hal h2 h => Got.mv r U U' V V' h1 hal h2 h) ?_
  intro p e s m args below meth c s₁ X0 hexec hbytes hml hret hlk hnm hown hh0 W hP
  obtain ⟨rfl, hB, f1, f2, hA, s1, hz, l0, l2, hp⟩ := hP
  have c1 : Steps p.tables e below (s₁.setTop (entryFrame m #[.ref a, .ref b] 2)) (s₁.setTop (mkF m 0 #[.val (.ref a), .val (.ref b)] [])) := entry rfl
  have c2 : Steps p.tables e below (s₁.setTop (entryFrame m #[.ref a, .ref b] 2)) (s₁.setTop (mkF m 6 #[.val (.ref a), .val (.ref b)] [.null, .int (Int32.ofNat A.slots.size), .int 0, .ref b, .ref a])) := c1.trans (by
    refine XS.aloadN X0.here hexec rfl (hb hbytes d0) rfl rfl ?_
    refine XS.aloadN X0.here hexec rfl (hb hbytes d1) rfl rfl ?_
    refine iconstV X0.here hexec rfl 0 (hb hbytes d2) (by decide) ?_
    refine XS.aloadN X0.here hexec rfl (hb hbytes d3) rfl rfl ?_
    refine X0.alen hexec (hA.1.mv X0.warmed.alike hh0) rfl rfl (hb hbytes d4) ?_
    refine XS.aconstNull X0.here hexec rfl (hb hbytes d5) ?_
    exact Steps.refl _)
  obtain ⟨v3, T3, X3, E3, g3⟩ := X0.callN hexec (New4.law l a D fV fC b A z 0 A.slots.size) rfl hown (wks W (initW "java/lang/String" 27 New4.yN)) (W New4.tab (by simp only [site, List.mem_cons, List.mem_append, true_or, or_true])) (W := 0) (Nat.le_of_ble_eq_true rfl) (Nat.le_of_ble_eq_true rfl) (Nat.le_refl _) (by show 0 + A.slots.size ≤ A.slots.size; omega) (g := (mkF m 6 #[.val (.ref a), .val (.ref b)] [.null, .int (Int32.ofNat A.slots.size), .int (Int32.ofNat 0), .ref b, .ref a])) rfl (by rw [hml]; rfl) c2 (argsL := [.ref b, .int (Int32.ofNat 0), .int (Int32.ofNat A.slots.size), .null]) (rest := []) rfl rfl (by show 2 * 0 + 0 ≤ _; decide) (hb hbytes d6) (⟨rfl, hB.mv X0.warmed.alike hh0, f1.al X0.warmed.alike, f2.al X0.warmed.alike, hA.mv X0.warmed.alike hh0, s1.there X0.warmed.alike hh0, hz, l0, by omega, l2, fun i hi => by rw [Nat.zero_add]; exact hp i hi⟩)
  have e0 := Got.mv _ s₁ s _ _ hh0.symm (Vm.Alike.refl _) rfl E3
  obtain rfl := e0.1
  have c4 : Steps p.tables e below (s₁.setTop (entryFrame m #[.ref a, .ref b] 2)) (T3.setTop (mkF m 9 #[.val (.ref a), .val (.ref b)] [])) := g3
  exact ⟨T3, none, _, _, _, X3, by simp, rfl, by omega, (fun _ => rfl), e0, fun fs hl => c4.trans (X3.returnOut hexec hret (hb hbytes d9) hl)⟩
theorem pays {l : Launch} {R : Room} {p : Program} {e : Env} {below : List Frame} {s : State} {sargs : Array Value} {len W : Nat} (a : Addr) (D : Cell) (fV fC : Field) (b : Addr) (A : Cell) (z : Int32) (htab : tab.before sargs s = true) (hfr : 4 ≤ R.frames) (hlo : W + 65 ≤ R.locals) :
    Back l R p e below s sargs yN len W (fun A₁ a₁ => A₁.cells + 1 ≤ R.cells ∧ A₁.slots + A.slots.size ≤ R.slots ∧ P a D fV fC b A z a₁ A₁.U) (fun A₁ _ v₁ B₁ => E a D fV fC A v₁ A₁.U B₁.U ∧ B₁.locs = A₁.locs ++ [⟨a, fC.slot⟩, ⟨a, fV.slot⟩] ∧ B₁.cells = A₁.cells + 1 ∧ B₁.slots = A₁.slots + A.slots.size) :=
  (law l a D fV fC b A z).pays htab hfr (by omega)
end New1
end StrChars
namespace StrChars.Road
open Jvm Sem ClassFile Op Lib Jvm.Stand Jvm.Free Jvm.Free.XT
open Jvm.Lib.Cold (StaticIs)
abbrev ST : String := "java/lang/String"
/-- every table word that New1's law asks, flat -/
abbrev words : List Jvm.Cond := [.code New1.yN New1.yB 2 none, .initialized ST, .methodLink ST 27 New4.yN, .instanceMethod New4.yN,
  .code New4.yN New4.yB 6 none, .fieldLink ST 38 ST "COMPACT_STRINGS" "Z", .laysFinal ST ST "value" "[B", .fieldLink ST 9 ST "value" "[B", .laysFinal ST ST "coder" "B", .fieldLink ST 15 ST "coder" "B",
  .methodLink ST 1 Lib.objectInit, .instanceMethod Lib.objectInit, .code Lib.objectInit ⟨#[0xb1]⟩ 1 none, .methodLink ST 177 Cmp3.yN, .static Cmp3.yN, .methodLink ST 47 CodL.yN, .static CodL.yN,
  .code Cmp3.yN Cmp3.yB 6 (some (.array .byte)), .initialized U16, .arrayClass .byte, .methodLink U16 115 Cmp5.yN, .static Cmp5.yN, .code Cmp5.yN Cmp5.yB 7 (some .int), .code CodL.yN CodL.yB 2 (some .byte)]
theorem tab_of {a : Array Value} {s : State} (h : ∀ w ∈ words, w.before a s = true) : New1.tab.before a s = true := by
  have h5 : Cmp5.tab.before a s = true := unparts (wk h (.code Cmp5.yN Cmp5.yB 7 (some .int))) (wks h (.initialized Cmp5.yN.cls :: Cmp5.site))
  have hc : CodL.tab.before a s = true := unparts (wk h (.code CodL.yN CodL.yB 2 (some .byte))) (wks h (.initialized CodL.yN.cls :: CodL.site))
  have q5 : ∀ w ∈ Cmp5.tab :: words, w.before a s = true := fun w hw => (List.mem_cons.mp hw).elim (fun e => e ▸ h5) (h w)
  have h3 : Cmp3.tab.before a s = true := unparts (wk q5 (.code Cmp3.yN Cmp3.yB 6 (some (.array .byte)))) (wks q5 (.initialized Cmp3.yN.cls :: Cmp3.site))
  have q3 : ∀ w ∈ Cmp3.tab :: CodL.tab :: words, w.before a s = true := fun w hw => (List.mem_cons.mp hw).elim (fun e => e ▸ h3) fun hw => (List.mem_cons.mp hw).elim (fun e => e ▸ hc) (h w)
  have h4 : New4.tab.before a s = true := unparts (wk q3 (.code New4.yN New4.yB 6 none)) (wks q3 (.initialized New4.yN.cls :: New4.site))
  have q4 : ∀ w ∈ New4.tab :: words, w.before a s = true := fun w hw => (List.mem_cons.mp hw).elim (fun e => e ▸ h4) (h w)
  exact unparts (wk q4 (.code New1.yN New1.yB 2 none)) (wks q4 (.initialized New1.yN.cls :: New1.site))
/-- the words ride from the start Z to the walk's own state -/
theorem moved {Z s : State} {a0 args : Array Value} (hZ : Z.Warmed39 s.vm) (hw : ∀ d ∈ words, d.before a0 Z = true) : ∀ d ∈ words, d.before args s = true := fun d hd => by
  have q := hw d hd
  have t : ∀ d ∈ words, d = .arrayClass .byte ∨ (d.onTables && d.keepsFace) = true := by decide +kernel
  rcases t d hd with rfl | t
  · exact RoadKit.mvA hZ q
  · exact RoadKit.mv hZ q t
/-- WHAT COMES BACK, over the tables of the start Z: h the heap at the call, h' behind it -/
def Q (Z : State) (x : Addr) (A : Cell) (h : Heap) (v : Option Value) (h' : Heap) (L : List Loc) : Prop := v = none ∧ (∀ y ∈ L, y.base = x) ∧ RoadKit.Keep h h' [x] ∧ h'.size = h.size + 1 ∧ RoadKit.Exa Z h' x ST ∧ RoadKit.Fld Z h' x ST "value" "[B" (.ref h.size) ∧ RoadKit.Fld Z h' x ST "coder" "B" (.int 0) ∧
  (∃ V : Cell, RoadKit.Arr Z h' h.size V .byte ∧ V.vm = .none ∧ Z.vm.findClass "[B" = some V.cls ∧ V.slots.size = A.slots.size ∧ ∀ j, j < A.slots.size → V.slots[j]? = some (.int (lo8 (cv A j)))) ∧
  ∀ (O n d : String) (w : Value), RoadKit.Fld Z h x O n d w → RoadKit.slotOf Z O n d ≠ RoadKit.slotOf Z ST "value" "[B" → RoadKit.slotOf Z O n d ≠ RoadKit.slotOf Z ST "coder" "B" → RoadKit.Fld Z h' x O n d w
/-- **new String(chars) AT A CALL, IN THE ROAD'S FORM**: for specialBack behind newO: x the fresh String, b the char[] with the cell A -/
theorem back {p : Program} {l : Launch} {e : Env} {R : Room} {s : State} {args : Array Value} {below : List Frame} {len W : Nat} {Z : State} {a0 : Array Value} {h : Heap} (hZ : Z.Warmed39 s.vm) (hw : ∀ d ∈ words, d.before a0 Z = true) {kI : Nat} (wi : (Jvm.Cond.instantiable ST kI).before a0 Z = true)
    {x b : Addr} {A : Cell} {z : Int32} {v0 c0 : Value} (E : RoadKit.Exa Z h x ST) (V : RoadKit.Fld Z h x ST "value" "[B" v0) (C : RoadKit.Fld Z h x ST "coder" "B" c0) (K : RoadKit.Arr Z h b A .char) (hty : Typed .char A) (S : RoadKit.Sta Z h ST "COMPACT_STRINGS" "Z" (.int z)) (hz : ¬ z = 0)
    (l0 : 0 < A.slots.size) (l2 : A.slots.size ≤ 536870912) (hp : ∀ i, i < A.slots.size → ¬ 255 < cv A i) (hfr : 4 ≤ R.frames) (hlo : W + 65 ≤ R.locals) :
    Back l R p e below s args New1.yN len W (fun P a => a = #[.ref x, .ref b] ∧ P.U.heap = h ∧ P.cells + 1 ≤ R.cells ∧ P.slots + A.slots.size ≤ R.slots)
      (fun P _ v B => ∃ L, Q Z x A h v B.U.heap L ∧ B.locs = P.locs ++ L ∧ B.cells = P.cells + 1 ∧ B.slots = P.slots + A.slots.size) := by
  intro m meth c P g ig mk a X hg hsize hdg hW hn hp'
  obtain ⟨rfl, rfl, r1, r2⟩ := hp'
  have al : Z.vm.Alike P.U.vm := hZ.alike.trans X.warmed.alike
  obtain ⟨D, cfV, kV, iV, fV, hD, gV, stV, knV, obV, asV, slV⟩ := id V
  obtain ⟨D', cfC, kC, iC, fC, hD', gC, stC, -, -, asC, slC⟩ := id C
  cases hD.symm.trans hD'
  obtain ⟨D2, kD, e1, e2, e3, e4, e5⟩ := id E
  cases hD.symm.trans e1
  obtain ⟨c2, k2, i1, i2, i3, -⟩ := Cond.instantiable_spec wi
  cases e2.symm.trans i1
  cases e3.symm.trans i2
  obtain ⟨kU, u1, u2⟩ := al.2.2 _ _ e3
  have hB : Blank ST x D P.U := ⟨hD, ⟨knV, fun q hq => by rw [hq] at obV; cases obV⟩, by rw [al.findClass]; exact e2, kU, u1, by rw [u2]; exact i3, by rw [u2]; exact e5 i3⟩
  have F1 : Found ST "value" "[B" fV P.U := ⟨SBG.found_only al ⟨cfV, kV, iV, gV⟩, stV⟩
  have F2 : Found ST "coder" "B" fC P.U := ⟨SBG.found_only al ⟨cfC, kC, iC, gC⟩, stC⟩
  have hA : Ch b A P.U := ⟨⟨K.1, State.isArrayOf_alike al K.2.1, K.2.2, by omega⟩, hty⟩
  have hS : StaticIs P.U ST "COMPACT_STRINGS" "Z" (.int z) := by
    obtain ⟨cfS, iS, kS, fS, st, cS, t1, t2, t3, t4, t5, t6, t7⟩ := S
    exact StaticIs.there (s := { Z with heap := P.U.heap }) ⟨cfS, iS, kS, fS, st, cS, t1, t2, t3, t4, t5, (fun q => by rw [q] at t6; cases t6), t7⟩ al rfl
  obtain ⟨v, B, X', ⟨⟨hv, E', V', q1, q2, q3, q4, q5, q6, q7, q8, q9, q10, q11⟩, hl, hc, hs⟩, st⟩ := New1.pays x D fV fC b A z (tab_of (moved hZ hw)) hfr hlo m meth c P g ig mk _ X hg hsize hdg hW hn ⟨r1, r2, rfl, hB, F1, F2, hA, hS, hz, l0, l2, hp⟩
  have al' : Z.vm.Alike B.U.vm := hZ.alike.trans X'.warmed.alike
  have hsz : E'.slots.size = D.slots.size := by
    obtain ⟨-, -, -, kB, w1, w2, w3⟩ := q1
    obtain ⟨kB', y1, y2⟩ := al'.2.2 _ _ e3
    rw [q2.2.1] at w1
    cases w1.symm.trans y1
    rw [w3, e5 i3, y2]
  refine ⟨v, B, X', ⟨_, ⟨hv, ?_, ⟨by omega, fun y cy hy hn' => q10 y cy (by simpa using hn') hy, fun y cy hy => ?_⟩, q11, ⟨E', _, q1.1, by rw [q2.2.1]; exact e2, by rw [q2.2.1]; exact e3, by rw [q2.1]; exact obV, fun _ => by rw [hsz]; exact e5 i3⟩,
    ⟨E', cfV, kV, iV, fV, q1.1, gV, stV, by rw [q2.1]; exact knV, by rw [q2.1]; exact obV, by rw [q2.2.1]; exact asV, q3⟩, ⟨E', cfC, kC, iC, fC, q1.1, gC, stC, by rw [q2.1]; exact knV, by rw [q2.1]; exact obV, by rw [q2.2.1]; exact asC, q4⟩,
    ⟨V', ⟨q5.1, State.isArrayOf_alike al'.symm q5.2.1, q5.2.2.1⟩, q6, by rw [← al'.findClass]; exact q7, q8, fun j hj => by have := q9 j hj; rwa [Nat.zero_add] at this⟩, fun O n d w F n1 n2 => ?_⟩, hl, hc, hs⟩, st⟩
  · intro y hy
    simp only [List.mem_cons, List.not_mem_nil, or_false] at hy
    rcases hy with rfl | rfl <;> rfl
  · by_cases q : y = x
    · subst q
      cases hD.symm.trans hy
      exact ⟨E', q1.1, q2.2.1, q2.1, hsz⟩
    · exact ⟨cy, q10 y cy q hy, rfl, rfl, rfl⟩
  · obtain ⟨D3, cf, k, i, f, g1, g2, g3, g4, g5, g6, g7⟩ := F
    cases hD.symm.trans g1
    simp only [RoadKit.slotOf, g2, gV, gC, Option.map_some, Option.getD_some] at n1 n2
    exact ⟨E', cf, k, i, f, q1.1, g2, g3, by rw [q2.1]; exact g4, by rw [q2.1]; exact g5, by rw [q2.2.1]; exact g6, by rw [q2.2.2 f.slot (by simp [n1, n2])]; exact g7⟩
end StrChars.Road
namespace StrChars.Road
open Jvm Sem ClassFile Op Lib Jvm.Stand Jvm.Free Jvm.Free.XT
/-- WHAT COMES BACK, the byte[] as a list of values -/
def QA (Z : State) (x : Addr) (zn : Int32) (cs : List Int32) (h : Heap) (v : Option Value) (h' : Heap) (L : List Loc) : Prop := v = none ∧ (∀ y ∈ L, y.base = x) ∧ RoadKit.Keep h h' [x] ∧ h'.size = h.size + 1 ∧ RoadKit.Exa Z h' x ST ∧ RoadKit.Fld Z h' x ST "value" "[B" (.ref h.size) ∧ RoadKit.Fld Z h' x ST "coder" "B" (.int 0) ∧
  (∃ kb, Z.vm.findClass "[B" = some kb ∧ RoadKit.Arv Z h' h.size kb .byte zn (cs.map fun c => .int (lo8 c)) (.int 0)) ∧
  ∀ (O n d : String) (w : Value), RoadKit.Fld Z h x O n d w → RoadKit.slotOf Z O n d ≠ RoadKit.slotOf Z ST "value" "[B" → RoadKit.slotOf Z O n d ≠ RoadKit.slotOf Z ST "coder" "B" → RoadKit.Fld Z h' x O n d w
/-- **new String(chars) AT A CALL, THE ARRAYS AS LISTS**: the char[] at b holds cs, not empty, no char above 255 -/
theorem backArv {p : Program} {l : Launch} {e : Env} {R : Room} {s : State} {args : Array Value} {below : List Frame} {len W : Nat} {Z : State} {a0 : Array Value} {h : Heap} (hZ : Z.Warmed39 s.vm) (hw : ∀ d ∈ words, d.before a0 Z = true) {kI : Nat} (wi : (Jvm.Cond.instantiable ST kI).before a0 Z = true)
    {x b : Addr} {k : ClassId} {zn z : Int32} {cs : List Int32} {dv v0 c0 : Value} (E : RoadKit.Exa Z h x ST) (V : RoadKit.Fld Z h x ST "value" "[B" v0) (C : RoadKit.Fld Z h x ST "coder" "B" c0) (K : RoadKit.Arv Z h b k .char zn (cs.map Value.int) dv) (S : RoadKit.Sta Z h ST "COMPACT_STRINGS" "Z" (.int z)) (hz : ¬ z = 0)
    (hlen : zn.toNatClampNeg = cs.length) (h0 : 0 < cs.length) (hbig : cs.length ≤ 536870912) (hall : ∀ c ∈ cs, ¬ 255 < c) (hfr : 4 ≤ R.frames) (hlo : W + 65 ≤ R.locals) :
    Back l R p e below s args New1.yN len W (fun P a => a = #[.ref x, .ref b] ∧ P.U.heap = h ∧ P.cells + 1 ≤ R.cells ∧ P.slots + cs.length ≤ R.slots)
      (fun P _ v B => ∃ L, QA Z x zn cs h v B.U.heap L ∧ B.locs = P.locs ++ L ∧ B.cells = P.cells + 1 ∧ B.slots = P.slots + cs.length) := by
  obtain ⟨A, K1, K2, K3, K4, K5, K6⟩ := K
  have e : A.slots.size = cs.length := K3.trans hlen
  have hat : ∀ (i : Nat) (hi : i < cs.length), A.slots[i]? = some (.int cs[i]) := fun i hi => by rw [K5 i (by omega)]; simp [List.getD_eq_getElem?_getD, hi]
  have hcv : ∀ (i : Nat) (hi : i < cs.length), cv A i = cs[i] := fun i hi => by unfold cv; rw [hat i hi]
  have hty : Typed .char A := fun i v hv => by
    have hi : i < A.slots.size := (Array.getElem?_eq_some_iff.mp hv).1
    have q := K5 i hi
    rw [hv] at q
    rw [Option.some.inj q]
    exact K6 i hi
  refine Back.mono (back hZ hw wi E V C K1 hty S hz (by omega) (by omega) (fun i hi => by rw [hcv i (by omega)]; exact hall _ (List.getElem_mem _)) hfr hlo) (fun P a hp => ⟨hp.1, hp.2.1, hp.2.2.1, by rw [e]; exact hp.2.2.2⟩) (fun P a v B hp hq => ?_)
  obtain ⟨L, ⟨q1, q2, q3, q4, q5, q6, q7, ⟨V', v1, v2, v3, v4, v5⟩, q9⟩, hl, hc, hs⟩ := hq
  refine ⟨L, ⟨q1, q2, q3, q4, q5, q6, q7, ⟨V'.cls, v3, V', v1, rfl, by rw [v4, e, hlen], K4, fun i hi => ?_, fun i hi => ?_⟩, q9⟩, hl, hc, by rw [hs, e]⟩
  · have hi' : i < cs.length := by omega
    rw [v5 i (by omega), hcv i hi']; simp [List.getD_eq_getElem?_getD, hi']
  · have hi' : i < cs.length := by omega
    simp only [List.getD_eq_getElem?_getD, List.getElem?_map, List.getElem?_eq_getElem hi', Option.map_some, Option.getD_some]
    exact fits_lo8 _
end StrChars.Road
namespace StrChars.Road
open Jvm Sem ClassFile Op Lib Jvm.Stand Jvm.Free Jvm.Free.XT
/-- WHAT COMES BACK, in the writer's own shape -/
def QV (Z : State) (x : Addr) (N : Int32) (bs : List Int32) (h : Heap) (n0 : Nat) (v : Option Value) (h' : Heap) (L : List Loc) : Prop := v = none ∧ RoadKit.Fr n0 L ∧ RoadKit.Keep h h' [x] ∧ RoadKit.Exa Z h' x ST ∧ RoadKit.Fld Z h' x ST "coder" "B" (.int 0) ∧
  ∃ (t : Addr) (kb : ClassId), n0 ≤ t ∧ h.size ≤ t ∧ ¬ t = x ∧ RoadKit.Fld Z h' x ST "value" "[B" (.ref t) ∧ RoadKit.Arv Z h' t kb .byte N (bs.map Value.int) (.int 0)
/-- **new String(chars) AT A CALL, FOR THE WRITER**: a char[] of n known ints, each 0 to 255 -/
theorem backV {p : Program} {l : Launch} {e : Env} {R : Room} {s : State} {args : Array Value} {below : List Frame} {len W : Nat} {Z : State} {a0 : Array Value} {h : Heap} (hZ : Z.Warmed39 s.vm) (hw : ∀ d ∈ words, d.before a0 Z = true) {kI : Nat} (wi : (Jvm.Cond.instantiable ST kI).before a0 Z = true)
    {x b : Addr} {kC : ClassId} {cs bs : List Int32} {d v0 c0 : Value} {z N : Int32} {n n0 : Nat} (hx0 : n0 ≤ x) (hh0 : n0 ≤ h.size) (E : RoadKit.Exa Z h x ST) (V : RoadKit.Fld Z h x ST "value" "[B" v0) (C : RoadKit.Fld Z h x ST "coder" "B" c0) (K : RoadKit.Arv Z h b kC .char N (cs.map Value.int) d) (S : RoadKit.Sta Z h ST "COMPACT_STRINGS" "Z" (.int z)) (hz : ¬ z = 0)
    (hn : cs.length = n) (hN : N = Int32.ofNat n) (l0 : 0 < n) (l2 : n ≤ 4000) (hp : ∀ c ∈ cs, ¬ c < 0 ∧ ¬ (255 : Int32) < c) (hb : bs = cs.map (fun c => c.toInt8.toInt32)) (hfr : 4 ≤ R.frames) (hlo : W + 65 ≤ R.locals) :
    Back l R p e below s args (⟨"java/lang/String", "<init>", "([C)V"⟩ : MethodName) len W (fun P a => a = #[.ref x, .ref b] ∧ P.U.heap = h ∧ P.cells + 1 ≤ R.cells ∧ P.slots + n ≤ R.slots)
      (fun P _ v B => ∃ L, QV Z x N bs h n0 v B.U.heap L ∧ B.locs = P.locs ++ L ∧ B.cells = P.cells + 1 ∧ B.slots = P.slots + n) := by
  subst hn hN hb
  refine Back.mono (backArv hZ hw wi E V C K S hz (n32 (by omega)) l0 (by omega) (fun c hc => (hp c hc).2) hfr hlo) (fun P a hp => hp) (fun P a v B hp hq => ?_)
  obtain ⟨L, ⟨q1, q2, q3, q4, q5, q6, q7, ⟨kb, v1, v2⟩, q9⟩, hl, hc, hs⟩ := hq
  exact ⟨L, ⟨q1, fun y hy => by rw [q2 y hy]; exact hx0, q3, q5, q7, h.size, kb, hh0, Nat.le_refl _, Nat.ne_of_gt E.lt, q6, by rw [List.map_map]; exact v2⟩, hl, hc, hs⟩
end StrChars.Road
end Jvm.Pilot.@@N@@
namespace Jvm.Pilot.@@N@@
namespace Own
open Jvm Jvm.ClassFile Sem Op Lib Jvm.Free Jvm.Stand Jvm.LawKit Jvm.RoadKit
/-! A WALK READ FORWARDS. 'Owe .. G T g': from the state T with the frame g on top the invocation comes back, and G holds of what it leaves. Each step's rule asks what is owed behind the step. -/
def Owe (tb : Tables) (e : Env) (below : List Frame) (G : Outcome → State → Prop) (T : State) (g : JFrame) : Prop := ∃ u o, Steps tb e below (T.setTop g) u ∧ u.status = .running ∧ Ended u below o ∧ G o u
theorem Owe.by {tb : Tables} {e : Env} {below : List Frame} {G : Outcome → State → Prop} {T T' : State} {g g' : JFrame} (k : ∀ t, Steps tb e below (T'.setTop g') t → Steps tb e below (T.setTop g) t) (h : Owe tb e below G T' g') : Owe tb e below G T g := by
  obtain ⟨u, o, h1, h2⟩ := h
  exact ⟨u, o, k _ h1, h2⟩
theorem Owe.cast {tb : Tables} {e : Env} {below : List Frame} {G : Outcome → State → Prop} {T : State} {g g' : JFrame} (q : g = g') (h : Owe tb e below G T g') : Owe tb e below G T g := q ▸ h
section Plain
variable {tb : Tables} [Ours tb] {e : Env} {below : List Frame} {G : Outcome → State → Prop} {T : State} {m : MethodId} {c : Code} {pc : Nat} {Ls : Array Slot} {st : List Value}
theorem Owe.aloadN (h : At T m c below) (hx : tb.exec = Jvm.exec) {k : Fin 4} {v : Value} (hd : decode c.code pc = .ok (.aload_n k, 1)) (hl : Ls[k.val]? = some (.val v)) (hv : v.isRef = true) (go : Owe tb e below G T (mkF m (pc + 1) Ls (v :: st))) : Owe tb e below G T (mkF m pc Ls st) := Owe.by (fun t k => XS.aloadN h hx rfl hd hl hv k) go
theorem Owe.aload (h : At T m c below) (hx : tb.exec = Jvm.exec) {k : Nat} {v : Value} (hd : decode c.code pc = .ok (.aload k, 2)) (hl : Ls[k]? = some (.val v)) (hv : v.isRef = true) (go : Owe tb e below G T (mkF m (pc + 2) Ls (v :: st))) : Owe tb e below G T (mkF m pc Ls st) := Owe.by (fun t k => XS.aload h hx rfl hd hl hv k) go
theorem Owe.iloadN (h : At T m c below) (hx : tb.exec = Jvm.exec) {k : Fin 4} {v : Int32} (hd : decode c.code pc = .ok (.iload_n k, 1)) (hl : Ls[k.val]? = some (.val (.int v))) (go : Owe tb e below G T (mkF m (pc + 1) Ls (.int v :: st))) : Owe tb e below G T (mkF m pc Ls st) := Owe.by (fun t k => XS.iloadN h hx rfl hd hl k) go
theorem Owe.iload (h : At T m c below) (hx : tb.exec = Jvm.exec) {k : Nat} {v : Int32} (hd : decode c.code pc = .ok (.iload k, 2)) (hl : Ls[k]? = some (.val (.int v))) (go : Owe tb e below G T (mkF m (pc + 2) Ls (.int v :: st))) : Owe tb e below G T (mkF m pc Ls st) := Owe.by (fun t k => XS.iload h hx rfl hd hl k) go
theorem Owe.iconst (h : At T m c below) (hx : tb.exec = Jvm.exec) {i : Int} (hd : decode c.code pc = .ok (.iconst i, 1)) {w : Int32} (hw : (Int32.ofInt i) = w) (go : Owe tb e below G T (mkF m (pc + 1) Ls (.int w :: st))) : Owe tb e below G T (mkF m pc Ls st) := by subst hw; exact Owe.by (fun t k => XS.iconst h hx rfl hd k) go
theorem Owe.bipush (h : At T m c below) (hx : tb.exec = Jvm.exec) {i : Int} (hd : decode c.code pc = .ok (.bipush i, 2)) {w : Int32} (hw : (Int8.ofInt i).toInt32 = w) (go : Owe tb e below G T (mkF m (pc + 2) Ls (.int w :: st))) : Owe tb e below G T (mkF m pc Ls st) := by subst hw; exact Owe.by (fun t k => XS.bipush h hx rfl hd k) go
theorem Owe.sipush (h : At T m c below) (hx : tb.exec = Jvm.exec) {i : Int} (hd : decode c.code pc = .ok (.sipush i, 3)) {w : Int32} (hw : (Int16.ofInt i).toInt32 = w) (go : Owe tb e below G T (mkF m (pc + 3) Ls (.int w :: st))) : Owe tb e below G T (mkF m pc Ls st) := by subst hw; exact Owe.by (fun t k => XS.sipush h hx rfl hd k) go
theorem Owe.aconstNull (h : At T m c below) (hx : tb.exec = Jvm.exec) (hd : decode c.code pc = .ok (.aconst_null, 1)) (go : Owe tb e below G T (mkF m (pc + 1) Ls (.null :: st))) : Owe tb e below G T (mkF m pc Ls st) := Owe.by (fun t k => XS.aconstNull h hx rfl hd k) go
theorem Owe.iadd (h : At T m c below) (hx : tb.exec = Jvm.exec) {x y : Int32} {rest : List Value} (hd : decode c.code pc = .ok (.iadd, 1)) (hs : st = .int y :: .int x :: rest) (go : Owe tb e below G T (mkF m (pc + 1) Ls (.int (x + y) :: rest))) : Owe tb e below G T (mkF m pc Ls st) := Owe.by (fun t k => XS.iadd h hx rfl hd hs k) go
theorem Owe.isub (h : At T m c below) (hx : tb.exec = Jvm.exec) {x y : Int32} {rest : List Value} (hd : decode c.code pc = .ok (.isub, 1)) (hs : st = .int y :: .int x :: rest) (go : Owe tb e below G T (mkF m (pc + 1) Ls (.int (x - y) :: rest))) : Owe tb e below G T (mkF m pc Ls st) := Owe.by (fun t k => XS.isub h hx rfl hd hs k) go
theorem Owe.imul (h : At T m c below) (hx : tb.exec = Jvm.exec) {x y : Int32} {rest : List Value} (hd : decode c.code pc = .ok (.imul, 1)) (hs : st = .int y :: .int x :: rest) (go : Owe tb e below G T (mkF m (pc + 1) Ls (.int (x * y) :: rest))) : Owe tb e below G T (mkF m pc Ls st) := Owe.by (fun t k => XS.imul h hx rfl hd hs k) go
theorem Owe.iand (h : At T m c below) (hx : tb.exec = Jvm.exec) {x y : Int32} {rest : List Value} (hd : decode c.code pc = .ok (.iand, 1)) (hs : st = .int y :: .int x :: rest) (go : Owe tb e below G T (mkF m (pc + 1) Ls (.int (x &&& y) :: rest))) : Owe tb e below G T (mkF m pc Ls st) := Owe.by (fun t k => XS.iand h hx rfl hd hs k) go
theorem Owe.ior (h : At T m c below) (hx : tb.exec = Jvm.exec) {x : Int32} {y : Int32} {rest : List Value} (hd : decode c.code pc = .ok (.ior, 1)) (hs : st = .int y :: .int x :: rest) (go : Owe tb e below G T (mkF m (pc + 1) Ls (.int (x ||| y) :: rest))) : Owe tb e below G T (mkF m pc Ls st) := Owe.by (fun t k => XS.ior h hx rfl hd hs k) go
theorem Owe.ixor (h : At T m c below) (hx : tb.exec = Jvm.exec) {x : Int32} {y : Int32} {rest : List Value} (hd : decode c.code pc = .ok (.ixor, 1)) (hs : st = .int y :: .int x :: rest) (go : Owe tb e below G T (mkF m (pc + 1) Ls (.int (x ^^^ y) :: rest))) : Owe tb e below G T (mkF m pc Ls st) := Owe.by (fun t k => XS.ixor h hx rfl hd hs k) go
theorem Owe.ishl (h : At T m c below) (hx : tb.exec = Jvm.exec) {x : Int32} {y : Int32} {rest : List Value} (hd : decode c.code pc = .ok (.ishl, 1)) (hs : st = .int y :: .int x :: rest) (go : Owe tb e below G T (mkF m (pc + 1) Ls (.int (x <<< (y &&& 31)) :: rest))) : Owe tb e below G T (mkF m pc Ls st) := Owe.by (fun t k => XS.ishl h hx rfl hd hs k) go
theorem Owe.ishr (h : At T m c below) (hx : tb.exec = Jvm.exec) {x : Int32} {y : Int32} {rest : List Value} (hd : decode c.code pc = .ok (.ishr, 1)) (hs : st = .int y :: .int x :: rest) (go : Owe tb e below G T (mkF m (pc + 1) Ls (.int (x >>> (y &&& 31)) :: rest))) : Owe tb e below G T (mkF m pc Ls st) := Owe.by (fun t k => XS.ishr h hx rfl hd hs k) go
theorem Owe.iushr (h : At T m c below) (hx : tb.exec = Jvm.exec) {x : Int32} {y : Int32} {rest : List Value} (hd : decode c.code pc = .ok (.iushr, 1)) (hs : st = .int y :: .int x :: rest) (go : Owe tb e below G T (mkF m (pc + 1) Ls (.int ((x.toUInt32 >>> (y &&& 31).toUInt32).toInt32) :: rest))) : Owe tb e below G T (mkF m pc Ls st) := Owe.by (fun t k => XS.iushr h hx rfl hd hs k) go
theorem Owe.irem (h : At T m c below) (hx : tb.exec = Jvm.exec) {x y : Int32} {rest : List Value} (hd : decode c.code pc = .ok (.irem, 1)) (hs : st = .int y :: .int x :: rest) (hy : y ≠ 0) (go : Owe tb e below G T (mkF m (pc + 1) Ls (.int (x - (x / y) * y) :: rest))) : Owe tb e below G T (mkF m pc Ls st) := Owe.by (fun t k => XS.irem h hx rfl hd hs hy k) go
theorem Owe.idiv (h : At T m c below) (hx : tb.exec = Jvm.exec) {x y : Int32} {rest : List Value} (hd : decode c.code pc = .ok (.idiv, 1)) (hs : st = .int y :: .int x :: rest) (hy : y ≠ 0) (go : Owe tb e below G T (mkF m (pc + 1) Ls (.int (x / y) :: rest))) : Owe tb e below G T (mkF m pc Ls st) := Owe.by (fun t k => XS.idiv h hx rfl hd hs hy k) go
theorem Owe.ineg (h : At T m c below) (hx : tb.exec = Jvm.exec) {x : Int32} {rest : List Value} (hd : decode c.code pc = .ok (.ineg, 1)) (hs : st = .int x :: rest) (go : Owe tb e below G T (mkF m (pc + 1) Ls (.int (-x) :: rest))) : Owe tb e below G T (mkF m pc Ls st) := Owe.by (fun t k => XS.ineg h hx rfl hd hs k) go
theorem Owe.iinc (h : At T m c below) (hx : tb.exec = Jvm.exec) {k : Nat} {cst : Int} {x : Int32} {l' : Array Slot} (hd : decode c.code pc = .ok (.iinc k cst, 3)) (hl : Ls[k]? = some (.val (.int x))) (hl' : storeLocals Ls k (.int (x + Int32.ofInt cst)) = some l') (go : Owe tb e below G T (mkF m (pc + 3) l' st)) : Owe tb e below G T (mkF m pc Ls st) := Owe.by (fun t k => XS.iinc h hx rfl hd hl hl' k) go
theorem Owe.dup (h : At T m c below) (hx : tb.exec = Jvm.exec) {x : Value} {rest : List Value} (hd : decode c.code pc = .ok (.dup, 1)) (hs : st = x :: rest) (hc : x.category = 1) (go : Owe tb e below G T (mkF m (pc + 1) Ls (x :: x :: rest))) : Owe tb e below G T (mkF m pc Ls st) := Owe.by (fun t k => XS.dup h hx rfl hd hs hc k) go
theorem Owe.pop (h : At T m c below) (hx : tb.exec = Jvm.exec) {x : Value} {rest : List Value} (hd : decode c.code pc = .ok (.pop, 1)) (hs : st = x :: rest) (hc : x.category = 1) (go : Owe tb e below G T (mkF m (pc + 1) Ls rest)) : Owe tb e below G T (mkF m pc Ls st) := Owe.by (fun t k => XS.pop h hx rfl hd hs hc k) go
theorem Owe.dupX1 (h : At T m c below) (hx : tb.exec = Jvm.exec) {x y : Value} {rest : List Value} (hd : decode c.code pc = .ok (.dup_x1, 1)) (hs : st = x :: y :: rest) (hc : x.category = 1) (hc2 : y.category = 1) (go : Owe tb e below G T (mkF m (pc + 1) Ls (x :: y :: x :: rest))) : Owe tb e below G T (mkF m pc Ls st) := Owe.by (fun t k => XS.dupX1 h hx rfl hd hs hc hc2 k) go
theorem Owe.dup2 (h : At T m c below) (hx : tb.exec = Jvm.exec) {x y : Value} {rest : List Value} (hd : decode c.code pc = .ok (.dup2, 1)) (hs : st = x :: y :: rest) (hc : x.category = 1) (hc' : y.category = 1) (go : Owe tb e below G T (mkF m (pc + 1) Ls (x :: y :: x :: y :: rest))) : Owe tb e below G T (mkF m pc Ls st) := Owe.by (fun t k => Jvm.Free.XT.dup2 h hx rfl hd hs hc hc' k) go
theorem Owe.istoreN (h : At T m c below) (hx : tb.exec = Jvm.exec) {k : Fin 4} {x : Int32} {rest : List Value} {l' : Array Slot} (hd : decode c.code pc = .ok (.istore_n k, 1)) (hs : st = .int x :: rest) (hl : storeLocals Ls k.val (.int x) = some l') (go : Owe tb e below G T (mkF m (pc + 1) l' rest)) : Owe tb e below G T (mkF m pc Ls st) := Owe.by (fun t k => XS.istoreN h hx rfl hd hs hl k) go
theorem Owe.istore (h : At T m c below) (hx : tb.exec = Jvm.exec) {k : Nat} {x : Int32} {rest : List Value} {l' : Array Slot} (hd : decode c.code pc = .ok (.istore k, 2)) (hs : st = .int x :: rest) (hl : storeLocals Ls k (.int x) = some l') (go : Owe tb e below G T (mkF m (pc + 2) l' rest)) : Owe tb e below G T (mkF m pc Ls st) := Owe.by (fun t k => XS.istore h hx rfl hd hs hl k) go
theorem Owe.astoreN (h : At T m c below) (hx : tb.exec = Jvm.exec) {k : Fin 4} {x : Value} {rest : List Value} {l' : Array Slot} (hd : decode c.code pc = .ok (.astore_n k, 1)) (hs : st = x :: rest) (hv : x.isRef = true) (hl : storeLocals Ls k.val x = some l') (go : Owe tb e below G T (mkF m (pc + 1) l' rest)) : Owe tb e below G T (mkF m pc Ls st) := Owe.by (fun t k => XS.astoreN h hx rfl hd hs hv hl k) go
theorem Owe.astore (h : At T m c below) (hx : tb.exec = Jvm.exec) {k : Nat} {x : Value} {rest : List Value} {l' : Array Slot} (hd : decode c.code pc = .ok (.astore k, 2)) (hs : st = x :: rest) (hv : x.isRef = true) (hl : storeLocals Ls k x = some l') (go : Owe tb e below G T (mkF m (pc + 2) l' rest)) : Owe tb e below G T (mkF m pc Ls st) := Owe.by (fun t k => XS.astore h hx rfl hd hs hv hl k) go
theorem Owe.goto (h : At T m c below) (hx : tb.exec = Jvm.exec) {o : Int} {pc' : Nat}  (hd : decode c.code pc = .ok (.goto o, 3)) (ho : 0 ≤ (pc : Int) + o) (hp : ((pc : Int) + o).toNat = pc') (go : Owe tb e below G T (mkF m pc' Ls st)) : Owe tb e below G T (mkF m pc Ls st) := Owe.by (fun t k => XS.goto h hx rfl rfl hd ho hp k) go
theorem Owe.ifYes (h : At T m c below) (hx : tb.exec = Jvm.exec) {cd : ClassFile.Cond} {x : Int32} {rest : List Value} {o : Int} {pc' : Nat}  (hd : decode c.code pc = .ok (.ifCond cd o, 3)) (hs : st = .int x :: rest) (hc : ifCond.holds cd x = true) (ho : 0 ≤ (pc : Int) + o) (hp : ((pc : Int) + o).toNat = pc') (go : Owe tb e below G T (mkF m pc' Ls rest)) : Owe tb e below G T (mkF m pc Ls st) := Owe.by (fun t k => XS.ifYes h hx rfl rfl hd hs hc ho hp k) go
theorem Owe.ifNo (h : At T m c below) (hx : tb.exec = Jvm.exec) {cd : ClassFile.Cond} {o : Int} {x : Int32} {rest : List Value} (hd : decode c.code pc = .ok (.ifCond cd o, 3)) (hs : st = .int x :: rest) (hc : ifCond.holds cd x = false) (go : Owe tb e below G T (mkF m (pc + 3) Ls rest)) : Owe tb e below G T (mkF m pc Ls st) := Owe.by (fun t k => XS.ifNo h hx rfl hd hs hc k) go
theorem Owe.icmpYes (h : At T m c below) (hx : tb.exec = Jvm.exec) {cd : ClassFile.Cond} {x y : Int32} {rest : List Value} {o : Int} {pc' : Nat}  (hd : decode c.code pc = .ok (.if_icmp cd o, 3)) (hs : st = .int y :: .int x :: rest) (hc : if_icmp.holds cd x y = true) (ho : 0 ≤ (pc : Int) + o) (hp : ((pc : Int) + o).toNat = pc') (go : Owe tb e below G T (mkF m pc' Ls rest)) : Owe tb e below G T (mkF m pc Ls st) := Owe.by (fun t k => XS.icmpYes h hx rfl rfl hd hs hc ho hp k) go
theorem Owe.icmpNo (h : At T m c below) (hx : tb.exec = Jvm.exec) {cd : ClassFile.Cond} {o : Int} {x y : Int32} {rest : List Value} (hd : decode c.code pc = .ok (.if_icmp cd o, 3)) (hs : st = .int y :: .int x :: rest) (hc : if_icmp.holds cd x y = false) (go : Owe tb e below G T (mkF m (pc + 3) Ls rest)) : Owe tb e below G T (mkF m pc Ls st) := Owe.by (fun t k => XS.icmpNo h hx rfl hd hs hc k) go
theorem Owe.ifnullYes (h : At T m c below) (hx : tb.exec = Jvm.exec) {rest : List Value} {o : Int} {pc' : Nat}  (hd : decode c.code pc = .ok (.ifnull o, 3)) (hs : st = .null :: rest) (ho : 0 ≤ (pc : Int) + o) (hp : ((pc : Int) + o).toNat = pc') (go : Owe tb e below G T (mkF m pc' Ls rest)) : Owe tb e below G T (mkF m pc Ls st) := Owe.by (fun t k => XS.ifnullYes h hx rfl rfl hd hs ho hp k) go
theorem Owe.ifnullNo (h : At T m c below) (hx : tb.exec = Jvm.exec) {o : Int} {b : Addr} {rest : List Value} (hd : decode c.code pc = .ok (.ifnull o, 3)) (hs : st = .ref b :: rest) (go : Owe tb e below G T (mkF m (pc + 3) Ls rest)) : Owe tb e below G T (mkF m pc Ls st) := Owe.by (fun t k => XS.ifnullNo h hx rfl hd hs k) go
theorem Owe.ifnonnullYes (h : At T m c below) (hx : tb.exec = Jvm.exec) {b : Addr} {rest : List Value} {o : Int} {pc' : Nat}  (hd : decode c.code pc = .ok (.ifnonnull o, 3)) (hs : st = .ref b :: rest) (ho : 0 ≤ (pc : Int) + o) (hp : ((pc : Int) + o).toNat = pc') (go : Owe tb e below G T (mkF m pc' Ls rest)) : Owe tb e below G T (mkF m pc Ls st) := Owe.by (fun t k => XS.ifnonnullYes h hx rfl rfl hd hs ho hp k) go
theorem Owe.ifnonnullNo (h : At T m c below) (hx : tb.exec = Jvm.exec) {o : Int} {rest : List Value} (hd : decode c.code pc = .ok (.ifnonnull o, 3)) (hs : st = .null :: rest) (go : Owe tb e below G T (mkF m (pc + 3) Ls rest)) : Owe tb e below G T (mkF m pc Ls st) := Owe.by (fun t k => XS.ifnonnullNo h hx rfl hd hs k) go
theorem Owe.acmpYes (h : At T m c below) (hx : tb.exec = Jvm.exec) {cd : ClassFile.ACond} {x y : Value} {rest : List Value} {o : Int} {pc' : Nat}  (hd : decode c.code pc = .ok (.if_acmp cd o, 3)) (hs : st = y :: x :: rest) (hx' : x.isRef = true) (hy' : y.isRef = true) (hc : Jvm.Free.XT.acmp cd x y = true) (ho : 0 ≤ (pc : Int) + o) (hp : ((pc : Int) + o).toNat = pc') (go : Owe tb e below G T (mkF m pc' Ls rest)) : Owe tb e below G T (mkF m pc Ls st) := Owe.by (fun t k => Jvm.Free.XT.acmpYes h hx rfl rfl hd hs hx' hy' hc ho hp k) go
theorem Owe.acmpNo (h : At T m c below) (hx : tb.exec = Jvm.exec) {cd : ClassFile.ACond} {o : Int} {x y : Value} {rest : List Value} (hd : decode c.code pc = .ok (.if_acmp cd o, 3)) (hs : st = y :: x :: rest) (hx' : x.isRef = true) (hy' : y.isRef = true) (hc : Jvm.Free.XT.acmp cd x y = false) (go : Owe tb e below G T (mkF m (pc + 3) Ls rest)) : Owe tb e below G T (mkF m pc Ls st) := Owe.by (fun t k => Jvm.Free.XT.acmpNo h hx rfl hd hs hx' hy' hc k) go
theorem Owe.ladd (h : At T m c below) (hx : tb.exec = Jvm.exec) {x : Int64} {y : Int64} {rest : List Value} (hd : decode c.code pc = .ok (.ladd, 1)) (hs : st = .long y :: .long x :: rest) (go : Owe tb e below G T (mkF m (pc + 1) Ls (.long (x + y) :: rest))) : Owe tb e below G T (mkF m pc Ls st) := Owe.by (fun t k => XS.ladd h hx rfl hd hs k) go
theorem Owe.lsub (h : At T m c below) (hx : tb.exec = Jvm.exec) {x : Int64} {y : Int64} {rest : List Value} (hd : decode c.code pc = .ok (.lsub, 1)) (hs : st = .long y :: .long x :: rest) (go : Owe tb e below G T (mkF m (pc + 1) Ls (.long (x - y) :: rest))) : Owe tb e below G T (mkF m pc Ls st) := Owe.by (fun t k => XS.lsub h hx rfl hd hs k) go
theorem Owe.lmul (h : At T m c below) (hx : tb.exec = Jvm.exec) {x : Int64} {y : Int64} {rest : List Value} (hd : decode c.code pc = .ok (.lmul, 1)) (hs : st = .long y :: .long x :: rest) (go : Owe tb e below G T (mkF m (pc + 1) Ls (.long (x * y) :: rest))) : Owe tb e below G T (mkF m pc Ls st) := Owe.by (fun t k => XS.lmul h hx rfl hd hs k) go
theorem Owe.land (h : At T m c below) (hx : tb.exec = Jvm.exec) {x : Int64} {y : Int64} {rest : List Value} (hd : decode c.code pc = .ok (.land, 1)) (hs : st = .long y :: .long x :: rest) (go : Owe tb e below G T (mkF m (pc + 1) Ls (.long (x &&& y) :: rest))) : Owe tb e below G T (mkF m pc Ls st) := Owe.by (fun t k => XS.land h hx rfl hd hs k) go
theorem Owe.lor (h : At T m c below) (hx : tb.exec = Jvm.exec) {x : Int64} {y : Int64} {rest : List Value} (hd : decode c.code pc = .ok (.lor, 1)) (hs : st = .long y :: .long x :: rest) (go : Owe tb e below G T (mkF m (pc + 1) Ls (.long (x ||| y) :: rest))) : Owe tb e below G T (mkF m pc Ls st) := Owe.by (fun t k => XS.lor h hx rfl hd hs k) go
theorem Owe.lxor (h : At T m c below) (hx : tb.exec = Jvm.exec) {x : Int64} {y : Int64} {rest : List Value} (hd : decode c.code pc = .ok (.lxor, 1)) (hs : st = .long y :: .long x :: rest) (go : Owe tb e below G T (mkF m (pc + 1) Ls (.long (x ^^^ y) :: rest))) : Owe tb e below G T (mkF m pc Ls st) := Owe.by (fun t k => XS.lxor h hx rfl hd hs k) go
theorem Owe.lshl (h : At T m c below) (hx : tb.exec = Jvm.exec) {x : Int64} {y : Int32} {rest : List Value} (hd : decode c.code pc = .ok (.lshl, 1)) (hs : st = .int y :: .long x :: rest) (go : Owe tb e below G T (mkF m (pc + 1) Ls (.long (x <<< (y &&& 0x3f).toInt64) :: rest))) : Owe tb e below G T (mkF m pc Ls st) := Owe.by (fun t k => XS.lshl h hx rfl hd hs k) go
theorem Owe.lshr (h : At T m c below) (hx : tb.exec = Jvm.exec) {x : Int64} {y : Int32} {rest : List Value} (hd : decode c.code pc = .ok (.lshr, 1)) (hs : st = .int y :: .long x :: rest) (go : Owe tb e below G T (mkF m (pc + 1) Ls (.long (x >>> (y &&& 0x3f).toInt64) :: rest))) : Owe tb e below G T (mkF m pc Ls st) := Owe.by (fun t k => XS.lshr h hx rfl hd hs k) go
theorem Owe.lushr (h : At T m c below) (hx : tb.exec = Jvm.exec) {x : Int64} {y : Int32} {rest : List Value} (hd : decode c.code pc = .ok (.lushr, 1)) (hs : st = .int y :: .long x :: rest) (go : Owe tb e below G T (mkF m (pc + 1) Ls (.long ((x.toUInt64 >>> (y &&& 0x3f).toInt64.toUInt64).toInt64) :: rest))) : Owe tb e below G T (mkF m pc Ls st) := Owe.by (fun t k => XS.lushr h hx rfl hd hs k) go
theorem Owe.lneg (h : At T m c below) (hx : tb.exec = Jvm.exec) {v : Int64} {rest : List Value} (hd : decode c.code pc = .ok (.lneg, 1)) (hs : st = .long v :: rest) (go : Owe tb e below G T (mkF m (pc + 1) Ls (.long (-v) :: rest))) : Owe tb e below G T (mkF m pc Ls st) := Owe.by (fun t k => XS.lneg h hx rfl hd hs k) go
theorem Owe.i2l (h : At T m c below) (hx : tb.exec = Jvm.exec) {v : Int32} {rest : List Value} (hd : decode c.code pc = .ok (.i2l, 1)) (hs : st = .int v :: rest) (go : Owe tb e below G T (mkF m (pc + 1) Ls (.long (v.toInt64) :: rest))) : Owe tb e below G T (mkF m pc Ls st) := Owe.by (fun t k => XS.i2l h hx rfl hd hs k) go
theorem Owe.l2i (h : At T m c below) (hx : tb.exec = Jvm.exec) {v : Int64} {rest : List Value} (hd : decode c.code pc = .ok (.l2i, 1)) (hs : st = .long v :: rest) (go : Owe tb e below G T (mkF m (pc + 1) Ls (.int (v.toInt32) :: rest))) : Owe tb e below G T (mkF m pc Ls st) := Owe.by (fun t k => XS.l2i h hx rfl hd hs k) go
theorem Owe.i2b (h : At T m c below) (hx : tb.exec = Jvm.exec) {v : Int32} {rest : List Value} (hd : decode c.code pc = .ok (.i2b, 1)) (hs : st = .int v :: rest) (go : Owe tb e below G T (mkF m (pc + 1) Ls (.int (v.toInt8.toInt32) :: rest))) : Owe tb e below G T (mkF m pc Ls st) := Owe.by (fun t k => XS.i2b h hx rfl hd hs k) go
theorem Owe.i2c (h : At T m c below) (hx : tb.exec = Jvm.exec) {v : Int32} {rest : List Value} (hd : decode c.code pc = .ok (.i2c, 1)) (hs : st = .int v :: rest) (go : Owe tb e below G T (mkF m (pc + 1) Ls (.int (v.toUInt32.toUInt16.toUInt32.toInt32) :: rest))) : Owe tb e below G T (mkF m pc Ls st) := Owe.by (fun t k => XS.i2c h hx rfl hd hs k) go
theorem Owe.i2s (h : At T m c below) (hx : tb.exec = Jvm.exec) {v : Int32} {rest : List Value} (hd : decode c.code pc = .ok (.i2s, 1)) (hs : st = .int v :: rest) (go : Owe tb e below G T (mkF m (pc + 1) Ls (.int (v.toInt16.toInt32) :: rest))) : Owe tb e below G T (mkF m pc Ls st) := Owe.by (fun t k => XS.i2s h hx rfl hd hs k) go
theorem Owe.lloadN (h : At T m c below) (hx : tb.exec = Jvm.exec) {k : Fin 4} {v : Int64} (hd : decode c.code pc = .ok (.lload_n k, 1)) (hl : Ls[k.val]? = some (.val (.long v))) (go : Owe tb e below G T (mkF m (pc + 1) Ls (.long v :: st))) : Owe tb e below G T (mkF m pc Ls st) := Owe.by (fun t k => XS.lloadN h hx rfl hd hl k) go
theorem Owe.lload (h : At T m c below) (hx : tb.exec = Jvm.exec) {k : Nat} {v : Int64} (hd : decode c.code pc = .ok (.lload k, 2)) (hl : Ls[k]? = some (.val (.long v))) (go : Owe tb e below G T (mkF m (pc + 2) Ls (.long v :: st))) : Owe tb e below G T (mkF m pc Ls st) := Owe.by (fun t k => XS.lload h hx rfl hd hl k) go
theorem Owe.lstoreN (h : At T m c below) (hx : tb.exec = Jvm.exec) {k : Fin 4} {x : Int64} {rest : List Value} {l' : Array Slot} (hd : decode c.code pc = .ok (.lstore_n k, 1)) (hs : st = .long x :: rest) (hl : storeLocals Ls k.val (.long x) = some l') (go : Owe tb e below G T (mkF m (pc + 1) l' rest)) : Owe tb e below G T (mkF m pc Ls st) := Owe.by (fun t k => XS.lstoreN h hx rfl hd hs hl k) go
theorem Owe.lstore (h : At T m c below) (hx : tb.exec = Jvm.exec) {k : Nat} {x : Int64} {rest : List Value} {l' : Array Slot} (hd : decode c.code pc = .ok (.lstore k, 2)) (hs : st = .long x :: rest) (hl : storeLocals Ls k (.long x) = some l') (go : Owe tb e below G T (mkF m (pc + 2) l' rest)) : Owe tb e below G T (mkF m pc Ls st) := Owe.by (fun t k => XS.lstore h hx rfl hd hs hl k) go
theorem Owe.lconst (h : At T m c below) (hx : tb.exec = Jvm.exec) {k : Fin 2} (hd : decode c.code pc = .ok (.lconst k, 1)) {w : Int64} (hw : (Int64.ofNat k) = w) (go : Owe tb e below G T (mkF m (pc + 1) Ls (.long w :: st))) : Owe tb e below G T (mkF m pc Ls st) := by subst hw; exact Owe.by (fun t k => XS.lconst h hx rfl hd k) go
theorem Owe.lcmp (h : At T m c below) (hx : tb.exec = Jvm.exec) {x y : Int64} {rest : List Value} (hd : decode c.code pc = .ok (.lcmp, 1)) (hs : st = .long y :: .long x :: rest) (go : Owe tb e below G T (mkF m (pc + 1) Ls (.int (lcmpW x y) :: rest))) : Owe tb e below G T (mkF m pc Ls st) := Owe.by (fun t k => XS.lcmp h hx rfl hd hs k) go
theorem Owe.tswIn (h : At T m c below) (hx : tb.exec = Jvm.exec) {dflt low high : Int} {offs : Array Int} {len : Nat} {o : Int} {pc' : Nat}  (hd : decode c.code pc = .ok (.tableswitch dflt low high offs, len)) {i : Int32} {rest : List Value} (hs : st = .int i :: rest) (hin : ¬ (i.toInt < low ∨ i.toInt > high)) (hoff : offs[(i.toInt - low).toNat]? = some o) (ho : 0 ≤ (pc : Int) + o) (hp : ((pc : Int) + o).toNat = pc') (go : Owe tb e below G T (mkF m pc' Ls rest)) : Owe tb e below G T (mkF m pc Ls st) := Owe.by (fun t k => XS.tswIn h hx rfl rfl hd hs hin hoff ho hp k) go
theorem Owe.tswOut (h : At T m c below) (hx : tb.exec = Jvm.exec) {dflt low high : Int} {offs : Array Int} {len : Nat} {pc' : Nat}  (hd : decode c.code pc = .ok (.tableswitch dflt low high offs, len)) {i : Int32} {rest : List Value} (hs : st = .int i :: rest) (hout : i.toInt < low ∨ i.toInt > high) (ho : 0 ≤ (pc : Int) + dflt) (hp : ((pc : Int) + dflt).toNat = pc') (go : Owe tb e below G T (mkF m pc' Ls rest)) : Owe tb e below G T (mkF m pc Ls st) := Owe.by (fun t k => XS.tswOut h hx rfl rfl hd hs hout ho hp k) go
theorem Owe.dload (h : At T m c below) (hx : tb.exec = Jvm.exec) {k : Nat} {v : UInt64} (hd : decode c.code pc = .ok (.dload k, 2)) (hl : Ls[k]? = some (.val (.double v))) (go : Owe tb e below G T (mkF m (pc + 2) Ls (.double v :: st))) : Owe tb e below G T (mkF m pc Ls st) := Owe.by (fun t k => XS.dload h hx rfl hd hl k) go
theorem Owe.dloadN (h : At T m c below) (hx : tb.exec = Jvm.exec) {k : Fin 4} {v : UInt64} (hd : decode c.code pc = .ok (.dload_n k, 1)) (hl : Ls[k.val]? = some (.val (.double v))) (go : Owe tb e below G T (mkF m (pc + 1) Ls (.double v :: st))) : Owe tb e below G T (mkF m pc Ls st) := Owe.by (fun t k => XS.dloadN h hx rfl hd hl k) go
theorem Owe.dstore (h : At T m c below) (hx : tb.exec = Jvm.exec) {k : Nat} {x : UInt64} {rest : List Value} {l' : Array Slot} (hd : decode c.code pc = .ok (.dstore k, 2)) (hs : st = .double x :: rest) (hl : storeLocals Ls k (.double x) = some l') (go : Owe tb e below G T (mkF m (pc + 2) l' rest)) : Owe tb e below G T (mkF m pc Ls st) := Owe.by (fun t k => XS.dstore h hx rfl hd hs hl k) go
theorem Owe.dstoreN (h : At T m c below) (hx : tb.exec = Jvm.exec) {k : Fin 4} {x : UInt64} {rest : List Value} {l' : Array Slot} (hd : decode c.code pc = .ok (.dstore_n k, 1)) (hs : st = .double x :: rest) (hl : storeLocals Ls k.val (.double x) = some l') (go : Owe tb e below G T (mkF m (pc + 1) l' rest)) : Owe tb e below G T (mkF m pc Ls st) := Owe.by (fun t k => XS.dstoreN h hx rfl hd hs hl k) go
theorem Owe.dconst0 (h : At T m c below) (hx : tb.exec = Jvm.exec) {v : UInt64} (hd : decode c.code pc = .ok (.dconst 0, 1)) (hv : FP.dconst0 = v) (go : Owe tb e below G T (mkF m (pc + 1) Ls (.double v :: st))) : Owe tb e below G T (mkF m pc Ls st) := Owe.by (fun t k => XS.dconst0 h hx rfl hd hv k) go
theorem Owe.dconst1 (h : At T m c below) (hx : tb.exec = Jvm.exec) {v : UInt64} (hd : decode c.code pc = .ok (.dconst 1, 1)) (hv : FP.dconst1 = v) (go : Owe tb e below G T (mkF m (pc + 1) Ls (.double v :: st))) : Owe tb e below G T (mkF m pc Ls st) := Owe.by (fun t k => XS.dconst1 h hx rfl hd hv k) go
theorem Owe.i2dS (h : At T m c below) (hx : tb.exec = Jvm.exec) {x : Int32} {v : UInt64} {rest : List Value} (hd : decode c.code pc = .ok (.i2d, 1)) (hs : st = .int x :: rest) (hv : FP.i2d x = v) (go : Owe tb e below G T (mkF m (pc + 1) Ls (.double v :: rest))) : Owe tb e below G T (mkF m pc Ls st) := Owe.by (fun t k => XS.i2dS h hx rfl hd hs hv k) go
theorem Owe.l2dS (h : At T m c below) (hx : tb.exec = Jvm.exec) {x : Int64} {v : UInt64} {rest : List Value} (hd : decode c.code pc = .ok (.l2d, 1)) (hs : st = .long x :: rest) (hv : FP.l2d x = v) (go : Owe tb e below G T (mkF m (pc + 1) Ls (.double v :: rest))) : Owe tb e below G T (mkF m pc Ls st) := Owe.by (fun t k => XS.l2dS h hx rfl hd hs hv k) go
theorem Owe.dcmpS (h : At T m c below) (hx : tb.exec = Jvm.exec) {o : CmpOp} {x y : UInt64} {v : Int32} {rest : List Value} (hd : decode c.code pc = .ok (.dcmp o, 1)) (hs : st = .double y :: .double x :: rest) (hv : cmpValue (FP.dcmp x y) o = v) (go : Owe tb e below G T (mkF m (pc + 1) Ls (.int v :: rest))) : Owe tb e below G T (mkF m pc Ls st) := Owe.by (fun t k => XS.dcmpS h hx rfl hd hs hv k) go
end Plain
section Heavy
variable {p : Program} {l : Launch} {e : Env} {R : Room} {s : State} {m : MethodId} {args : Array Value} {below : List Frame} {meth : Method} {c : Code} {T : State} {locs : List Loc} {cells slots : Nat} {Z : State} {a0 : Array Value} {h : Heap} {G : Outcome → State → Prop} {pc : Nat} {Ls : Array Slot} {st : List Value}
theorem Owe.ldcI (X : Stand p l e R s m args below meth c T locs cells slots) (hx : p.tables.exec = Jvm.exec) {own : String} {index : Nat} {v : Int32} (hown : s.vm.findClass own = some m.cls) (w : (Cond.constant own index v).before args s = true) (hd : decode c.code pc = .ok (.ldc index, 2)) (go : Owe p.tables e below G T (mkF m (pc + 2) Ls (.int v :: st))) : Owe p.tables e below G T (mkF m pc Ls st) :=
  Owe.by (X.ldcInt hx hown w (g := mkF m pc Ls st) rfl hd) go
theorem Owe.new (X : Stand p l e R s m args below meth c T locs cells slots) (hx : p.tables.exec = Jvm.exec) (hZ : Z.Warmed39 s.vm) {own C : String} {index n : Nat} (hown : s.vm.findClass own = some m.cls) (w : (Cond.classLink own index C).before a0 Z = true) (wi : (Cond.instantiable C n).before a0 Z = true) (wz : (Cond.initialized C).before a0 Z = true) (eT : T.heap = h) (hd : decode c.code pc = .ok (.new index, 3)) (hc : cells + 1 ≤ R.cells) (hl : slots + n ≤ R.slots)
    (go : ∀ (T' : State) (h' : Heap) (a : Addr), a = h.size → Stand p l e R s m args below meth c T' locs (cells + 1) (slots + n) → T'.heap = h' → Ext h h' → Exa Z h' a C → (∀ {O nm d : String} {ty : FieldType}, Laid Z a0 C O nm d → parseFieldDescriptor d = some ty → Fld Z h' a O nm d (defaultValue ty)) → Owe p.tables e below G T' (mkF m (pc + 3) Ls (.ref a :: st))) : Owe p.tables e below G T (mkF m pc Ls st) := by
  obtain ⟨T', h', X', e', E', A', D', -, st'⟩ := newO X hx hZ hown w wi wz eT (g := mkF m pc Ls st) rfl hd hc hl
  exact Owe.by st' (go T' h' _ rfl X' e' E' A' D')
theorem Owe.newarr (X : Stand p l e R s m args below meth c T locs cells slots) (hx : p.tables.exec = Jvm.exec) (hZ : Z.Warmed39 s.vm) {aty : ArrayType} (w : (Cond.arrayClass (newarray.typeOf aty)).before a0 Z = true) (eT : T.heap = h) (hd : decode c.code pc = .ok (.newarray aty, 2)) {n : Int32} {rest : List Value} (hs : st = .int n :: rest) (hn : ¬ n < 0) {cap : Nat} (hcap : n.toNatClampNeg ≤ cap) (hb : cap * 8 ≤ 536870912) (hc : cells + 1 ≤ R.cells) (hl : slots + cap ≤ R.slots)
    (go : ∀ (T' : State) (h' : Heap) (a : Addr) (k : ClassId), a = h.size → Stand p l e R s m args below meth c T' locs (cells + 1) (slots + cap) → T'.heap = h' → Ext h h' → Arv Z h' a k (newarray.typeOf aty) n [] (defaultValue (newarray.typeOf aty)) → Owe p.tables e below G T' (mkF m (pc + 2) Ls (.ref a :: rest))) : Owe p.tables e below G T (mkF m pc Ls st) := by
  obtain ⟨T', h', k, X', e', E', A', st'⟩ := newP X hx hZ w eT (g := mkF m pc Ls st) rfl hd hs hn hcap hb hc hl
  exact Owe.by st' (go T' h' _ k rfl X' e' E' (Arv.new A' hn))
theorem Owe.castore (X : Stand p l e R s m args below meth c T locs cells slots) (hx : p.tables.exec = Jvm.exec) (hZ : Z.Warmed39 s.vm) (eT : T.heap = h) {a : Addr} {k : ClassId} {n : Int32} {vs : List Value} {dv : Value} (V : Arv Z h a k .char n vs dv) {j x : Int32} (i : Nat) (hj : j.toNatClampNeg = i) (hi : i < vs.length) (hin : ¬ j < 0 ∧ j < n) (hd : decode c.code pc = .ok (.castore, 1)) {rest : List Value} (hs : st = .int x :: .int j :: .ref a :: rest)
    (go : ∀ (T' : State) (h' : Heap), Stand p l e R s m args below meth c T' (locs ++ [⟨a, j.toNatClampNeg⟩]) cells slots → T'.heap = h' → Wr h h' a j.toNatClampNeg (.int (nar .char x)) → Arv Z h' a k .char n (vs.set i (.int (nar .char x))) dv → Owe p.tables e below G T' (mkF m (pc + 1) Ls rest)) : Owe p.tables e below G T (mkF m pc Ls st) := by
  obtain ⟨cl, A, q, S, M, H, U⟩ := V
  obtain ⟨T', h', X', e', W', st'⟩ := stC X hx hZ eT A (j := j) (inb_of S hin) (g := mkF m pc Ls st) rfl hs hd
  exact Owe.by st' (go T' h' X' e' W' (Arv.set A q S M H U (fits_nar_char _) W' i hj hi))
theorem Owe.bastore (X : Stand p l e R s m args below meth c T locs cells slots) (hx : p.tables.exec = Jvm.exec) (hZ : Z.Warmed39 s.vm) (eT : T.heap = h) {a : Addr} {k : ClassId} {n : Int32} {vs : List Value} {dv : Value} (V : Arv Z h a k .byte n vs dv) {j x : Int32} (i : Nat) (hj : j.toNatClampNeg = i) (hi : i < vs.length) (hin : ¬ j < 0 ∧ j < n) (hd : decode c.code pc = .ok (.bastore, 1)) {rest : List Value} (hs : st = .int x :: .int j :: .ref a :: rest)
    (go : ∀ (T' : State) (h' : Heap), Stand p l e R s m args below meth c T' (locs ++ [⟨a, j.toNatClampNeg⟩]) cells slots → T'.heap = h' → Wr h h' a j.toNatClampNeg (.int (x.toInt8.toInt32)) → Arv Z h' a k .byte n (vs.set i (.int (x.toInt8.toInt32))) dv → Owe p.tables e below G T' (mkF m (pc + 1) Ls rest)) : Owe p.tables e below G T (mkF m pc Ls st) := by
  obtain ⟨cl, A, q, S, M, H, U⟩ := V
  obtain ⟨T', h', X', e', W', st'⟩ := stB X hx hZ eT A (j := j) (inb_of S hin) (g := mkF m pc Ls st) rfl hs hd
  exact Owe.by st' (go T' h' X' e' W' (Arv.set A q S M H U (fits_nar_byte _) W' i hj hi))
theorem Owe.caload (X : Stand p l e R s m args below meth c T locs cells slots) (hx : p.tables.exec = Jvm.exec) (hZ : Z.Warmed39 s.vm) (eT : T.heap = h) {a : Addr} {k : ClassId} {n : Int32} {vs : List Value} {dv : Value} (V : Arv Z h a k .char n vs dv) {j : Int32} {v : Value} (hin : ¬ j < 0 ∧ j < n) (hv : vs.getD j.toNatClampNeg dv = v) (hd : decode c.code pc = .ok (.caload, 1)) {rest : List Value} (hs : st = .int j :: .ref a :: rest)
    (go : Owe p.tables e below G T (mkF m (pc + 1) Ls (v :: rest))) : Owe p.tables e below G T (mkF m pc Ls st) := by
  obtain ⟨cl, A, q, S, M, H, U⟩ := V
  exact Owe.by (fun t k => X.caload hx (by rw [eT]; exact A.1) (State.isArrayOf_alike hZ.alike A.2.1) A.2.2 (inb_of S hin) (H.at (inb_of S hin) hv) (g := mkF m pc Ls st) rfl hs hd t k) go
theorem Owe.arrlen (X : Stand p l e R s m args below meth c T locs cells slots) (hx : p.tables.exec = Jvm.exec) (hZ : Z.Warmed39 s.vm) (eT : T.heap = h) {a : Addr} {k : ClassId} {ty : FieldType} {n : Int32} {vs : List Value} {dv : Value} (V : Arv Z h a k ty n vs dv) (hd : decode c.code pc = .ok (.arraylength, 1)) {rest : List Value} (hs : st = .ref a :: rest)
    (go : Owe p.tables e below G T (mkF m (pc + 1) Ls (.int n :: rest))) : Owe p.tables e below G T (mkF m pc Ls st) := by
  obtain ⟨cl, A, q, S, M, H, U⟩ := V
  refine Owe.by (fun t k => X.arraylength hx (by rw [eT]; exact A.1) (State.isArrayOf_alike hZ.alike A.2.1) (g := mkF m pc Ls st) rfl hs hd t ?_) go
  rw [len_of S M]; exact k
theorem Owe.getf (X : Stand p l e R s m args below meth c T locs cells slots) (hx : p.tables.exec = Jvm.exec) (hZ : Z.Warmed39 s.vm) {own R0 O n d host : String} {index : Nat} (hown : s.vm.findClass own = some m.cls) (w : (Cond.fieldLink own index R0 n d).before a0 Z = true ∨ (Cond.fieldLinkNest own index R0 n d host).before a0 Z = true) (via : Via Z R0 O n d) (eT : T.heap = h) {a : Addr} {v : Value} (F : Fld Z h a O n d v) (hd : decode c.code pc = .ok (.getfield index, 3)) {rest : List Value} (hs : st = .ref a :: rest)
    (go : ∀ T' : State, Stand p l e R s m args below meth c T' locs cells slots → T'.heap = h → Owe p.tables e below G T' (mkF m (pc + 3) Ls (v :: rest))) : Owe p.tables e below G T (mkF m pc Ls st) := by
  obtain ⟨T', X', e', st'⟩ := getF X hx hZ hown w via eT F (g := mkF m pc Ls st) rfl hs hd
  exact Owe.by st' (go T' X' e')
theorem Owe.gets (X : Stand p l e R s m args below meth c T locs cells slots) (hx : p.tables.exec = Jvm.exec) (hZ : Z.Warmed39 s.vm) {own R0 O n d : String} {index : Nat} (hown : s.vm.findClass own = some m.cls) (w : (Cond.fieldLink own index R0 n d).before a0 Z = true) (via : Via Z R0 O n d) (eT : T.heap = h) {v : Value} (F : Sta Z h O n d v) (hd : decode c.code pc = .ok (.getstatic index, 3))
    (go : ∀ T' : State, Stand p l e R s m args below meth c T' locs cells slots → T'.heap = h → Owe p.tables e below G T' (mkF m (pc + 3) Ls (v :: st))) : Owe p.tables e below G T (mkF m pc Ls st) := by
  obtain ⟨T', X', e', st'⟩ := getS X hx hZ (host := "") hown w via eT F (g := mkF m pc Ls st) rfl hd
  exact Owe.by st' (go T' X' e')
theorem Owe.putf (X : Stand p l e R s m args below meth c T locs cells slots) (hx : p.tables.exec = Jvm.exec) (hZ : Z.Warmed39 s.vm) {own R0 O n d host C : String} {index kk : Nat} {ty : FieldType} (hown : s.vm.findClass own = some m.cls) (w : (Cond.fieldLink own index R0 n d).before a0 Z = true ∨ (Cond.fieldLinkNest own index R0 n d host).before a0 Z = true) (via : Via Z R0 O n d) (eT : T.heap = h) {a : Addr} {v old : Value} (F : Fld Z h a O n d old) (E : Exa Z h a C)
    (L : (Cond.lays C O n d).before a0 Z = true ∨ ((Cond.laysFinal C O n d).before a0 Z = true ∧ own = O ∧ meth.name = "<init>")) (wi : (Cond.instantiable C kk).before a0 Z = true) (hty : parseFieldDescriptor d = some ty) (hn : narrow ty v = v) (hf : fits ty v = true) (hd : decode c.code pc = .ok (.putfield index, 3)) {rest : List Value} (hs : st = v :: .ref a :: rest)
    (go : ∀ (T' : State) (h' : Heap), Stand p l e R s m args below meth c T' (locs ++ [⟨a, Jvm.RoadKit.slotOf Z O n d⟩]) cells slots → T'.heap = h' → Wr h h' a (Jvm.RoadKit.slotOf Z O n d) v → Owe p.tables e below G T' (mkF m (pc + 3) Ls rest)) : Owe p.tables e below G T (mkF m pc Ls st) := by
  obtain ⟨T', h', X', e', W', st'⟩ := putF X hx hZ hown w via eT F E L wi hty hn hf (g := mkF m pc Ls st) rfl hs hd
  exact Owe.by st' (go T' h' X' e' W')
theorem Owe.objinit (X : Stand p l e R s m args below meth c T locs cells slots) (hx : p.tables.exec = Jvm.exec) (hZ : Z.Warmed39 s.vm) {own : String} {idx : Nat} (hown : s.vm.findClass own = some m.cls) (w1 : (Cond.methodLink own idx Lib.objectInit).before a0 Z = true) (w2 : (Cond.instanceMethod Lib.objectInit).before a0 Z = true) (w3 : (Cond.code Lib.objectInit ⟨#[0xb1]⟩ 1 none).before a0 Z = true) (eT : T.heap = h) (hsize : Ls.size = c.maxLocals) {a : Addr} {rest : List Value} (hs : st = .ref a :: rest) (hd : decode c.code pc = .ok (.invokespecial idx, 3)) (hf : 1 ≤ R.frames) {W : Nat} (hW : (rest.map fun v => v.category).sum ≤ W) (hl : W + 12 ≤ R.locals)
    (go : ∀ T' : State, Stand p l e R s m args below meth c T' locs cells slots → T'.heap = h → Owe p.tables e below G T' (mkF m (pc + 3) Ls rest)) : Owe p.tables e below G T (mkF m pc Ls st) := by
  obtain ⟨T', X', e', st'⟩ := initO X hx hZ hown w1 w2 w3 eT (g := mkF m pc Ls st) rfl hsize hs hd hf (W := W) (by show 2 * 0 + _ ≤ W; omega) hl
  exact Owe.by st' (go T' X' e')
theorem Owe.castY (X : Stand p l e R s m args below meth c T locs cells slots) (hx : p.tables.exec = Jvm.exec) (hZ : Z.Warmed39 s.vm) {own K : String} {index : Nat} (hown : s.vm.findClass own = some m.cls) (w : (Cond.classLink own index K).before a0 Z = true) (eT : T.heap = h) {a : Addr} (F : Ins Z h a K true) (hd : decode c.code pc = .ok (.checkcast index, 3)) {rest : List Value} (hs : st = .ref a :: rest)
    (go : ∀ T' : State, Stand p l e R s m args below meth c T' locs cells slots → T'.heap = h → Owe p.tables e below G T' (mkF m (pc + 3) Ls st)) : Owe p.tables e below G T (mkF m pc Ls st) := by
  obtain ⟨T', X', e', st'⟩ := Jvm.RoadKit.castY X hx hZ hown w eT F (g := mkF m pc Ls st) rfl hs hd
  exact Owe.by st' (go T' X' e')
theorem Owe.instY (X : Stand p l e R s m args below meth c T locs cells slots) (hx : p.tables.exec = Jvm.exec) (hZ : Z.Warmed39 s.vm) {own K : String} {index : Nat} (hown : s.vm.findClass own = some m.cls) (w : (Cond.classLink own index K).before a0 Z = true) (eT : T.heap = h) {a : Addr} (F : Ins Z h a K true) (hd : decode c.code pc = .ok (.instanceof index, 3)) {rest : List Value} (hs : st = .ref a :: rest)
    (go : ∀ T' : State, Stand p l e R s m args below meth c T' locs cells slots → T'.heap = h → Owe p.tables e below G T' (mkF m (pc + 3) Ls (.int 1 :: rest))) : Owe p.tables e below G T (mkF m pc Ls st) := by
  obtain ⟨T', X', e', st'⟩ := Jvm.RoadKit.instY X hx hZ hown w eT F (g := mkF m pc Ls st) rfl hs hd
  exact Owe.by st' (go T' X' e')
theorem Owe.instNo (X : Stand p l e R s m args below meth c T locs cells slots) (hx : p.tables.exec = Jvm.exec) (hZ : Z.Warmed39 s.vm) {own K C : String} {index : Nat} (hown : s.vm.findClass own = some m.cls) (w : (Cond.classLink own index K).before a0 Z = true) (eT : T.heap = h) {a : Addr} (E : Exa Z h a C) (F : ∃ c t, Z.vm.findClass C = some c ∧ Z.vm.findClass K = some t ∧ Z.vm.assignable c t = false) (hd : decode c.code pc = .ok (.instanceof index, 3)) {rest : List Value} (hs : st = .ref a :: rest)
    (go : ∀ T' : State, Stand p l e R s m args below meth c T' locs cells slots → T'.heap = h → Owe p.tables e below G T' (mkF m (pc + 3) Ls (.int 0 :: rest))) : Owe p.tables e below G T (mkF m pc Ls st) := by
  obtain ⟨T', X', e', st'⟩ := Jvm.RoadKit.instNo X hx hZ hown w eT E F (g := mkF m pc Ls st) rfl hs hd
  exact Owe.by st' (go T' X' e')
theorem Owe.instNull (X : Stand p l e R s m args below meth c T locs cells slots) (hx : p.tables.exec = Jvm.exec) {index : Nat} (hd : decode c.code pc = .ok (.instanceof index, 3)) {rest : List Value} (hs : st = .null :: rest) (go : Owe p.tables e below G T (mkF m (pc + 3) Ls (.int 0 :: rest))) : Owe p.tables e below G T (mkF m pc Ls st) :=
  Owe.by (Jvm.Stand.instanceofNull X hx (g := mkF m pc Ls st) rfl hs hd) go
theorem Owe.aaload (X : Stand p l e R s m args below meth c T locs cells slots) (hx : p.tables.exec = Jvm.exec) (hZ : Z.Warmed39 s.vm) (eT : T.heap = h) {a : Addr} {cl : Cell} {ty : FieldType} (A : Jvm.RoadKit.Arr Z h a cl ty) (hty : ty.isReference = true) {j : Int32} {v : Value} (hin : ¬ (j < 0 ∨ cl.slots.size ≤ j.toNatClampNeg)) (hv : cl.slots[j.toNatClampNeg]? = some v) (hd : decode c.code pc = .ok (.aaload, 1)) {rest : List Value} (hs : st = .int j :: .ref a :: rest)
    (go : Owe p.tables e below G T (mkF m (pc + 1) Ls (v :: rest))) : Owe p.tables e below G T (mkF m pc Ls st) :=
  Owe.by (fun t k => X.aaload hx (by rw [eT]; exact A.1) (State.isArrayOf_alike hZ.alike A.2.1) hty A.2.2 hin hv (g := mkF m pc Ls st) rfl hs hd t k) go
/-! calls by a contract in the Back form of 'backOf' and of the pasted String laws -/
variable {y z : MethodName} {as' : Array Value} {Q : Option Value → Heap → List Loc → Prop} {W kc ks : Nat}
theorem Owe.special (X : Stand p l e R s m args below meth c T locs cells slots) (hx : p.tables.exec = Jvm.exec) {own : String} {index : Nat} (hy1 : y.name = "<init>") (hown : s.vm.findClass own = some m.cls) (hlink : (Cond.methodLink own index y).before args s = true) (hinst : (Cond.instanceMethod y).before args s = true) {bytes : ByteArray} {maxL : Nat} (hcode : (Cond.code y bytes maxL none).before args s = true) (hy : y.cls ≠ "java/lang/invoke/MethodHandle" ∧ y.cls ≠ "java/lang/invoke/VarHandle")
    (hK : Back l R p e below s args y 3 W (fun A a => a = as' ∧ A.U.heap = h ∧ A.cells + kc ≤ R.cells ∧ A.slots + ks ≤ R.slots) (fun A _ v B => ∃ L, Q v B.U.heap L ∧ B.locs = A.locs ++ L ∧ B.cells = A.cells + kc ∧ B.slots = A.slots + ks))
    (hsize : Ls.size = c.maxLocals) {a : Addr} {argsL rest : List Value} (hlen : ∀ sig, parseMethodDescriptor y.desc = some sig → argsL.length = sig.parameters.length) (hs : st = argsL.reverse ++ .ref a :: rest) (hW : (rest.map fun v => v.category).sum ≤ W) (hd : decode c.code pc = .ok (.invokespecial index, 3))
    (has : (.ref a :: argsL).toArray = as') (eT : T.heap = h) (hc : cells + kc ≤ R.cells) (hl : slots + ks ≤ R.slots)
    (go : ∀ (T' : State) (v : Option Value) (L : List Loc), Stand p l e R s m args below meth c T' (locs ++ L) (cells + kc) (slots + ks) → Q v T'.heap L → Owe p.tables e below G T' (mkF m (pc + 3) Ls (v.toList ++ rest))) : Owe p.tables e below G T (mkF m pc Ls st) := by
  obtain ⟨v, _, ⟨T', L', k', n'⟩, -, X', ⟨L, hQ, l', y', z'⟩, st'⟩ := X.specialBack hx hy1 hown hlink hinst hcode hy hK (g := mkF m pc Ls st) rfl hsize (Steps.refl _) hlen hs (by show 2 * 0 + _ ≤ W; omega) hd (fun _ _ => ⟨has, eT, hc, hl⟩)
  dsimp only [Pt.U, Pt.locs, Pt.cells, Pt.slots] at X' l' y' z' st' hQ
  subst l' y' z'
  exact Owe.by (fun t k => st'.trans k) (go T' v L X' hQ)
theorem Owe.virt (X : Stand p l e R s m args below meth c T locs cells slots) (hx : p.tables.exec = Jvm.exec) (hZ : Z.Warmed39 s.vm) {own C : String} {index : Nat} (hown : s.vm.findClass own = some m.cls) (hlink : (Cond.methodLink own index y).before args s = true) (hdecl : (Cond.declares y).before args s = true) (hsel : (Cond.selects C y z).before args s = true) (hinst : (Cond.instanceMethod z).before args s = true) (hnf : NotFace s y) (hy : y.cls ≠ "java/lang/invoke/MethodHandle" ∧ y.cls ≠ "java/lang/invoke/VarHandle")
    (hK : Back l R p e below s args z 3 W (fun A a => a = as' ∧ A.U.heap = h ∧ A.cells + kc ≤ R.cells ∧ A.slots + ks ≤ R.slots) (fun A _ v B => ∃ L, Q v B.U.heap L ∧ B.locs = A.locs ++ L ∧ B.cells = A.cells + kc ∧ B.slots = A.slots + ks))
    (hsize : Ls.size = c.maxLocals) {a : Addr} {argsL rest : List Value} (E : Exa Z h a C) (hlen : ∀ sig, parseMethodDescriptor y.desc = some sig → argsL.length = sig.parameters.length) (hs : st = argsL.reverse ++ .ref a :: rest) (hW : (rest.map fun v => v.category).sum ≤ W) (hd : decode c.code pc = .ok (.invokevirtual index, 3))
    (has : (.ref a :: argsL).toArray = as') (eT : T.heap = h) (hc : cells + kc ≤ R.cells) (hl : slots + ks ≤ R.slots)
    (go : ∀ (T' : State) (v : Option Value) (L : List Loc), Stand p l e R s m args below meth c T' (locs ++ L) (cells + kc) (slots + ks) → Q v T'.heap L → Owe p.tables e below G T' (mkF m (pc + 3) Ls (v.toList ++ rest))) : Owe p.tables e below G T (mkF m pc Ls st) := by
  obtain ⟨cq, kq, qa, qb, qc⟩ := isOf hZ eT E
  obtain ⟨v, _, ⟨T', L', k', n'⟩, -, X', ⟨L, hQ, l', y', z'⟩, st'⟩ := X.virtualBack hx hown hlink hdecl hnf hsel hinst hy hK qa qc (g := mkF m pc Ls st) rfl hsize (Steps.refl _) hlen hs (by show 2 * 0 + _ ≤ W; omega) hd (fun _ _ => ⟨has, eT, hc, hl⟩)
  dsimp only [Pt.U, Pt.locs, Pt.cells, Pt.slots] at X' l' y' z' st' hQ
  subst l' y' z'
  exact Owe.by (fun t k => st'.trans k) (go T' v L X' hQ)
theorem Owe.virtUp (X : Stand p l e R s m args below meth c T locs cells slots) (hx : p.tables.exec = Jvm.exec) (hZ : Z.Warmed39 s.vm) {own C owner : String} {index : Nat} (hown : s.vm.findClass own = some m.cls) (hlink : (Cond.methodLink own index y).before args s = true) (hsame : (Cond.sameMethod y.cls owner y.name y.desc).before args s = true) (hdecl : (Cond.declares ⟨owner, y.name, y.desc⟩).before args s = true) (howner : owner ≠ "java/lang/invoke/MethodHandle" ∧ owner ≠ "java/lang/invoke/VarHandle") (hsel : (Cond.selects C y z).before args s = true) (hinst : (Cond.instanceMethod z).before args s = true)
    (hK : Back l R p e below s args z 3 W (fun A a => a = as' ∧ A.U.heap = h ∧ A.cells + kc ≤ R.cells ∧ A.slots + ks ≤ R.slots) (fun A _ v B => ∃ L, Q v B.U.heap L ∧ B.locs = A.locs ++ L ∧ B.cells = A.cells + kc ∧ B.slots = A.slots + ks))
    (hsize : Ls.size = c.maxLocals) {a : Addr} {argsL rest : List Value} (E : Exa Z h a C) (hlen : ∀ sig, parseMethodDescriptor y.desc = some sig → argsL.length = sig.parameters.length) (hs : st = argsL.reverse ++ .ref a :: rest) (hW : (rest.map fun v => v.category).sum ≤ W) (hd : decode c.code pc = .ok (.invokevirtual index, 3))
    (has : (.ref a :: argsL).toArray = as') (eT : T.heap = h) (hc : cells + kc ≤ R.cells) (hl : slots + ks ≤ R.slots)
    (go : ∀ (T' : State) (v : Option Value) (L : List Loc), Stand p l e R s m args below meth c T' (locs ++ L) (cells + kc) (slots + ks) → Q v T'.heap L → Owe p.tables e below G T' (mkF m (pc + 3) Ls (v.toList ++ rest))) : Owe p.tables e below G T (mkF m pc Ls st) := by
  obtain ⟨cq, kq, qa, qb, qc⟩ := isOf hZ eT E
  obtain ⟨v, _, ⟨T', L', k', n'⟩, -, X', ⟨L, hQ, l', y', z'⟩, st'⟩ := X.virtualBackUp hx hown hlink hsame hdecl howner hsel hinst hK qa qc (g := mkF m pc Ls st) rfl hsize (Steps.refl _) hlen hs (by show 2 * 0 + _ ≤ W; omega) hd (fun _ _ => ⟨has, eT, hc, hl⟩)
  dsimp only [Pt.U, Pt.locs, Pt.cells, Pt.slots] at X' l' y' z' st' hQ
  subst l' y' z'
  exact Owe.by (fun t k => st'.trans k) (go T' v L X' hQ)
theorem Owe.stat (X : Stand p l e R s m args below meth c T locs cells slots) (hx : p.tables.exec = Jvm.exec) {own : String} {index : Nat} {bytes : ByteArray} {maxL : Nat} {ret : Option FieldType} (hown : s.vm.findClass own = some m.cls) (hlink : (Cond.methodLink own index y).before args s = true) (hstat : (Cond.static y).before args s = true) (hinit : (Cond.initialized y.cls).before args s = true) (hcode : (Cond.code y bytes maxL ret).before args s = true) (hy : y.cls ≠ "java/lang/invoke/MethodHandle" ∧ y.cls ≠ "java/lang/invoke/VarHandle")
    (hK : Back l R p e below s args y 3 W (fun A a => a = as' ∧ A.U.heap = h ∧ A.cells + kc ≤ R.cells ∧ A.slots + ks ≤ R.slots) (fun A _ v B => ∃ L, Q v B.U.heap L ∧ B.locs = A.locs ++ L ∧ B.cells = A.cells + kc ∧ B.slots = A.slots + ks))
    (hsize : Ls.size = c.maxLocals) {argsL rest : List Value} (hlen : ∀ sig, parseMethodDescriptor y.desc = some sig → argsL.length = sig.parameters.length) (hs : st = argsL.reverse ++ rest) (hW : (rest.map fun v => v.category).sum ≤ W) (hd : decode c.code pc = .ok (.invokestatic index, 3))
    (has : argsL.toArray = as') (eT : T.heap = h) (hc : cells + kc ≤ R.cells) (hl : slots + ks ≤ R.slots)
    (go : ∀ (T' : State) (v : Option Value) (L : List Loc), Stand p l e R s m args below meth c T' (locs ++ L) (cells + kc) (slots + ks) → Q v T'.heap L → Owe p.tables e below G T' (mkF m (pc + 3) Ls (v.toList ++ rest))) : Owe p.tables e below G T (mkF m pc Ls st) := by
  obtain ⟨v, _, ⟨T', L', k', n'⟩, -, X', ⟨L, hQ, l', y', z'⟩, st'⟩ := Jvm.LawKit.callS X hx hown hlink hstat hinit hcode hy hK (g := mkF m pc Ls st) rfl hsize hlen hs (by show 2 * 0 + _ ≤ W; omega) hd (fun _ _ => ⟨has, eT, hc, hl⟩)
  dsimp only [Pt.U, Pt.locs, Pt.cells, Pt.slots] at X' l' y' z' st' hQ
  subst l' y' z'
  exact Owe.by st' (go T' v L X' hQ)
/-! the end: it returns -/
theorem Owe.retN (X : Stand p l e R s m args below meth c T locs cells slots) (hx : p.tables.exec = Jvm.exec) (hlk : meth.locks = false) {z : Int32} {t : FieldType} {rest : List Value} (hret : meth.sig.returnType = some t) (ht : t = .boolean ∨ t = .byte ∨ t = .char ∨ t = .short) (hd : decode c.code pc = .ok (.ireturn, 1)) (hs : st = .int z :: rest)
    (go : ∀ fs : List Frame, FrameEnd s (.returned (some (.int (nar t z)))) (T.setFrames fs) locs cells slots → G (.returned (some (.int (nar t z)))) (T.setFrames fs)) : Owe p.tables e below G T (mkF m pc Ls st) := by
  subst hs
  obtain ⟨fs, hr, hrun, hended, hW, hsame⟩ := X.leave (v := some (.int (nar t z))) (fun h => by rw [hret] at h; cases h) hlk
  exact ⟨_, _, Jvm.RoadKit.retN X hx hret ht hd hr, hrun, hended, go fs ⟨⟨_, rfl⟩, hW, hsame⟩⟩
theorem Owe.retI (X : Stand p l e R s m args below meth c T locs cells slots) (hx : p.tables.exec = Jvm.exec) (hlk : meth.locks = false) {z : Int32} {rest : List Value} (hret : meth.sig.returnType = some .int) (hd : decode c.code pc = .ok (.ireturn, 1)) (hs : st = .int z :: rest)
    (go : ∀ fs : List Frame, FrameEnd s (.returned (some (.int z))) (T.setFrames fs) locs cells slots → G (.returned (some (.int z))) (T.setFrames fs)) : Owe p.tables e below G T (mkF m pc Ls st) := by
  subst hs
  obtain ⟨fs, hr, hrun, hended, hW, hsame⟩ := X.leave (v := some (.int z)) (fun h => by rw [hret] at h; cases h) hlk
  have hm' : T.vm.method? m = some meth := X.method'
  have hn : narrow .int (.int z) = .int z := rfl
  refine ⟨_, _, ?_, hrun, hended, go fs ⟨⟨_, rfl⟩, hW, hsame⟩⟩
  show Steps p.tables e below (T.setTop { method := m, pc := pc, locals := Ls, stack := _ :: rest, locked := none }) _
  jvm_step X.here [X.here.top, hx, hd, hm', hret, hn]
  first | (intro acts; rw [hr _ acts rfl rfl rfl]) | rw [hr _ _ rfl rfl rfl]
  exact Steps.refl _
theorem Owe.retR (X : Stand p l e R s m args below meth c T locs cells slots) (hx : p.tables.exec = Jvm.exec) (hlk : meth.locks = false) {w : Value} {t : FieldType} {rest : List Value} (hret : meth.sig.returnType = some t) (hn : narrow t w = w) (ht : t.isReference = true) (hw : w.isRef = true) (hd : decode c.code pc = .ok (.areturn, 1)) (hs : st = w :: rest)
    (go : ∀ fs : List Frame, FrameEnd s (.returned (some w)) (T.setFrames fs) locs cells slots → G (.returned (some w)) (T.setFrames fs)) : Owe p.tables e below G T (mkF m pc Ls st) := by
  subst hs
  obtain ⟨fs, hr, hrun, hended, hW, hsame⟩ := X.leave (v := some w) (fun h => by rw [hret] at h; cases h) hlk
  have hm' : T.vm.method? m = some meth := X.method'
  refine ⟨_, _, ?_, hrun, hended, go fs ⟨⟨_, rfl⟩, hW, hsame⟩⟩
  show Steps p.tables e below (T.setTop { method := m, pc := pc, locals := Ls, stack := _ :: rest, locked := none }) _
  jvm_step X.here [X.here.top, hx, hd, hm', hret, hn, hw]
  try (refine ⟨ht, ?_⟩)
  first | (intro acts; rw [hr _ acts rfl rfl rfl]) | rw [hr _ _ rfl rfl rfl]
  exact Steps.refl _
theorem Owe.ret0 (X : Stand p l e R s m args below meth c T locs cells slots) (hx : p.tables.exec = Jvm.exec) (hlk : meth.locks = false) (hret : meth.sig.returnType = none) (hd : decode c.code pc = .ok (.return_, 1)) (hs : st = [])
    (go : ∀ fs : List Frame, FrameEnd s (.returned none) (T.setFrames fs) locs cells slots → G (.returned none) (T.setFrames fs)) : Owe p.tables e below G T (mkF m pc Ls st) := by
  subst hs
  obtain ⟨fs, hr, hrun, hended, hW, hsame⟩ := X.leave (v := none) (fun _ => rfl) hlk
  exact ⟨_, _, X.returnOut hx hret hd hr, hrun, hended, go fs ⟨⟨_, rfl⟩, hW, hsame⟩⟩
end Heavy
theorem frameMono {s t : State} {o : Outcome} {L : List Loc} {k n k' n' : Nat} (h : FrameEnd s o t L k n) (hk : k ≤ k') (hn : n ≤ n') : FrameEnd s o t L k' n' := ⟨h.1, h.2.1, h.2.2.mono hk hn⟩
end Own
end Jvm.Pilot.@@N@@
namespace Jvm.Pilot.@@N@@
namespace Own
open Jvm Jvm.ClassFile Sem Op Lib Jvm.Free Jvm.Stand Jvm.LawKit Jvm.RoadKit
/-! WALKS THAT MAY LOAD A STRING CONSTANT COLD: the Stand is over 's.setVm vm0', 'hS' says what has come since the true start s -/
section Cold
variable {p : Program} {l : Launch} {e : Env} {R : Room} {s : State} {m : MethodId} {args : Array Value} {below : List Frame} {meth : Method} {c : Code} {T : State} {locs : List Loc} {cells slots : Nat} {Z : State} {a0 : Array Value} {h : Heap} {G : Outcome → State → Prop} {pc : Nat} {Ls : Array Slot} {st : List Value} {vm0 : Vm} {k0 : Nat} {EL : List (String × Nat)}
theorem coldMono {s t : State} {o : Outcome} {L : List Loc} {k n k' n' : Nat} (h : ReturnedEndW s o t L k n) (hk : k ≤ k') (hn : n ≤ n') : ReturnedEndW s o t L k' n' := ⟨h.1, h.2.1, h.2.2.1, h.2.2.2.mono hk hn⟩
theorem Owe.ldcO (X : Stand p l e R (s.setVm vm0) m args below meth c T locs cells slots) (hx : p.tables.exec = Jvm.exec) (hZ : Z.Warmed39 (s.setVm vm0).vm) (hS : s.Since vm0 k0) (hEL : EW Z a0 EL) (H : CHv Z EL vm0 h) {own text : String} {index : Nat} (hown : (s.setVm vm0).vm.findClass own = some m.cls) (w : (Cond.stringLink own index text).before a0 Z = true) (wS : ∀ a ∈ Bundle.stringAtoms, a.before a0 Z = true) (eT : T.heap = h) (hk : k0 ≤ h.size) (hd : decode c.code pc = .ok (.ldc index, 2)) {n : Nat} (hn : 4 * text.toList.length ≤ n) (hbig : n ≤ 536870912) (hc : cells + 2 ≤ R.cells) (hl : slots + (n + 4) ≤ R.slots)
    (go : ∀ (a : Addr) (T' : State) (h' : Heap) (k1 : Nat), Stand p l e R (s.setVm T'.vm) m args below meth c T' locs (cells + 2) (slots + (n + 4)) → T'.heap = h' → Ext h h' → s.Since T'.vm k1 → k1 ≤ h'.size → Z.Warmed39 (s.setVm T'.vm).vm → (s.setVm T'.vm).vm.findClass own = some m.cls → CHr Z EL vm0 h T'.vm h' → Lit (s.setVm T'.vm) own index a → Owe p.tables e below G T' (mkF m (pc + 2) Ls (.ref a :: st))) : Owe p.tables e below G T (mkF m pc Ls st) := by
  obtain ⟨a, T', h', k1, X', e', E', hS', hk', hZ', hown', hC', L', st'⟩ := ldcOH X hx hZ hown w wS eT hS hk hEL H (g := mkF m pc Ls st) rfl hd hn hbig hc hl
  exact Owe.by st' (go a T' h' k1 X' e' E' hS' hk' hZ' hown' hC' L')
theorem Owe.ldcV (X : Stand p l e R (s.setVm vm0) m args below meth c T locs cells slots) (hx : p.tables.exec = Jvm.exec) (hZ : Z.Warmed39 (s.setVm vm0).vm) (hS : s.Since vm0 k0) (hEL : EW Z a0 EL) (H : CHv Z EL vm0 h) {own text : String} {index : Nat} (hmem : (own, index) ∈ EL) (hown : (s.setVm vm0).vm.findClass own = some m.cls) (w : (Cond.stringLink own index text).before a0 Z = true) (wS : ∀ a ∈ Bundle.stringAtoms, a.before a0 Z = true) (eT : T.heap = h) (hk : k0 ≤ h.size)
    {vs : List Value} {z : Int32} (ht : (∀ c ∈ text.toList, c.toNat < 256) ∧ text.toList.map (fun c => Value.int (Jvm.Lit.byteI c.toNat.toUInt16)) = vs) (hz : ¬ z < 0) (hlv : z.toNatClampNeg = vs.length) (hd : decode c.code pc = .ok (.ldc index, 2)) {n : Nat} (hn : 4 * text.toList.length ≤ n) (hbig : n ≤ 536870912) (hc : cells + 2 ≤ R.cells) (hl : slots + (n + 4) ≤ R.slots)
    (go : ∀ (a : Addr) (T' : State) (h' : Heap) (k1 : Nat) (b : Addr) (k : ClassId), Stand p l e R (s.setVm T'.vm) m args below meth c T' locs (cells + 2) (slots + (n + 4)) → T'.heap = h' → Ext h h' → s.Since T'.vm k1 → k1 ≤ h'.size → Z.Warmed39 (s.setVm T'.vm).vm → (s.setVm T'.vm).vm.findClass own = some m.cls →
      Exa Z h' a "java/lang/String" → Fld Z h' a "java/lang/String" "coder" "B" (.int 0) → Fld Z h' a "java/lang/String" "value" "[B" (.ref b) → Arv Z h' b k .byte z vs (.int 0) → CHr Z EL vm0 h T'.vm h' → Lit (s.setVm T'.vm) own index a → (∀ x, Safe Z EL T'.vm h' x → x ≠ a ∧ x ≠ b) → Owe p.tables e below G T' (mkF m (pc + 2) Ls (.ref a :: st))) : Owe p.tables e below G T (mkF m pc Ls st) := by
  obtain ⟨a, T', h', k1, b, k, X', e', E', hS', hk', hZ', hown', r1, r2, r3, r4, -, -, r7, r8, r9, st'⟩ := ldcCH X hx hZ hown w wS eT hS hk hEL hmem H ht hz hlv (g := mkF m pc Ls st) rfl hd hn hbig hc hl
  exact Owe.by st' (go a T' h' k1 b k X' e' E' hS' hk' hZ' hown' r1 r2 r3 r4 r7 r8 r9)
theorem Owe.ldcA (X : Stand p l e R (s.setVm vm0) m args below meth c T locs cells slots) (hx : p.tables.exec = Jvm.exec) (hZ : Z.Warmed39 (s.setVm vm0).vm) {own text : String} {index : Nat} (hown : (s.setVm vm0).vm.findClass own = some m.cls) (w : (Cond.stringLink own index text).before a0 Z = true) {a : Addr} (L : Lit (s.setVm vm0) own index a) (hd : decode c.code pc = .ok (.ldc index, 2)) (go : Owe p.tables e below G T (mkF m (pc + 2) Ls (.ref a :: st))) : Owe p.tables e below G T (mkF m pc Ls st) :=
  Owe.by (ldcAgain X hx hZ hown w L (g := mkF m pc Ls st) rfl hd) go
variable {y z : MethodName} {as' : Array Value} {Q : Option Value → Heap → List Loc → Prop} {W kc ks : Nat}
theorem Owe.specialS (X : Stand p l e R (s.setVm vm0) m args below meth c T locs cells slots) (hx : p.tables.exec = Jvm.exec) (hZ : Z.Warmed39 (s.setVm vm0).vm) (hS : s.Since vm0 k0) (hk : k0 ≤ h.size) {own : String} {index : Nat} (hy1 : y.name = "<init>") (hown : (s.setVm vm0).vm.findClass own = some m.cls) (hlink : (Cond.methodLink own index y).before args (s.setVm vm0) = true) (hinst : (Cond.instanceMethod y).before args (s.setVm vm0) = true) {bytes : ByteArray} {maxL : Nat} (hcode : (Cond.code y bytes maxL none).before args (s.setVm vm0) = true) (hy : y.cls ≠ "java/lang/invoke/MethodHandle" ∧ y.cls ≠ "java/lang/invoke/VarHandle")
    (hK : BackS l R p e below (s.setVm vm0) args y 3 W (fun A a => a = as' ∧ A.U.heap = h ∧ A.cells + kc ≤ R.cells ∧ A.slots + ks ≤ R.slots) (fun A _ v B => ∃ L, Q v B.U.heap L ∧ B.locs = A.locs ++ L ∧ B.cells = A.cells + kc ∧ B.slots = A.slots + ks ∧ CHr Z EL vm0 h B.U.vm B.U.heap))
    (hsize : Ls.size = c.maxLocals) {a : Addr} {argsL rest : List Value} (hlen : ∀ sig, parseMethodDescriptor y.desc = some sig → argsL.length = sig.parameters.length) (hs : st = argsL.reverse ++ .ref a :: rest) (hW : (rest.map fun v => v.category).sum ≤ W) (hd : decode c.code pc = .ok (.invokespecial index, 3))
    (has : (.ref a :: argsL).toArray = as') (eT : T.heap = h) (hc : cells + kc ≤ R.cells) (hl : slots + ks ≤ R.slots)
    (go : ∀ (T' : State) (v : Option Value) (L : List Loc), Stand p l e R (s.setVm T'.vm) m args below meth c T' (locs ++ L) (cells + kc) (slots + ks) → s.Since T'.vm T'.heap.size → Z.Warmed39 (s.setVm T'.vm).vm → (s.setVm T'.vm).vm.findClass own = some m.cls → CHr Z EL vm0 h T'.vm T'.heap → Q v T'.heap L → Owe p.tables e below G T' (mkF m (pc + 3) Ls (v.toList ++ rest))) : Owe p.tables e below G T (mkF m pc Ls st) := by
  obtain ⟨v, _, ⟨T', L', k', n'⟩, -, X', hS', hg', ⟨L, hQ, l', y', z', hC'⟩, st'⟩ := X.specialBackS hx hy1 hown hlink hinst hcode hy hK (g := mkF m pc Ls st) rfl hsize (Steps.refl _) hlen hs (by show 2 * 0 + _ ≤ W; omega) hd (fun _ _ => ⟨has, eT, hc, hl⟩)
  dsimp only [Pt.U, Pt.locs, Pt.cells, Pt.slots] at X' l' y' z' st' hQ hS' hg' hC'
  subst l' y' z'
  exact Owe.by (fun t k => st'.trans k) (go T' v L X' (hS.trans hS' (Nat.le_trans hk (eT ▸ hg'))) (State.Warmed39.trans (t := s.setVm vm0) hZ hS'.1) (by rw [show (s.setVm T'.vm).vm = T'.vm from rfl, hS'.1.alike.findClass]; exact hown) hC' hQ)
theorem Owe.virtS (X : Stand p l e R (s.setVm vm0) m args below meth c T locs cells slots) (hx : p.tables.exec = Jvm.exec) (hZ : Z.Warmed39 (s.setVm vm0).vm) (hS : s.Since vm0 k0) (hk : k0 ≤ h.size) {own C : String} {index : Nat} (hown : (s.setVm vm0).vm.findClass own = some m.cls) (hlink : (Cond.methodLink own index y).before args (s.setVm vm0) = true) (hdecl : (Cond.declares y).before args (s.setVm vm0) = true) (hsel : (Cond.selects C y z).before args (s.setVm vm0) = true) (hinst : (Cond.instanceMethod z).before args (s.setVm vm0) = true) (hnf : NotFace (s.setVm vm0) y) (hy : y.cls ≠ "java/lang/invoke/MethodHandle" ∧ y.cls ≠ "java/lang/invoke/VarHandle")
    (hK : BackS l R p e below (s.setVm vm0) args z 3 W (fun A a => a = as' ∧ A.U.heap = h ∧ A.cells + kc ≤ R.cells ∧ A.slots + ks ≤ R.slots) (fun A _ v B => ∃ L, Q v B.U.heap L ∧ B.locs = A.locs ++ L ∧ B.cells = A.cells + kc ∧ B.slots = A.slots + ks ∧ CHr Z EL vm0 h B.U.vm B.U.heap))
    (hsize : Ls.size = c.maxLocals) {a : Addr} {argsL rest : List Value} (E : Exa Z h a C) (hlen : ∀ sig, parseMethodDescriptor y.desc = some sig → argsL.length = sig.parameters.length) (hs : st = argsL.reverse ++ .ref a :: rest) (hW : (rest.map fun v => v.category).sum ≤ W) (hd : decode c.code pc = .ok (.invokevirtual index, 3))
    (has : (.ref a :: argsL).toArray = as') (eT : T.heap = h) (hc : cells + kc ≤ R.cells) (hl : slots + ks ≤ R.slots)
    (go : ∀ (T' : State) (v : Option Value) (L : List Loc), Stand p l e R (s.setVm T'.vm) m args below meth c T' (locs ++ L) (cells + kc) (slots + ks) → s.Since T'.vm T'.heap.size → Z.Warmed39 (s.setVm T'.vm).vm → (s.setVm T'.vm).vm.findClass own = some m.cls → CHr Z EL vm0 h T'.vm T'.heap → Q v T'.heap L → Owe p.tables e below G T' (mkF m (pc + 3) Ls (v.toList ++ rest))) : Owe p.tables e below G T (mkF m pc Ls st) := by
  obtain ⟨cq, kq, qa, qb, qc⟩ := isOf hZ eT E
  obtain ⟨v, _, ⟨T', L', k', n'⟩, -, X', hS', hg', ⟨L, hQ, l', y', z', hC'⟩, st'⟩ := X.virtualBackS hx hown hlink hdecl hnf hsel hinst hy hK qa qc (g := mkF m pc Ls st) rfl hsize (Steps.refl _) hlen hs (by show 2 * 0 + _ ≤ W; omega) hd (fun _ _ => ⟨has, eT, hc, hl⟩)
  dsimp only [Pt.U, Pt.locs, Pt.cells, Pt.slots] at X' l' y' z' st' hQ hS' hg' hC'
  subst l' y' z'
  exact Owe.by (fun t k => st'.trans k) (go T' v L X' (hS.trans hS' (Nat.le_trans hk (eT ▸ hg'))) (State.Warmed39.trans (t := s.setVm vm0) hZ hS'.1) (by rw [show (s.setVm T'.vm).vm = T'.vm from rfl, hS'.1.alike.findClass]; exact hown) hC' hQ)
theorem Owe.statS (X : Stand p l e R (s.setVm vm0) m args below meth c T locs cells slots) (hx : p.tables.exec = Jvm.exec) (hZ : Z.Warmed39 (s.setVm vm0).vm) (hS : s.Since vm0 k0) (hk : k0 ≤ h.size) {own : String} {index : Nat} {bytes : ByteArray} {maxL : Nat} {ret : Option FieldType} (hown : (s.setVm vm0).vm.findClass own = some m.cls) (hlink : (Cond.methodLink own index y).before args (s.setVm vm0) = true) (hstat : (Cond.static y).before args (s.setVm vm0) = true) (hinit : (Cond.initialized y.cls).before args (s.setVm vm0) = true) (hcode : (Cond.code y bytes maxL ret).before args (s.setVm vm0) = true) (hy : y.cls ≠ "java/lang/invoke/MethodHandle" ∧ y.cls ≠ "java/lang/invoke/VarHandle")
    (hK : BackS l R p e below (s.setVm vm0) args y 3 W (fun A a => a = as' ∧ A.U.heap = h ∧ A.cells + kc ≤ R.cells ∧ A.slots + ks ≤ R.slots) (fun A _ v B => ∃ L, Q v B.U.heap L ∧ B.locs = A.locs ++ L ∧ B.cells = A.cells + kc ∧ B.slots = A.slots + ks ∧ CHr Z EL vm0 h B.U.vm B.U.heap))
    (hsize : Ls.size = c.maxLocals) {argsL rest : List Value} (hlen : ∀ sig, parseMethodDescriptor y.desc = some sig → argsL.length = sig.parameters.length) (hs : st = argsL.reverse ++ rest) (hW : (rest.map fun v => v.category).sum ≤ W) (hd : decode c.code pc = .ok (.invokestatic index, 3))
    (has : argsL.toArray = as') (eT : T.heap = h) (hc : cells + kc ≤ R.cells) (hl : slots + ks ≤ R.slots)
    (go : ∀ (T' : State) (v : Option Value) (L : List Loc), Stand p l e R (s.setVm T'.vm) m args below meth c T' (locs ++ L) (cells + kc) (slots + ks) → s.Since T'.vm T'.heap.size → Z.Warmed39 (s.setVm T'.vm).vm → (s.setVm T'.vm).vm.findClass own = some m.cls → CHr Z EL vm0 h T'.vm T'.heap → Q v T'.heap L → Owe p.tables e below G T' (mkF m (pc + 3) Ls (v.toList ++ rest))) : Owe p.tables e below G T (mkF m pc Ls st) := by
  obtain ⟨v, _, ⟨T', L', k', n'⟩, -, X', hS', hg', ⟨L, hQ, l', y', z', hC'⟩, st'⟩ := callSS X hx hown hlink hstat hinit hcode hy hK (g := mkF m pc Ls st) rfl hsize hlen hs (by show 2 * 0 + _ ≤ W; omega) hd (fun _ _ => ⟨has, eT, hc, hl⟩)
  dsimp only [Pt.U, Pt.locs, Pt.cells, Pt.slots] at X' l' y' z' st' hQ hS' hg' hC'
  subst l' y' z'
  exact Owe.by (fun t k => st'.trans k) (go T' v L X' (hS.trans hS' (Nat.le_trans hk (eT ▸ hg'))) (State.Warmed39.trans (t := s.setVm vm0) hZ hS'.1) (by rw [show (s.setVm T'.vm).vm = T'.vm from rfl, hS'.1.alike.findClass]; exact hown) hC' hQ)
theorem Owe.retNW (X : Stand p l e R (s.setVm vm0) m args below meth c T locs cells slots) (hx : p.tables.exec = Jvm.exec) (hS : s.Since vm0 k0) (eT : T.heap = h) (hk : k0 ≤ h.size) (hlk : meth.locks = false) {z : Int32} {t : FieldType} {rest : List Value} (hret : meth.sig.returnType = some t) (ht : t = .boolean ∨ t = .byte ∨ t = .char ∨ t = .short) (hd : decode c.code pc = .ok (.ireturn, 1)) (hs : st = .int z :: rest)
    (go : ∀ fs : List Frame, ReturnedEndW s (.returned (some (.int (nar t z)))) (T.setFrames fs) locs cells slots → G (.returned (some (.int (nar t z)))) (T.setFrames fs)) : Owe p.tables e below G T (mkF m pc Ls st) := by
  subst hs
  obtain ⟨fs, hr, hrun, hended, hE⟩ := X.leaveW hS (eT ▸ hk) (v := some (.int (nar t z))) (fun h => by rw [hret] at h; cases h) hlk
  exact ⟨_, _, Jvm.RoadKit.retN X hx hret ht hd hr, hrun, hended, go fs hE⟩
theorem Owe.retRW (X : Stand p l e R (s.setVm vm0) m args below meth c T locs cells slots) (hx : p.tables.exec = Jvm.exec) (hS : s.Since vm0 k0) (eT : T.heap = h) (hk : k0 ≤ h.size) (hlk : meth.locks = false) {w : Value} {t : FieldType} {rest : List Value} (hret : meth.sig.returnType = some t) (hn : narrow t w = w) (ht : t.isReference = true) (hw : w.isRef = true) (hd : decode c.code pc = .ok (.areturn, 1)) (hs : st = w :: rest)
    (go : ∀ fs : List Frame, ReturnedEndW s (.returned (some w)) (T.setFrames fs) locs cells slots → G (.returned (some w)) (T.setFrames fs)) : Owe p.tables e below G T (mkF m pc Ls st) := by
  subst hs
  obtain ⟨fs, hr, hrun, hended, hE⟩ := X.leaveW hS (eT ▸ hk) (v := some w) (fun h => by rw [hret] at h; cases h) hlk
  have hm' : T.vm.method? m = some meth := X.method'
  refine ⟨_, _, ?_, hrun, hended, go fs hE⟩
  show Steps p.tables e below (T.setTop { method := m, pc := pc, locals := Ls, stack := _ :: rest, locked := none }) _
  jvm_step X.here [X.here.top, hx, hd, hm', hret, hn, hw]
  try (refine ⟨ht, ?_⟩)
  first | (intro acts; rw [hr _ acts rfl rfl rfl]) | rw [hr _ _ rfl rfl rfl]
  exact Steps.refl _
theorem Owe.ret0W (X : Stand p l e R (s.setVm vm0) m args below meth c T locs cells slots) (hx : p.tables.exec = Jvm.exec) (hS : s.Since vm0 k0) (eT : T.heap = h) (hk : k0 ≤ h.size) (hlk : meth.locks = false) (hret : meth.sig.returnType = none) (hd : decode c.code pc = .ok (.return_, 1)) (hs : st = [])
    (go : ∀ fs : List Frame, ReturnedEndW s (.returned none) (T.setFrames fs) locs cells slots → G (.returned none) (T.setFrames fs)) : Owe p.tables e below G T (mkF m pc Ls st) := by
  subst hs
  obtain ⟨fs, hr, hrun, hended, hE⟩ := X.leaveW hS (eT ▸ hk) (v := none) (fun _ => rfl) hlk
  exact ⟨_, _, X.returnOut hx hret hd hr, hrun, hended, go fs hE⟩
end Cold
end Own
end Jvm.Pilot.@@N@@
namespace Jvm.Pilot.@@N@@
open Jvm Jvm.ClassFile Sem Op Lib Jvm.Free Jvm.Stand Jvm.LawKit Jvm.RoadKit Bundle Jvm.Pilot.@@N@@.Jvm.D Jvm.Pilot.@@N@@.Own
theorem and255_chars (x : Int32) : ¬ nar .char ((x &&& (255 : Int32)).toUInt32.toUInt16.toUInt32.toInt32) < 0 ∧ ¬ (255 : Int32) < nar .char ((x &&& (255 : Int32)).toUInt32.toUInt16.toUInt32.toInt32) := by
  have t : ∀ k : Fin 256, ¬ nar .char ((Int32.ofNat k.val).toUInt32.toUInt16.toUInt32.toInt32) < 0 ∧ ¬ (255 : Int32) < nar .char ((Int32.ofNat k.val).toUInt32.toUInt16.toUInt32.toInt32) := by decide +kernel
  have h : (x &&& 255).toBitVec.toNat < 256 := by
    simp only [Int32.toBitVec_and, BitVec.toNat_and]
    exact Nat.lt_succ_of_le Nat.and_le_right
  have e : (x &&& 255) = Int32.ofNat (x &&& 255).toBitVec.toNat := by
    apply Int32.toBitVec_inj.mp
    show _ = BitVec.ofNat 32 _
    rw [BitVec.ofNat_toNat]; simp
  rw [e]
  exact t ⟨_, h⟩
theorem own_narrow_ref {v : Value} {t : FieldType} (h : v.isRef = true) (ht : t.isReference = true) : narrow t v = v := by cases t <;> first | (cases ht; done) | (cases v <;> first | rfl | (cases h; done))
theorem own_fits_ref {v : Value} {t : FieldType} (h : v.isRef = true) (ht : t.isReference = true) : fits t v = true := by cases t <;> first | (cases ht; done) | (cases v <;> first | rfl | (cases h; done))
theorem own_cat_ref {v : Value} (h : v.isRef = true) : v.category = 1 := by cases v <;> first | rfl | (cases h; done)
theorem own_eq_int {args : Array Value} {Z : State} {t : Term} {j : Int32} (h : (Jvm.Cond.eq t (Term.int j)).value args Z none Z [] = some true) : t.eval args Z none [] Z = some (.int j) := by
  obtain ⟨x, y, ha, hb, hk, -⟩ := cmp_v (Or.inl h)
  have hj : (Term.int j).eval args Z none [] Z = some (.int j) := Term.int_eval j
  cases x with
  | int z => rw [ha, gotT (Cond.eq_ints ha hj) h]
  | _ => simp [Cond.value, ha, hj] at h
theorem own_eq_ref {args : Array Value} {Z : State} {t u : Term} {b : Addr} (eu : u.eval args Z none [] Z = some (.ref b)) (h : (Jvm.Cond.eq t u).value args Z none Z [] = some true) : t.eval args Z none [] Z = some (.ref b) := by
  obtain ⟨x, y, ha, hb, hk, -⟩ := cmp_v (Or.inl h)
  cases x with
  | ref z => simp [Cond.value, ha, eu] at h; rw [ha, h]
  | _ => simp [Cond.value, ha, eu] at h
theorem own_fld_int {Z : State} {args : Array Value} {t : Term} {a : Addr} {C n d : String} {j : Int32} (ev : t.eval args Z none [] Z = some (.ref a)) (h : (Jvm.Cond.eq (Term.field t C n d) (Term.int j)).value args Z none Z [] = some true) : Fld Z Z.heap a C n d (.int j) := Fld.start ((fld_at ev).symm.trans (own_eq_int h))
theorem own_fld_ref {Z : State} {args : Array Value} {t u : Term} {a b : Addr} {C n d : String} (ev : t.eval args Z none [] Z = some (.ref a)) (eu : u.eval args Z none [] Z = some (.ref b)) (h : (Jvm.Cond.eq (Term.field t C n d) u).value args Z none Z [] = some true) : Fld Z Z.heap a C n d (.ref b) := Fld.start ((fld_at ev).symm.trans (own_eq_ref eu h))
def own_EL : List (String × Nat) := []
theorem own_ew {Z : State} {a0 : Array Value} (hw : ∀ d ∈ tables_1, d.before a0 Z = true) : EW Z a0 own_EL := EW.nil
theorem own_sa : ∀ d ∈ Bundle.stringAtoms, d ∈ tables_1 := by decide +kernel
theorem own_wS {Z : State} {a0 : Array Value} (hw : ∀ d ∈ tables_1, d.before a0 Z = true) : ∀ a ∈ Bundle.stringAtoms, a.before a0 Z = true := fun d hd => hw d (own_sa d hd)
theorem own_safe_null {Z : State} {EL : List (String × Nat)} {vm : Vm} {h : Heap} {x : Addr} (hal : Z.vm.Alike vm) (E : Exa Z h x "java/lang/String") (F : Fld Z h x "java/lang/String" "value" "[B" .null) : Safe Z EL vm h x := fun B => by
  obtain ⟨p, -, u, a, -, q, -, S, rfl | rfl⟩ := B
  · obtain ⟨cS, ⟨⟨s1, -, -, ⟨c1, k1, i1, f1, -⟩, -, -, -, v1, -⟩, -⟩, -⟩ := S
    obtain ⟨cell, cf, k, i, f, h1, h2, -, -, -, -, h7⟩ := F
    cases h1.symm.trans (show h[q.sa]? = some q.sC from s1)
    obtain ⟨k3, e3, -⟩ := State.fieldFound?_setVm (s := Z) hal h2
    have e4 := (show (Wst Z vm h).fieldFound? _ _ _ = _ from e3).symm.trans f1
    simp only [Option.some.injEq, Prod.mk.injEq] at e4
    rw [e4.2.2.2, v1] at h7
    cases h7
  · obtain ⟨cell, k, e1, e2, e3, -, -⟩ := E
    cases (show h[q.sd]? = some q.SA from S.hd).symm.trans e1
    obtain ⟨cS, -, -, f, -⟩ := S
    have f' : Z.vm.findClass "[B" = some q.SA.cls := by rw [← hal.findClass]; exact f
    obtain ⟨k1, q1, q2⟩ := Vm.findClass_spec f'
    obtain ⟨k2, q3, q4⟩ := Vm.findClass_spec e2
    cases q1.symm.trans q3
    exact absurd (q2.symm.trans q4) (by decide)
theorem own_words : ∀ d ∈ StrChars.Road.words, d ∈ tables_1 := by decide +kernel
theorem pd_0 : parseMethodDescriptor "(C)Z" = some ⟨[.char], some .boolean⟩ := by decide +kernel
theorem pd_1 : parseMethodDescriptor "(C)[B" = some ⟨[.char], some (.array .byte)⟩ := by decide +kernel
theorem pd_2 : parseMethodDescriptor "([BB)V" = some ⟨[(.array .byte), .byte], none⟩ := by decide +kernel
theorem pd_3 : parseMethodDescriptor "()V" = some ⟨[], none⟩ := by decide +kernel
theorem pd_4 : parseMethodDescriptor "(Ljava/lang/Object;Ljava/lang/String;)Ljava/lang/Object;" = some ⟨[(.object "java/lang/Object"), (.object "java/lang/String")], some (.object "java/lang/Object")⟩ := by decide +kernel
theorem pd_5 : parseMethodDescriptor "()Lcom/example/overrule/overrule/model/Finding$Severity;" = some ⟨[], some (.object "com/example/overrule/overrule/model/Finding$Severity")⟩ := by decide +kernel
theorem pd_6 : parseMethodDescriptor "(C)Ljava/lang/String;" = some ⟨[.char], some (.object "java/lang/String")⟩ := by decide +kernel
theorem pd_7 : parseMethodDescriptor "(Lcom/example/overrule/overrule/model/Finding$Kind;Ljava/lang/String;)V" = some ⟨[(.object "com/example/overrule/overrule/model/Finding$Kind"), (.object "java/lang/String")], none⟩ := by decide +kernel
theorem pd_8 : parseMethodDescriptor "()Z" = some ⟨[], some .boolean⟩ := by decide +kernel
theorem pd_9 : parseMethodDescriptor "([C)V" = some ⟨[(.array .char)], none⟩ := by decide +kernel
theorem d0_0 : decode jdk_30_method_1_code 0 = .ok (.aload_n 0, 1) := by decide +kernel
theorem d0_1 : decode jdk_30_method_1_code 1 = .ok (.invokespecial 1, 3) := by decide +kernel
theorem d0_4 : decode jdk_30_method_1_code 4 = .ok (.return_, 1) := by decide +kernel
theorem pn_rec : plainName "java/lang/Record" = true := by first | (simp [plainName, overriddenIn]; done) | decide +kernel
theorem ef_rec (m : MethodId) (x0 : Addr)  : entryFrame m #[(.ref x0)] 1 = mkF m 0 #[.val (.ref x0)] [] := by first | (simp [entryFrame, mkF, argsToLocals, Value.category]; done) | rfl
def Qrec (Z : State) (a1 : Addr) (h0 : Heap) (n0 : Nat) (v : Option Value) (h : Heap) (L : List Loc) : Prop := v = none ∧ Fr n0 L ∧ h = h0
set_option maxRecDepth 65536 in
set_option maxHeartbeats 40000000 in
theorem rmrec (l : Launch) (Z : State) (a0 : Array Value) (hw : ∀ d ∈ tables_1, d.before a0 Z = true) (ws : List Jvm.Cond) (a1 : Addr) (h0 : Heap) (n0 : Nat) (Z0 : n0 ≤ h0.size)  :
    MetFree l (⟨"java/lang/Record", "<init>", "()V"⟩ : MethodName) (head1 (Jvm.Cond.code (⟨"java/lang/Record", "<init>", "()V"⟩ : MethodName) jdk_30_method_1_code 1 none :: ws) ({ frames := 1, cells := 0, slots := 0, locals := 12 } : Room)) (fun a U => a = #[(.ref a1)] ∧ Z.Warmed39 U.vm ∧ U.heap = h0) (fun _ _ _ _ _ => True) (fun _ U o U' => ∃ v L, o = .returned v ∧ Qrec Z a1 h0 n0 v U'.heap L ∧ FrameEnd U o U' L ({ frames := 1, cells := 0, slots := 0, locals := 12 } : Room).cells ({ frames := 1, cells := 0, slots := 0, locals := 12 } : Room).slots) := by
  refine MetFree.of_bodySF (plainFor_of_name pn_rec) hisR ?_
  intro p e s m args below meth c s₁ Bd hml0 hP hK
  obtain ⟨rfl, hZ, hh⟩ := hP
  have hx := Bd.exec
  have hby := Bd.bytes
  have hml : c.maxLocals = 1 := hml0
  have hown : s.vm.findClass "java/lang/Record" = some m.cls := findClass_of_methodNamed Bd.named
  have hnm := (name_of_methodNamed Bd.named Bd.method).1
  have hlk : meth.locks = false := BodyLoose.notSynchronized Bd
  have X0 : Stand p l e ({ frames := 1, cells := 0, slots := 0, locals := 12 } : Room) s m #[(.ref a1)] below meth c s₁ [] 0 0 := Stand.of_body Bd
  have e0 : s₁.heap = h0 := by rw [← hh, Bd.state]; rfl
  have N0 := Fr.nil n0
  obtain ⟨G, hG⟩ : ∃ G : Outcome → State → Prop, G = fun o u => ∃ v L, o = .returned v ∧ Qrec Z a1 h0 n0 v u.heap L ∧ FrameEnd s o u L ({ frames := 1, cells := 0, slots := 0, locals := 12 } : Room).cells ({ frames := 1, cells := 0, slots := 0, locals := 12 } : Room).slots := ⟨_, rfl⟩
  suffices hgo : Owe p.tables e below G s₁ (mkF m 0 #[.val (.ref a1)] []) by
    obtain ⟨u, o, h1, h2, h3, h4⟩ := hgo
    exact ⟨u, o, castTop (ef_rec m a1) h1, h2, h3, by rw [hG] at h4; exact h4⟩
  refine Owe.aloadN X0.here hx (hb hby d0_0) rfl rfl ?_
  refine Owe.objinit X0 hx hZ hown (hw _ (List.mem_of_getElem? (i := 41) rfl)) (hw _ (List.mem_of_getElem? (i := 24) rfl)) (hw _ (List.mem_of_getElem? (i := 25) rfl)) e0 (by rw [hml]; rfl) rfl (hb hby d0_1) (by decide) (W := 0) (Nat.le_of_ble_eq_true rfl) (by decide) fun T1 X1 e1 => ?_
  refine Owe.ret0 X1 hx hlk Bd.returns (hb hby d0_4) rfl fun fs hE => ?_
  rw [hG]
  refine ⟨_, _, rfl, ?_, frameMono hE (by decide) (by decide)⟩
  show Qrec Z a1 h0 n0 _ T1.heap _
  rw [e1]
  exact ⟨rfl, N0, rfl⟩
theorem d1_0 : decode jdk_43_method_3_code 0 = .ok (.iload_n 0, 1) := by decide +kernel
theorem d1_1 : decode jdk_43_method_3_code 1 = .ok (.sipush 255, 3) := by decide +kernel
theorem d1_4 : decode jdk_43_method_3_code 4 = .ok (.if_icmp .gt 7, 3) := by decide +kernel
theorem d1_7 : decode jdk_43_method_3_code 7 = .ok (.iconst 1, 1) := by decide +kernel
theorem d1_8 : decode jdk_43_method_3_code 8 = .ok (.goto 4, 3) := by decide +kernel
theorem d1_11 : decode jdk_43_method_3_code 11 = .ok (.iconst 0, 1) := by decide +kernel
theorem d1_12 : decode jdk_43_method_3_code 12 = .ok (.ireturn, 1) := by decide +kernel
theorem pn_cen : plainName "java/lang/StringLatin1" = true := by first | (simp [plainName, overriddenIn]; done) | decide +kernel
theorem ef_cen (m : MethodId) (x0 : Int32)  : entryFrame m #[(.int x0)] 1 = mkF m 0 #[.val (.int x0)] [] := by first | (simp [entryFrame, mkF, argsToLocals, Value.category]; done) | rfl
def Qcen (Z : State) (c1 : Int32) (h0 : Heap) (n0 : Nat) (v : Option Value) (h : Heap) (L : List Loc) : Prop := v = some (.int (1 : Int32)) ∧ Fr n0 L ∧ h = h0
set_option maxRecDepth 65536 in
set_option maxHeartbeats 40000000 in
theorem rmcen (l : Launch) (Z : State) (a0 : Array Value) (hw : ∀ d ∈ tables_1, d.before a0 Z = true) (ws : List Jvm.Cond) (c1 : Int32) (h0 : Heap) (n0 : Nat) (Z0 : n0 ≤ h0.size) (hle : ¬ (255 : Int32) < c1) :
    MetFree l (⟨"java/lang/StringLatin1", "canEncode", "(C)Z"⟩ : MethodName) (head1 (Jvm.Cond.code (⟨"java/lang/StringLatin1", "canEncode", "(C)Z"⟩ : MethodName) jdk_43_method_3_code 1 (some .boolean) :: ws) ({ frames := 0, cells := 0, slots := 0, locals := 0 } : Room)) (fun a U => a = #[(.int c1)] ∧ Z.Warmed39 U.vm ∧ U.heap = h0) (fun _ _ _ _ _ => True) (fun _ U o U' => ∃ v L, o = .returned v ∧ Qcen Z c1 h0 n0 v U'.heap L ∧ FrameEnd U o U' L ({ frames := 0, cells := 0, slots := 0, locals := 0 } : Room).cells ({ frames := 0, cells := 0, slots := 0, locals := 0 } : Room).slots) := by
  refine MetFree.of_bodySF (plainFor_of_name pn_cen) hisR ?_
  intro p e s m args below meth c s₁ Bd hml0 hP hK
  obtain ⟨rfl, hZ, hh⟩ := hP
  have hx := Bd.exec
  have hby := Bd.bytes
  have hml : c.maxLocals = 1 := hml0
  have hown : s.vm.findClass "java/lang/StringLatin1" = some m.cls := findClass_of_methodNamed Bd.named
  have hnm := (name_of_methodNamed Bd.named Bd.method).1
  have hlk : meth.locks = false := BodyLoose.notSynchronized Bd
  have X0 : Stand p l e ({ frames := 0, cells := 0, slots := 0, locals := 0 } : Room) s m #[(.int c1)] below meth c s₁ [] 0 0 := Stand.of_body Bd
  have e0 : s₁.heap = h0 := by rw [← hh, Bd.state]; rfl
  have N0 := Fr.nil n0
  obtain ⟨G, hG⟩ : ∃ G : Outcome → State → Prop, G = fun o u => ∃ v L, o = .returned v ∧ Qcen Z c1 h0 n0 v u.heap L ∧ FrameEnd s o u L ({ frames := 0, cells := 0, slots := 0, locals := 0 } : Room).cells ({ frames := 0, cells := 0, slots := 0, locals := 0 } : Room).slots := ⟨_, rfl⟩
  suffices hgo : Owe p.tables e below G s₁ (mkF m 0 #[.val (.int c1)] []) by
    obtain ⟨u, o, h1, h2, h3, h4⟩ := hgo
    exact ⟨u, o, castTop (ef_cen m c1) h1, h2, h3, by rw [hG] at h4; exact h4⟩
  refine Owe.iloadN X0.here hx (hb hby d1_0) rfl ?_
  refine Owe.sipush X0.here hx (hb hby d1_1) (w := (255 : Int32)) rfl ?_
  refine Owe.icmpNo X0.here hx (hb hby d1_4) rfl (flt hle).2.2.1 ?_
  refine Owe.iconst X0.here hx (hb hby d1_7) (w := (1 : Int32)) rfl ?_
  refine Owe.goto X0.here hx (hb hby d1_8) (pc' := 12) (by decide) (by decide) ?_
  refine Owe.retN X0 hx hlk (t := .boolean) Bd.returns (by simp) (hb hby d1_12) rfl fun fs hE => ?_
  rw [hG]
  refine ⟨_, _, rfl, ?_, frameMono hE (by decide) (by decide)⟩
  show Qcen Z c1 h0 n0 _ s₁.heap _
  rw [e0]
  exact ⟨rfl, N0, rfl⟩
theorem d2_0 : decode jdk_43_method_46_code 0 = .ok (.iconst 1, 1) := by decide +kernel
theorem d2_1 : decode jdk_43_method_46_code 1 = .ok (.newarray .byte, 2) := by decide +kernel
theorem d2_3 : decode jdk_43_method_46_code 3 = .ok (.dup, 1) := by decide +kernel
theorem d2_4 : decode jdk_43_method_46_code 4 = .ok (.iconst 0, 1) := by decide +kernel
theorem d2_5 : decode jdk_43_method_46_code 5 = .ok (.iload_n 0, 1) := by decide +kernel
theorem d2_6 : decode jdk_43_method_46_code 6 = .ok (.i2b, 1) := by decide +kernel
theorem d2_7 : decode jdk_43_method_46_code 7 = .ok (.bastore, 1) := by decide +kernel
theorem d2_8 : decode jdk_43_method_46_code 8 = .ok (.areturn, 1) := by decide +kernel
theorem pn_tob : plainName "java/lang/StringLatin1" = true := by first | (simp [plainName, overriddenIn]; done) | decide +kernel
theorem ef_tob (m : MethodId) (x0 : Int32)  : entryFrame m #[(.int x0)] 1 = mkF m 0 #[.val (.int x0)] [] := by first | (simp [entryFrame, mkF, argsToLocals, Value.category]; done) | rfl
def Qtob (Z : State) (c1 : Int32) (h0 : Heap) (n0 : Nat) (v : Option Value) (h : Heap) (L : List Loc) : Prop := ∃ (t1 : Addr), ∃ (k1 : ClassId), v = some (.ref t1) ∧ Fr n0 L ∧ Keep h0 h [] ∧ n0 ≤ t1 ∧ h0.size ≤ t1 ∧ Arv Z h t1 k1 .byte (1 : Int32) [(.int (c1.toInt8.toInt32.toInt8.toInt32))] (.int (0 : Int32))
set_option maxRecDepth 65536 in
set_option maxHeartbeats 40000000 in
theorem rmtob (l : Launch) (Z : State) (a0 : Array Value) (hw : ∀ d ∈ tables_1, d.before a0 Z = true) (ws : List Jvm.Cond) (c1 : Int32) (h0 : Heap) (n0 : Nat) (Z0 : n0 ≤ h0.size)  :
    MetFree l (⟨"java/lang/StringLatin1", "toBytes", "(C)[B"⟩ : MethodName) (head1 (Jvm.Cond.code (⟨"java/lang/StringLatin1", "toBytes", "(C)[B"⟩ : MethodName) jdk_43_method_46_code 1 (some (.array .byte)) :: ws) ({ frames := 0, cells := 1, slots := 1, locals := 0 } : Room)) (fun a U => a = #[(.int c1)] ∧ Z.Warmed39 U.vm ∧ U.heap = h0) (fun _ _ _ _ _ => True) (fun _ U o U' => ∃ v L, o = .returned v ∧ Qtob Z c1 h0 n0 v U'.heap L ∧ FrameEnd U o U' L ({ frames := 0, cells := 1, slots := 1, locals := 0 } : Room).cells ({ frames := 0, cells := 1, slots := 1, locals := 0 } : Room).slots) := by
  refine MetFree.of_bodySF (plainFor_of_name pn_tob) hisR ?_
  intro p e s m args below meth c s₁ Bd hml0 hP hK
  obtain ⟨rfl, hZ, hh⟩ := hP
  have hx := Bd.exec
  have hby := Bd.bytes
  have hml : c.maxLocals = 1 := hml0
  have hown : s.vm.findClass "java/lang/StringLatin1" = some m.cls := findClass_of_methodNamed Bd.named
  have hnm := (name_of_methodNamed Bd.named Bd.method).1
  have hlk : meth.locks = false := BodyLoose.notSynchronized Bd
  have X0 : Stand p l e ({ frames := 0, cells := 1, slots := 1, locals := 0 } : Room) s m #[(.int c1)] below meth c s₁ [] 0 0 := Stand.of_body Bd
  have e0 : s₁.heap = h0 := by rw [← hh, Bd.state]; rfl
  have N0 := Fr.nil n0
  have K0 := Keep.refl h0 []
  obtain ⟨G, hG⟩ : ∃ G : Outcome → State → Prop, G = fun o u => ∃ v L, o = .returned v ∧ Qtob Z c1 h0 n0 v u.heap L ∧ FrameEnd s o u L ({ frames := 0, cells := 1, slots := 1, locals := 0 } : Room).cells ({ frames := 0, cells := 1, slots := 1, locals := 0 } : Room).slots := ⟨_, rfl⟩
  suffices hgo : Owe p.tables e below G s₁ (mkF m 0 #[.val (.int c1)] []) by
    obtain ⟨u, o, h1, h2, h3, h4⟩ := hgo
    exact ⟨u, o, castTop (ef_tob m c1) h1, h2, h3, by rw [hG] at h4; exact h4⟩
  refine Owe.iconst X0.here hx (hb hby d2_0) (w := (1 : Int32)) rfl ?_
  refine Owe.newarr X0 hx hZ (aty := .byte) (hw _ (List.mem_of_getElem? (i := 18) rfl)) e0 (hb hby d2_1) rfl (by decide) (cap := 1) (by decide) (by decide) (by decide) (by decide) fun T2 h2 b2 k2 g2 X2 e2 E2 V2 => ?_
  have sz_b2 := Nat.le_trans K0.1 (Nat.le_of_eq g2.symm)
  have ge_b2 := Nat.le_trans Z0 (Nat.le_of_eq g2.symm)
  have K_3 := K0.ext E2
  have Z_4 := Nat.le_trans Z0 E2.1
  have V_b2_2 : Arv Z h2 b2 k2 .byte (1 : Int32) [(.int (0 : Int32))] (.int (0 : Int32)) := V2.pad (pad_rep [] (.int (0 : Int32)) 1)
  refine Owe.dup X2.here hx (hb hby d2_3) rfl rfl ?_
  refine Owe.iconst X2.here hx (hb hby d2_4) (w := (0 : Int32)) rfl ?_
  refine Owe.iloadN X2.here hx (hb hby d2_5) rfl ?_
  refine Owe.i2b X2.here hx (hb hby d2_6) rfl ?_
  refine Owe.bastore X2 hx hZ e2 V_b2_2 (x := (c1.toInt8.toInt32)) 0 rfl (Nat.le_of_ble_eq_true rfl) (by decide) (hb hby d2_7) rfl fun T5 h5 X5 e5 W5 (V5 : Arv Z h5 b2 k2 .byte (1 : Int32) [(.int ((c1.toInt8.toInt32).toInt8.toInt32))] (.int (0 : Int32))) => ?_
  have K_6 := K_3.wr W5 (Or.inr sz_b2)
  have Z_7 := Nat.le_trans Z_4 (Keep.of_wr W5).1
  have N5 := Fr.snoc X5 N0 ge_b2
  refine Owe.retR X5 hx hlk (t := (.array .byte)) Bd.returns rfl rfl rfl (hb hby d2_8) rfl fun fs hE => ?_
  rw [hG]
  refine ⟨_, _, rfl, ?_, frameMono hE (by decide) (by decide)⟩
  show Qtob Z c1 h0 n0 _ T5.heap _
  rw [e5]
  exact ⟨b2, k2, rfl, N5, K_6, ge_b2, sz_b2, V5⟩
theorem d3_0 : decode jdk_42_method_151_code 0 = .ok (.aload_n 0, 1) := by decide +kernel
theorem d3_1 : decode jdk_42_method_151_code 1 = .ok (.invokespecial 1, 3) := by decide +kernel
theorem d3_4 : decode jdk_42_method_151_code 4 = .ok (.aload_n 0, 1) := by decide +kernel
theorem d3_5 : decode jdk_42_method_151_code 5 = .ok (.aload_n 1, 1) := by decide +kernel
theorem d3_6 : decode jdk_42_method_151_code 6 = .ok (.putfield 9, 3) := by decide +kernel
theorem d3_9 : decode jdk_42_method_151_code 9 = .ok (.aload_n 0, 1) := by decide +kernel
theorem d3_10 : decode jdk_42_method_151_code 10 = .ok (.iload_n 2, 1) := by decide +kernel
theorem d3_11 : decode jdk_42_method_151_code 11 = .ok (.putfield 15, 3) := by decide +kernel
theorem d3_14 : decode jdk_42_method_151_code 14 = .ok (.return_, 1) := by decide +kernel
theorem pn_sbb : plainName "java/lang/String" = true := by first | (simp [plainName, overriddenIn]; done) | decide +kernel
theorem ef_sbb (m : MethodId) (x0 : Addr) (x1 : Addr) (x2 : Int32)  : entryFrame m #[(.ref x0), (.ref x1), (.int x2)] 3 = mkF m 0 #[.val (.ref x0), .val (.ref x1), .val (.int x2)] [] := by first | (simp [entryFrame, mkF, argsToLocals, Value.category]; done) | rfl
def Qsbb (Z : State) (a1 : Addr) (a2 : Addr) (u_v : Value) (u_c : Value) (h0 : Heap) (n0 : Nat) (v : Option Value) (h : Heap) (L : List Loc) : Prop := v = none ∧ Fr n0 L ∧ Keep h0 h [a1] ∧ Exa Z h a1 "java/lang/String" ∧ Fld Z h a1 "java/lang/String" "value" "[B" (.ref a2) ∧ Fld Z h a1 "java/lang/String" "coder" "B" (.int (0 : Int32))
set_option maxRecDepth 65536 in
set_option maxHeartbeats 40000000 in
theorem rmsbb (l : Launch) (Z : State) (a0 : Array Value) (hw : ∀ d ∈ tables_1, d.before a0 Z = true) (ws : List Jvm.Cond) (a1 : Addr) (a2 : Addr) (u_v : Value) (u_c : Value) (h0 : Heap) (n0 : Nat) (Z0 : n0 ≤ h0.size) (E_a1 : Exa Z h0 a1 "java/lang/String") (Fvalue_a1 : Fld Z h0 a1 "java/lang/String" "value" "[B" u_v) (Fcoder_a1 : Fld Z h0 a1 "java/lang/String" "coder" "B" u_c) (ge_a1 : n0 ≤ a1) :
    MetFree l (⟨"java/lang/String", "<init>", "([BB)V"⟩ : MethodName) (head1 (Jvm.Cond.code (⟨"java/lang/String", "<init>", "([BB)V"⟩ : MethodName) jdk_42_method_151_code 3 none :: ws) ({ frames := 1, cells := 0, slots := 0, locals := 12 } : Room)) (fun a U => a = #[(.ref a1), (.ref a2), (.int (0 : Int32))] ∧ Z.Warmed39 U.vm ∧ U.heap = h0) (fun _ _ _ _ _ => True) (fun _ U o U' => ∃ v L, o = .returned v ∧ Qsbb Z a1 a2 u_v u_c h0 n0 v U'.heap L ∧ FrameEnd U o U' L ({ frames := 1, cells := 0, slots := 0, locals := 12 } : Room).cells ({ frames := 1, cells := 0, slots := 0, locals := 12 } : Room).slots) := by
  refine MetFree.of_bodySF (plainFor_of_name pn_sbb) hisR ?_
  intro p e s m args below meth c s₁ Bd hml0 hP hK
  obtain ⟨rfl, hZ, hh⟩ := hP
  have hx := Bd.exec
  have hby := Bd.bytes
  have hml : c.maxLocals = 3 := hml0
  have hown : s.vm.findClass "java/lang/String" = some m.cls := findClass_of_methodNamed Bd.named
  have hnm := (name_of_methodNamed Bd.named Bd.method).1
  have hlk : meth.locks = false := BodyLoose.notSynchronized Bd
  have X0 : Stand p l e ({ frames := 1, cells := 0, slots := 0, locals := 12 } : Room) s m #[(.ref a1), (.ref a2), (.int (0 : Int32))] below meth c s₁ [] 0 0 := Stand.of_body Bd
  have e0 : s₁.heap = h0 := by rw [← hh, Bd.state]; rfl
  have N0 := Fr.nil n0
  have K0 := Keep.refl h0 [a1]
  obtain ⟨G, hG⟩ : ∃ G : Outcome → State → Prop, G = fun o u => ∃ v L, o = .returned v ∧ Qsbb Z a1 a2 u_v u_c h0 n0 v u.heap L ∧ FrameEnd s o u L ({ frames := 1, cells := 0, slots := 0, locals := 12 } : Room).cells ({ frames := 1, cells := 0, slots := 0, locals := 12 } : Room).slots := ⟨_, rfl⟩
  suffices hgo : Owe p.tables e below G s₁ (mkF m 0 #[.val (.ref a1), .val (.ref a2), .val (.int (0 : Int32))] []) by
    obtain ⟨u, o, h1, h2, h3, h4⟩ := hgo
    exact ⟨u, o, castTop (ef_sbb m a1 a2 (0 : Int32)) h1, h2, h3, by rw [hG] at h4; exact h4⟩
  refine Owe.aloadN X0.here hx (hb hby d3_0) rfl rfl ?_
  refine Owe.objinit X0 hx hZ hown (hw _ (List.mem_of_getElem? (i := 23) rfl)) (hw _ (List.mem_of_getElem? (i := 24) rfl)) (hw _ (List.mem_of_getElem? (i := 25) rfl)) e0 (by rw [hml]; rfl) rfl (hb hby d3_1) (by decide) (W := 0) (Nat.le_of_ble_eq_true rfl) (by decide) fun T8 X8 e8 => ?_
  refine Owe.aloadN X8.here hx (hb hby d3_4) rfl rfl ?_
  refine Owe.aloadN X8.here hx (hb hby d3_5) rfl rfl ?_
  refine Owe.putf X8 hx hZ (host := "") hown (Or.inl (hw _ (List.mem_of_getElem? (i := 26) rfl))) Via.refl e8 Fvalue_a1 E_a1 (Or.inr ⟨(hw _ (List.mem_of_getElem? (i := 27) rfl)), rfl, hnm⟩) (hw _ (List.mem_of_getElem? (i := 14) rfl)) (ty := (.array .byte)) (by decide) rfl rfl (hb hby d3_6) rfl fun T9 h9 X9 e9 W9 => ?_
  have K_10 := K0.wr W9 (Or.inl (List.mem_of_getElem? (i := 0) rfl))
  have E_a1_11 := E_a1.wr W9
  have Fvalue_a1_12 := Fvalue_a1.same W9
  have Fcoder_a1_13 := Fcoder_a1.other W9 (Or.inr (slot_ne (Or.inr (hw _ (List.mem_of_getElem? (i := 29) rfl))) (Or.inr (hw _ (List.mem_of_getElem? (i := 27) rfl))) (by decide) (t := .byte) (t' := (.array .byte)) (by decide) (by decide)))
  have Z_14 := Nat.le_trans Z0 (Keep.of_wr W9).1
  have N9 := Fr.snoc X9 N0 ge_a1
  refine Owe.aloadN X9.here hx (hb hby d3_9) rfl rfl ?_
  refine Owe.iloadN X9.here hx (hb hby d3_10) rfl ?_
  refine Owe.putf X9 hx hZ (host := "") hown (Or.inl (hw _ (List.mem_of_getElem? (i := 28) rfl))) Via.refl e9 Fcoder_a1_13 E_a1_11 (Or.inr ⟨(hw _ (List.mem_of_getElem? (i := 29) rfl)), rfl, hnm⟩) (hw _ (List.mem_of_getElem? (i := 14) rfl)) (ty := .byte) (by decide) rfl rfl (hb hby d3_11) rfl fun T15 h15 X15 e15 W15 => ?_
  have K_16 := K_10.wr W15 (Or.inl (List.mem_of_getElem? (i := 0) rfl))
  have E_a1_17 := E_a1_11.wr W15
  have Fvalue_a1_18 := Fvalue_a1_12.other W15 (Or.inr (slot_ne (Or.inr (hw _ (List.mem_of_getElem? (i := 27) rfl))) (Or.inr (hw _ (List.mem_of_getElem? (i := 29) rfl))) (by decide) (t := (.array .byte)) (t' := .byte) (by decide) (by decide)))
  have Fcoder_a1_19 := Fcoder_a1_13.same W15
  have Z_20 := Nat.le_trans Z_14 (Keep.of_wr W15).1
  have N15 := Fr.snoc X15 N9 ge_a1
  refine Owe.ret0 X15 hx hlk Bd.returns (hb hby d3_14) rfl fun fs hE => ?_
  rw [hG]
  refine ⟨_, _, rfl, ?_, frameMono hE (by decide) (by decide)⟩
  show Qsbb Z a1 a2 u_v u_c h0 n0 _ T15.heap _
  rw [e15]
  exact ⟨rfl, N15, K_16, E_a1_17, Fvalue_a1_18, Fcoder_a1_19⟩
theorem d4_0 : decode jdk_42_method_139_code 0 = .ok (.getstatic 38, 3) := by decide +kernel
theorem d4_3 : decode jdk_42_method_139_code 3 = .ok (.ifCond .eq 23, 3) := by decide +kernel
theorem d4_6 : decode jdk_42_method_139_code 6 = .ok (.iload_n 0, 1) := by decide +kernel
theorem d4_7 : decode jdk_42_method_139_code 7 = .ok (.invokestatic 1015, 3) := by decide +kernel
theorem d4_10 : decode jdk_42_method_139_code 10 = .ok (.ifCond .eq 16, 3) := by decide +kernel
theorem d4_13 : decode jdk_42_method_139_code 13 = .ok (.new 10, 3) := by decide +kernel
theorem d4_16 : decode jdk_42_method_139_code 16 = .ok (.dup, 1) := by decide +kernel
theorem d4_17 : decode jdk_42_method_139_code 17 = .ok (.iload_n 0, 1) := by decide +kernel
theorem d4_18 : decode jdk_42_method_139_code 18 = .ok (.invokestatic 1018, 3) := by decide +kernel
theorem d4_21 : decode jdk_42_method_139_code 21 = .ok (.iconst 0, 1) := by decide +kernel
theorem d4_22 : decode jdk_42_method_139_code 22 = .ok (.invokespecial 209, 3) := by decide +kernel
theorem d4_25 : decode jdk_42_method_139_code 25 = .ok (.areturn, 1) := by decide +kernel
theorem d4_26 : decode jdk_42_method_139_code 26 = .ok (.new 10, 3) := by decide +kernel
theorem d4_29 : decode jdk_42_method_139_code 29 = .ok (.dup, 1) := by decide +kernel
theorem d4_30 : decode jdk_42_method_139_code 30 = .ok (.iload_n 0, 1) := by decide +kernel
theorem d4_31 : decode jdk_42_method_139_code 31 = .ok (.invokestatic 1021, 3) := by decide +kernel
theorem d4_34 : decode jdk_42_method_139_code 34 = .ok (.iconst 1, 1) := by decide +kernel
theorem d4_35 : decode jdk_42_method_139_code 35 = .ok (.invokespecial 209, 3) := by decide +kernel
theorem d4_38 : decode jdk_42_method_139_code 38 = .ok (.areturn, 1) := by decide +kernel
theorem pn_vof : plainName "java/lang/String" = true := by first | (simp [plainName, overriddenIn]; done) | decide +kernel
theorem ef_vof (m : MethodId) (x0 : Int32)  : entryFrame m #[(.int x0)] 1 = mkF m 0 #[.val (.int x0)] [] := by first | (simp [entryFrame, mkF, argsToLocals, Value.category]; done) | rfl
def Qvof (Z : State) (c1 : Int32) (G1 : Int32) (h0 : Heap) (n0 : Nat) (v : Option Value) (h : Heap) (L : List Loc) : Prop := ∃ (x1 : Addr), ∃ (t1 : Addr), ∃ (k1 : ClassId), v = some (.ref x1) ∧ Fr n0 L ∧ Keep h0 h [] ∧ n0 ≤ x1 ∧ h0.size ≤ x1 ∧ n0 ≤ t1 ∧ h0.size ≤ t1 ∧ Exa Z h x1 "java/lang/String" ∧ Fld Z h x1 "java/lang/String" "value" "[B" (.ref t1) ∧ Fld Z h x1 "java/lang/String" "coder" "B" (.int (0 : Int32)) ∧ Arv Z h t1 k1 .byte (1 : Int32) [(.int (c1.toInt8.toInt32.toInt8.toInt32))] (.int (0 : Int32))
set_option maxRecDepth 65536 in
set_option maxHeartbeats 40000000 in
theorem rmvof (l : Launch) (Z : State) (a0 : Array Value) (hw : ∀ d ∈ tables_1, d.before a0 Z = true) (ws : List Jvm.Cond) (c1 : Int32) (G1 : Int32) (h0 : Heap) (n0 : Nat) (Z0 : n0 ≤ h0.size) (S_COMPACT_STRINGS : Sta Z Z.heap "java/lang/String" "COMPACT_STRINGS" "Z" (.int G1)) (cs0 : ¬ (G1 = (0 : Int32))) (hle : ¬ (255 : Int32) < c1) (Ol : Old Z n0 h0) :
    MetFree l (⟨"java/lang/String", "valueOf", "(C)Ljava/lang/String;"⟩ : MethodName) (head1 (Jvm.Cond.code (⟨"java/lang/String", "valueOf", "(C)Ljava/lang/String;"⟩ : MethodName) jdk_42_method_139_code 1 (some (.object "java/lang/String")) :: ws) ({ frames := 2, cells := 2, slots := 5, locals := 32 } : Room)) (fun a U => a = #[(.int c1)] ∧ Z.Warmed39 U.vm ∧ U.heap = h0) (fun _ _ _ _ _ => True) (fun _ U o U' => ∃ v L, o = .returned v ∧ Qvof Z c1 G1 h0 n0 v U'.heap L ∧ FrameEnd U o U' L ({ frames := 2, cells := 2, slots := 5, locals := 32 } : Room).cells ({ frames := 2, cells := 2, slots := 5, locals := 32 } : Room).slots) := by
  refine MetFree.of_bodySF (plainFor_of_name pn_vof) hisR ?_
  intro p e s m args below meth c s₁ Bd hml0 hP hK
  obtain ⟨rfl, hZ, hh⟩ := hP
  have hx := Bd.exec
  have hby := Bd.bytes
  have hml : c.maxLocals = 1 := hml0
  have hown : s.vm.findClass "java/lang/String" = some m.cls := findClass_of_methodNamed Bd.named
  have hnm := (name_of_methodNamed Bd.named Bd.method).1
  have hlk : meth.locks = false := BodyLoose.notSynchronized Bd
  have X0 : Stand p l e ({ frames := 2, cells := 2, slots := 5, locals := 32 } : Room) s m #[(.int c1)] below meth c s₁ [] 0 0 := Stand.of_body Bd
  have e0 : s₁.heap = h0 := by rw [← hh, Bd.state]; rfl
  have N0 := Fr.nil n0
  have K0 := Keep.refl h0 []
  obtain ⟨G, hG⟩ : ∃ G : Outcome → State → Prop, G = fun o u => ∃ v L, o = .returned v ∧ Qvof Z c1 G1 h0 n0 v u.heap L ∧ FrameEnd s o u L ({ frames := 2, cells := 2, slots := 5, locals := 32 } : Room).cells ({ frames := 2, cells := 2, slots := 5, locals := 32 } : Room).slots := ⟨_, rfl⟩
  suffices hgo : Owe p.tables e below G s₁ (mkF m 0 #[.val (.int c1)] []) by
    obtain ⟨u, o, h1, h2, h3, h4⟩ := hgo
    exact ⟨u, o, castTop (ef_vof m c1) h1, h2, h3, by rw [hG] at h4; exact h4⟩
  refine Owe.gets X0 hx hZ hown (hw _ (List.mem_of_getElem? (i := 8) rfl)) Via.refl e0 (S_COMPACT_STRINGS.ext Ol.2) (hb hby d4_0) fun T21 X21 e21 => ?_
  refine Owe.ifNo X21.here hx (hb hby d4_3) rfl ((if0 _ _).trans (feq cs0).1) ?_
  refine Owe.iloadN X21.here hx (hb hby d4_6) rfl ?_
  refine Owe.stat X21 hx (y := (⟨"java/lang/StringLatin1", "canEncode", "(C)Z"⟩ : MethodName)) hown (mvT hZ (hw _ (List.mem_of_getElem? (i := 9) rfl))) (mvT hZ (hw _ (List.mem_of_getElem? (i := 10) rfl))) (mvT hZ (hw _ (List.mem_of_getElem? (i := 11) rfl))) (mvT hZ (hw _ (List.mem_of_getElem? (i := 12) rfl))) (by decide) (backOf (W := 0) (rmcen l Z a0 hw [] c1 h0 n0 Z0 hle) hZ (hw _ (List.mem_of_getElem? (i := 12) rfl)) (hw _ (List.mem_of_getElem? (i := 11) rfl)) (by decide) (by decide)) (by rw [hml]; rfl) (argsL := [(.int c1)]) (rest := []) (lenOf pd_0 rfl) rfl (Nat.le_of_ble_eq_true rfl) (hb hby d4_7) rfl e21 (by decide) (by decide) fun T22 v22 L22 X22 hQ22 => ?_
  obtain ⟨rfl, Nq22, e22⟩ := hQ22
  have N22 := Fr.app N0 Nq22
  refine Owe.ifNo X22.here hx (hb hby d4_10) rfl ((if0 _ _).trans (feq (by decide)).1) ?_
  refine Owe.new X22 hx hZ hown (hw _ (List.mem_of_getElem? (i := 13) rfl)) (hw _ (List.mem_of_getElem? (i := 14) rfl)) (hw _ (List.mem_of_getElem? (i := 6) rfl)) e22 (hb hby d4_13) (by decide) (by decide) fun T23 h23 b23 g23 X23 e23 E23 A23 D23 => ?_
  have sz_b23 := Nat.le_trans K0.1 (Nat.le_of_eq g23.symm)
  have ge_b23 := Nat.le_trans Z0 (Nat.le_of_eq g23.symm)
  have K_24 := K0.ext E23
  have Ol_25 := Ol.ext E23
  have Z_26 := Nat.le_trans Z0 E23.1
  have Fvalue_b23 : Fld Z h23 b23 "java/lang/String" "value" "[B" .null := D23 (Or.inr (hw _ (List.mem_of_getElem? (i := 27) rfl))) (ty := (.array .byte)) (by decide)
  have Fcoder_b23 : Fld Z h23 b23 "java/lang/String" "coder" "B" (.int (0 : Int32)) := D23 (Or.inr (hw _ (List.mem_of_getElem? (i := 29) rfl))) (ty := .byte) (by decide)
  refine Owe.dup X23.here hx (hb hby d4_16) rfl rfl ?_
  refine Owe.iloadN X23.here hx (hb hby d4_17) rfl ?_
  refine Owe.stat X23 hx (y := (⟨"java/lang/StringLatin1", "toBytes", "(C)[B"⟩ : MethodName)) hown (mvT hZ (hw _ (List.mem_of_getElem? (i := 15) rfl))) (mvT hZ (hw _ (List.mem_of_getElem? (i := 16) rfl))) (mvT hZ (hw _ (List.mem_of_getElem? (i := 11) rfl))) (mvT hZ (hw _ (List.mem_of_getElem? (i := 17) rfl))) (by decide) (backOf (W := 2) (rmtob l Z a0 hw [] c1 h23 n0 Z_26 ) hZ (hw _ (List.mem_of_getElem? (i := 17) rfl)) (hw _ (List.mem_of_getElem? (i := 11) rfl)) (by decide) (by decide)) (by rw [hml]; rfl) (argsL := [(.int c1)]) (rest := [(.ref b23), (.ref b23)]) (lenOf pd_1 rfl) rfl (Nat.le_of_ble_eq_true rfl) (hb hby d4_18) rfl e23 (by decide) (by decide) fun T27 v27 L27 X27 hQ27 => ?_
  obtain ⟨t1_27, k1_27, rfl, Nq27, K27, ge_t1_27, fresh_t1_27, V_t1_27⟩ := hQ27
  have N27 := Fr.app N22 Nq27
  have K_28 := K_24.trans K27 all0
  have Ol_29 := Ol_25.keep K27 all0
  have A23_30 := A23.keep K27
  have Fvalue_b23_31 := Fvalue_b23.keep K27 nin0
  have Fcoder_b23_32 := Fcoder_b23.keep K27 nin0
  have Z_33 := Nat.le_trans Z_26 K27.1
  have ne_b23_t1_27 : b23 ≠ t1_27 := Nat.ne_of_lt (Nat.lt_of_lt_of_le A23.lt fresh_t1_27)
  have sz_t1_27 := Nat.le_trans K_24.1 fresh_t1_27
  refine Owe.iconst X27.here hx (hb hby d4_21) (w := (0 : Int32)) rfl ?_
  refine Owe.special X27 hx (y := (⟨"java/lang/String", "<init>", "([BB)V"⟩ : MethodName)) rfl hown (mvT hZ (hw _ (List.mem_of_getElem? (i := 19) rfl))) (mvT hZ (hw _ (List.mem_of_getElem? (i := 20) rfl))) (mvT hZ (hw _ (List.mem_of_getElem? (i := 22) rfl))) (by decide) (backOf (W := 1) (rmsbb l Z a0 hw [] b23 t1_27 .null (.int (0 : Int32)) T27.heap n0 Z_33 A23_30 Fvalue_b23_31 Fcoder_b23_32 ge_b23) hZ (hw _ (List.mem_of_getElem? (i := 22) rfl)) (hw _ (List.mem_of_getElem? (i := 6) rfl)) (by decide) (by decide)) (by rw [hml]; rfl) (a := b23) (argsL := [(.ref t1_27), (.int (0 : Int32))]) (rest := [(.ref b23)]) (lenOf pd_2 rfl) rfl (Nat.le_of_ble_eq_true rfl) (hb hby d4_22) rfl rfl (by decide) (by decide) fun T34 v34 L34 X34 hQ34 => ?_
  obtain ⟨rfl, Nq34, K34, E_a1_34, Fvalue_a1_34, Fcoder_a1_34⟩ := hQ34
  have N34 := Fr.app N27 Nq34
  have K_35 := K_28.trans K34 (allS (Or.inr sz_b23) all0)
  have Ol_36 := Ol_29.keep K34 (allS ge_b23 all0)
  have A23_37 := A23_30.keep K34
  have V_t1_38 := V_t1_27.keep K34 (ninS (Ne.symm ne_b23_t1_27) nin0)
  have Z_39 := Nat.le_trans Z_33 K34.1
  refine Owe.retR X34 hx hlk (t := (.object "java/lang/String")) Bd.returns rfl rfl rfl (hb hby d4_25) rfl fun fs hE => ?_
  rw [hG]
  refine ⟨_, _, rfl, ?_, frameMono hE (by decide) (by decide)⟩
  show Qvof Z c1 G1 h0 n0 _ T34.heap _
  exact ⟨b23, t1_27, k1_27, rfl, N34, K_35, ge_b23, sz_b23, ge_t1_27, sz_t1_27, E_a1_34, Fvalue_a1_34, Fcoder_a1_34, V_t1_38⟩
theorem d5_0 : decode jdk_31_method_11_code 0 = .ok (.aload_n 0, 1) := by decide +kernel
theorem d5_1 : decode jdk_31_method_11_code 1 = .ok (.ifnonnull 12, 3) := by decide +kernel
theorem d5_4 : decode jdk_31_method_11_code 4 = .ok (.new 84, 3) := by decide +kernel
theorem d5_7 : decode jdk_31_method_11_code 7 = .ok (.dup, 1) := by decide +kernel
theorem d5_8 : decode jdk_31_method_11_code 8 = .ok (.aload_n 1, 1) := by decide +kernel
theorem d5_9 : decode jdk_31_method_11_code 9 = .ok (.invokespecial 87, 3) := by decide +kernel
theorem d5_12 : decode jdk_31_method_11_code 12 = .ok (.athrow, 1) := by decide +kernel
theorem d5_13 : decode jdk_31_method_11_code 13 = .ok (.aload_n 0, 1) := by decide +kernel
theorem d5_14 : decode jdk_31_method_11_code 14 = .ok (.areturn, 1) := by decide +kernel
theorem pn_rnn : plainName "java/util/Objects" = true := by first | (simp [plainName, overriddenIn]; done) | decide +kernel
theorem ef_rnn (m : MethodId) (x0 : Addr) (x1 : Addr)  : entryFrame m #[(.ref x0), (.ref x1)] 2 = mkF m 0 #[.val (.ref x0), .val (.ref x1)] [] := by first | (simp [entryFrame, mkF, argsToLocals, Value.category]; done) | rfl
def Qrnn (Z : State) (a1 : Addr) (a2 : Addr) (h0 : Heap) (n0 : Nat) (v : Option Value) (h : Heap) (L : List Loc) : Prop := v = some (.ref a1) ∧ Fr n0 L ∧ h = h0
set_option maxRecDepth 65536 in
set_option maxHeartbeats 40000000 in
theorem rmrnn (l : Launch) (Z : State) (a0 : Array Value) (hw : ∀ d ∈ tables_1, d.before a0 Z = true) (ws : List Jvm.Cond) (a1 : Addr) (a2 : Addr) (h0 : Heap) (n0 : Nat) (Z0 : n0 ≤ h0.size)  :
    MetFree l (⟨"java/util/Objects", "requireNonNull", "(Ljava/lang/Object;Ljava/lang/String;)Ljava/lang/Object;"⟩ : MethodName) (head1 (Jvm.Cond.code (⟨"java/util/Objects", "requireNonNull", "(Ljava/lang/Object;Ljava/lang/String;)Ljava/lang/Object;"⟩ : MethodName) jdk_31_method_11_code 2 (some (.object "java/lang/Object")) :: ws) ({ frames := 0, cells := 0, slots := 0, locals := 0 } : Room)) (fun a U => a = #[(.ref a1), (.ref a2)] ∧ Z.Warmed39 U.vm ∧ U.heap = h0) (fun _ _ _ _ _ => True) (fun _ U o U' => ∃ v L, o = .returned v ∧ Qrnn Z a1 a2 h0 n0 v U'.heap L ∧ FrameEnd U o U' L ({ frames := 0, cells := 0, slots := 0, locals := 0 } : Room).cells ({ frames := 0, cells := 0, slots := 0, locals := 0 } : Room).slots) := by
  refine MetFree.of_bodySF (plainFor_of_name pn_rnn) hisR ?_
  intro p e s m args below meth c s₁ Bd hml0 hP hK
  obtain ⟨rfl, hZ, hh⟩ := hP
  have hx := Bd.exec
  have hby := Bd.bytes
  have hml : c.maxLocals = 2 := hml0
  have hown : s.vm.findClass "java/util/Objects" = some m.cls := findClass_of_methodNamed Bd.named
  have hnm := (name_of_methodNamed Bd.named Bd.method).1
  have hlk : meth.locks = false := BodyLoose.notSynchronized Bd
  have X0 : Stand p l e ({ frames := 0, cells := 0, slots := 0, locals := 0 } : Room) s m #[(.ref a1), (.ref a2)] below meth c s₁ [] 0 0 := Stand.of_body Bd
  have e0 : s₁.heap = h0 := by rw [← hh, Bd.state]; rfl
  have N0 := Fr.nil n0
  obtain ⟨G, hG⟩ : ∃ G : Outcome → State → Prop, G = fun o u => ∃ v L, o = .returned v ∧ Qrnn Z a1 a2 h0 n0 v u.heap L ∧ FrameEnd s o u L ({ frames := 0, cells := 0, slots := 0, locals := 0 } : Room).cells ({ frames := 0, cells := 0, slots := 0, locals := 0 } : Room).slots := ⟨_, rfl⟩
  suffices hgo : Owe p.tables e below G s₁ (mkF m 0 #[.val (.ref a1), .val (.ref a2)] []) by
    obtain ⟨u, o, h1, h2, h3, h4⟩ := hgo
    exact ⟨u, o, castTop (ef_rnn m a1 a2) h1, h2, h3, by rw [hG] at h4; exact h4⟩
  refine Owe.aloadN X0.here hx (hb hby d5_0) rfl rfl ?_
  refine Owe.ifnonnullYes X0.here hx (hb hby d5_1) rfl (pc' := 13) (by decide) (by decide) ?_
  refine Owe.aloadN X0.here hx (hb hby d5_13) rfl rfl ?_
  refine Owe.retR X0 hx hlk (t := (.object "java/lang/Object")) Bd.returns rfl rfl rfl (hb hby d5_14) rfl fun fs hE => ?_
  rw [hG]
  refine ⟨_, _, rfl, ?_, frameMono hE (by decide) (by decide)⟩
  show Qrnn Z a1 a2 h0 n0 _ s₁.heap _
  rw [e0]
  exact ⟨rfl, N0, rfl⟩
theorem d6_0 : decode prog_10_method_1_code 0 = .ok (.aload_n 0, 1) := by decide +kernel
theorem d6_1 : decode prog_10_method_1_code 1 = .ok (.invokespecial 1, 3) := by decide +kernel
theorem d6_4 : decode prog_10_method_1_code 4 = .ok (.aload_n 1, 1) := by decide +kernel
theorem d6_5 : decode prog_10_method_1_code 5 = .ok (.ldc 7, 2) := by decide +kernel
theorem d6_7 : decode prog_10_method_1_code 7 = .ok (.invokestatic 9, 3) := by decide +kernel
theorem d6_10 : decode prog_10_method_1_code 10 = .ok (.pop, 1) := by decide +kernel
theorem d6_11 : decode prog_10_method_1_code 11 = .ok (.aload_n 2, 1) := by decide +kernel
theorem d6_12 : decode prog_10_method_1_code 12 = .ok (.ldc 15, 2) := by decide +kernel
theorem d6_14 : decode prog_10_method_1_code 14 = .ok (.invokestatic 9, 3) := by decide +kernel
theorem d6_17 : decode prog_10_method_1_code 17 = .ok (.pop, 1) := by decide +kernel
theorem d6_18 : decode prog_10_method_1_code 18 = .ok (.aload_n 0, 1) := by decide +kernel
theorem d6_19 : decode prog_10_method_1_code 19 = .ok (.aload_n 1, 1) := by decide +kernel
theorem d6_20 : decode prog_10_method_1_code 20 = .ok (.putfield 17, 3) := by decide +kernel
theorem d6_23 : decode prog_10_method_1_code 23 = .ok (.aload_n 0, 1) := by decide +kernel
theorem d6_24 : decode prog_10_method_1_code 24 = .ok (.aload_n 2, 1) := by decide +kernel
theorem d6_25 : decode prog_10_method_1_code 25 = .ok (.putfield 22, 3) := by decide +kernel
theorem d6_28 : decode prog_10_method_1_code 28 = .ok (.return_, 1) := by decide +kernel
theorem pn_ini : plainName "com/example/overrule/overrule/model/Finding" = true := by first | (simp [plainName, overriddenIn]; done) | decide +kernel
theorem ef_ini (m : MethodId) (x0 : Addr) (x1 : Addr) (x2 : Addr)  : entryFrame m #[(.ref x0), (.ref x1), (.ref x2)] 3 = mkF m 0 #[.val (.ref x0), .val (.ref x1), .val (.ref x2)] [] := by first | (simp [entryFrame, mkF, argsToLocals, Value.category]; done) | rfl
def Qini (Z : State) (a1 : Addr) (a2 : Addr) (a3 : Addr) (u_k : Value) (u_e : Value) (h0 : Heap) (n0 : Nat) (v : Option Value) (h : Heap) (L : List Loc) : Prop := v = none ∧ Fr n0 L ∧ Keep h0 h [a1] ∧ Exa Z h a1 "com/example/overrule/overrule/model/Finding" ∧ Fld Z h a1 "com/example/overrule/overrule/model/Finding" "kind" "Lcom/example/overrule/overrule/model/Finding$Kind;" (.ref a2)
set_option maxRecDepth 65536 in
set_option maxHeartbeats 40000000 in
theorem rmini (l : Launch) (Z : State) (a0 : Array Value) (hw : ∀ d ∈ tables_1, d.before a0 Z = true) (ws : List Jvm.Cond) (a1 : Addr) (a2 : Addr) (a3 : Addr) (u_k : Value) (u_e : Value) (h0 : Heap) (n0 : Nat) (Z0 : n0 ≤ h0.size) (E_a1 : Exa Z h0 a1 "com/example/overrule/overrule/model/Finding") (Fkind_a1 : Fld Z h0 a1 "com/example/overrule/overrule/model/Finding" "kind" "Lcom/example/overrule/overrule/model/Finding$Kind;" u_k) (Fexplanation_a1 : Fld Z h0 a1 "com/example/overrule/overrule/model/Finding" "explanation" "Ljava/lang/String;" u_e) (ge_a1 : n0 ≤ a1) :
    MetFree l (⟨"com/example/overrule/overrule/model/Finding", "<init>", "(Lcom/example/overrule/overrule/model/Finding$Kind;Ljava/lang/String;)V"⟩ : MethodName) (head1 (Jvm.Cond.code (⟨"com/example/overrule/overrule/model/Finding", "<init>", "(Lcom/example/overrule/overrule/model/Finding$Kind;Ljava/lang/String;)V"⟩ : MethodName) prog_10_method_1_code 3 none :: ws) ({ frames := 2, cells := 4, slots := 68, locals := 28 } : Room)) (fun a U => a = #[(.ref a1), (.ref a2), (.ref a3)] ∧ Z.Warmed39 U.vm ∧ U.heap = h0 ∧ CHv Z own_EL U.vm h0) (fun _ _ _ _ _ => True) (fun _ U o U' => ∃ v L, o = .returned v ∧ Qini Z a1 a2 a3 u_k u_e h0 n0 v U'.heap L ∧ CHr Z own_EL U.vm U.heap U'.vm U'.heap ∧ ReturnedEndW U o U' L ({ frames := 2, cells := 4, slots := 68, locals := 28 } : Room).cells ({ frames := 2, cells := 4, slots := 68, locals := 28 } : Room).slots) := by
  refine MetFree.of_bodySF (plainFor_of_name pn_ini) hisR ?_
  intro p e s m args below meth c s₁ Bd hml0 hP hK
  obtain ⟨rfl, hZ0, hh, H0⟩ := hP
  have hx := Bd.exec
  have hby := Bd.bytes
  have hml : c.maxLocals = 3 := hml0
  have hown : s.vm.findClass "com/example/overrule/overrule/model/Finding" = some m.cls := findClass_of_methodNamed Bd.named
  have hnm := (name_of_methodNamed Bd.named Bd.method).1
  have hlk : meth.locks = false := BodyLoose.notSynchronized Bd
  have X0 : Stand p l e ({ frames := 2, cells := 4, slots := 68, locals := 28 } : Room) (s.setVm s.vm) m #[(.ref a1), (.ref a2), (.ref a3)] below meth c s₁ [] 0 0 := Stand.of_body Bd
  have e0 : s₁.heap = h0 := by rw [← hh, Bd.state]; rfl
  have N0 := Fr.nil n0
  have K0 := Keep.refl h0 [a1]
  have hZ : Z.Warmed39 (s.setVm s.vm).vm := hZ0
  have hown1 : (s.setVm s.vm).vm.findClass "com/example/overrule/overrule/model/Finding" = some m.cls := hown
  have hS0 : s.Since s.vm 0 := (State.WarmedH.refl s).since 0
  have hk0 : 0 ≤ h0.size := Nat.zero_le _
  have R0 : CHr Z own_EL s.vm h0 s.vm h0 := CHr.refl H0
  have sf_a1 : Safe Z own_EL s.vm h0 a1 := Safe.exa hZ0.alike E_a1 (by decide) (by decide)
  obtain ⟨G, hG⟩ : ∃ G : Outcome → State → Prop, G = fun o u => ∃ v L, o = .returned v ∧ Qini Z a1 a2 a3 u_k u_e h0 n0 v u.heap L ∧ CHr Z own_EL s.vm s.heap u.vm u.heap ∧ ReturnedEndW s o u L ({ frames := 2, cells := 4, slots := 68, locals := 28 } : Room).cells ({ frames := 2, cells := 4, slots := 68, locals := 28 } : Room).slots := ⟨_, rfl⟩
  suffices hgo : Owe p.tables e below G s₁ (mkF m 0 #[.val (.ref a1), .val (.ref a2), .val (.ref a3)] []) by
    obtain ⟨u, o, h1, h2, h3, h4⟩ := hgo
    exact ⟨u, o, castTop (ef_ini m a1 a2 a3) h1, h2, h3, by rw [hG] at h4; exact h4⟩
  refine Owe.aloadN X0.here hx (hb hby d6_0) rfl rfl ?_
  refine Owe.special X0 hx (y := (⟨"java/lang/Record", "<init>", "()V"⟩ : MethodName)) rfl hown1 (mvT hZ (hw _ (List.mem_of_getElem? (i := 36) rfl))) (mvT hZ (hw _ (List.mem_of_getElem? (i := 37) rfl))) (mvT hZ (hw _ (List.mem_of_getElem? (i := 40) rfl))) (by decide) (backOf (W := 0) (rmrec l Z a0 hw [] a1 h0 n0 Z0 ) hZ (hw _ (List.mem_of_getElem? (i := 40) rfl)) (hw _ (List.mem_of_getElem? (i := 39) rfl)) (by decide) (by decide)) (by rw [hml]; rfl) (a := a1) (argsL := []) (rest := []) (lenOf pd_3 rfl) rfl (Nat.le_of_ble_eq_true rfl) (hb hby d6_1) rfl e0 (by decide) (by decide) fun T40 v40 L40 X40 hQ40 => ?_
  obtain ⟨rfl, Nq40, e40⟩ := hQ40
  have N40 := Fr.app N0 Nq40
  refine Owe.aloadN X40.here hx (hb hby d6_4) rfl rfl ?_
  refine Owe.ldcO X40 hx hZ hS0 (own_ew hw) H0 hown1 (hw _ (List.mem_of_getElem? (i := 42) rfl)) (own_wS hw) e40 hk0 (hb hby d6_5) (n := 16) (by decide) (by decide) (by decide) (by decide) fun l41 T41 h41 k41 X41 e41 E41 hS41 hk41 hZ41 hown41 hC41 Lt41 => ?_
  have hk42 := Nat.le_trans hk0 E41.1
  have K_43 := K0.ext E41
  have E_a1_44 := E_a1.ext E41
  have Fkind_a1_45 := Fkind_a1.ext E41
  have Fexplanation_a1_46 := Fexplanation_a1.ext E41
  have Z_47 := Nat.le_trans Z0 E41.1
  have sf_a1_41 := CHr.safe hC41 E_a1.lt sf_a1
  have Rr41 := R0.trans hC41
  have H41 := hC41.1
  refine Owe.stat X41 hx (y := (⟨"java/util/Objects", "requireNonNull", "(Ljava/lang/Object;Ljava/lang/String;)Ljava/lang/Object;"⟩ : MethodName)) hown41 (mvT hZ41 (hw _ (List.mem_of_getElem? (i := 45) rfl))) (mvT hZ41 (hw _ (List.mem_of_getElem? (i := 46) rfl))) (mvT hZ41 (hw _ (List.mem_of_getElem? (i := 47) rfl))) (mvT hZ41 (hw _ (List.mem_of_getElem? (i := 48) rfl))) (by decide) (backOf (W := 0) (rmrnn l Z a0 hw [] a2 l41 h41 n0 Z_47 ) hZ41 (hw _ (List.mem_of_getElem? (i := 48) rfl)) (hw _ (List.mem_of_getElem? (i := 47) rfl)) (by decide) (by decide)) (by rw [hml]; rfl) (argsL := [(.ref a2), (.ref l41)]) (rest := []) (lenOf pd_4 rfl) rfl (Nat.le_of_ble_eq_true rfl) (hb hby d6_7) rfl e41 (by decide) (by decide) fun T48 v48 L48 X48 hQ48 => ?_
  obtain ⟨rfl, Nq48, e48⟩ := hQ48
  have N48 := Fr.app N40 Nq48
  refine Owe.pop X48.here hx (hb hby d6_10) rfl rfl ?_
  refine Owe.aloadN X48.here hx (hb hby d6_11) rfl rfl ?_
  refine Owe.ldcO X48 hx hZ41 hS41 (own_ew hw) H41 hown41 (hw _ (List.mem_of_getElem? (i := 49) rfl)) (own_wS hw) e48 hk41 (hb hby d6_12) (n := 44) (by decide) (by decide) (by decide) (by decide) fun l49 T49 h49 k49 X49 e49 E49 hS49 hk49 hZ49 hown49 hC49 Lt49 => ?_
  have hk50 := Nat.le_trans hk41 E49.1
  have K_51 := K_43.ext E49
  have E_a1_52 := E_a1_44.ext E49
  have Fkind_a1_53 := Fkind_a1_45.ext E49
  have Fexplanation_a1_54 := Fexplanation_a1_46.ext E49
  have Z_55 := Nat.le_trans Z_47 E49.1
  have sf_a1_49 := CHr.safe hC49 E_a1_44.lt sf_a1_41
  have Rr49 := Rr41.trans hC49
  have H49 := hC49.1
  refine Owe.stat X49 hx (y := (⟨"java/util/Objects", "requireNonNull", "(Ljava/lang/Object;Ljava/lang/String;)Ljava/lang/Object;"⟩ : MethodName)) hown49 (mvT hZ49 (hw _ (List.mem_of_getElem? (i := 45) rfl))) (mvT hZ49 (hw _ (List.mem_of_getElem? (i := 46) rfl))) (mvT hZ49 (hw _ (List.mem_of_getElem? (i := 47) rfl))) (mvT hZ49 (hw _ (List.mem_of_getElem? (i := 48) rfl))) (by decide) (backOf (W := 0) (rmrnn l Z a0 hw [] a3 l49 h49 n0 Z_55 ) hZ49 (hw _ (List.mem_of_getElem? (i := 48) rfl)) (hw _ (List.mem_of_getElem? (i := 47) rfl)) (by decide) (by decide)) (by rw [hml]; rfl) (argsL := [(.ref a3), (.ref l49)]) (rest := []) (lenOf pd_4 rfl) rfl (Nat.le_of_ble_eq_true rfl) (hb hby d6_14) rfl e49 (by decide) (by decide) fun T56 v56 L56 X56 hQ56 => ?_
  obtain ⟨rfl, Nq56, e56⟩ := hQ56
  have N56 := Fr.app N48 Nq56
  refine Owe.pop X56.here hx (hb hby d6_17) rfl rfl ?_
  refine Owe.aloadN X56.here hx (hb hby d6_18) rfl rfl ?_
  refine Owe.aloadN X56.here hx (hb hby d6_19) rfl rfl ?_
  refine Owe.putf X56 hx hZ49 (host := "") hown49 (Or.inl (hw _ (List.mem_of_getElem? (i := 50) rfl))) Via.refl e56 Fkind_a1_53 E_a1_52 (Or.inr ⟨(hw _ (List.mem_of_getElem? (i := 51) rfl)), rfl, hnm⟩) (hw _ (List.mem_of_getElem? (i := 31) rfl)) (ty := (.object "com/example/overrule/overrule/model/Finding$Kind")) (by decide) rfl rfl (hb hby d6_20) rfl fun T57 h57 X57 e57 W57 => ?_
  have hk58 := Nat.le_trans hk49 (Keep.of_wr W57).1
  have sf_a1_58 := Safe.wr W57 sf_a1_49 H49 sf_a1_49
  have Rr58 := Rr49.trans (CHr.wr W57 sf_a1_49 H49)
  have H58 := CHv.wr W57 sf_a1_49 H49
  have K_59 := K_51.wr W57 (Or.inl (List.mem_of_getElem? (i := 0) rfl))
  have E_a1_60 := E_a1_52.wr W57
  have Fkind_a1_61 := Fkind_a1_53.same W57
  have Fexplanation_a1_62 := Fexplanation_a1_54.other W57 (Or.inr (slot_ne (Or.inr (hw _ (List.mem_of_getElem? (i := 53) rfl))) (Or.inr (hw _ (List.mem_of_getElem? (i := 51) rfl))) (by decide) (t := (.object "java/lang/String")) (t' := (.object "com/example/overrule/overrule/model/Finding$Kind")) (by decide) (by decide)))
  have Z_63 := Nat.le_trans Z_55 (Keep.of_wr W57).1
  have N57 := Fr.snoc X57 N56 ge_a1
  refine Owe.aloadN X57.here hx (hb hby d6_23) rfl rfl ?_
  refine Owe.aloadN X57.here hx (hb hby d6_24) rfl rfl ?_
  refine Owe.putf X57 hx hZ49 (host := "") hown49 (Or.inl (hw _ (List.mem_of_getElem? (i := 52) rfl))) Via.refl e57 Fexplanation_a1_62 E_a1_60 (Or.inr ⟨(hw _ (List.mem_of_getElem? (i := 53) rfl)), rfl, hnm⟩) (hw _ (List.mem_of_getElem? (i := 31) rfl)) (ty := (.object "java/lang/String")) (by decide) rfl rfl (hb hby d6_25) rfl fun T64 h64 X64 e64 W64 => ?_
  have hk65 := Nat.le_trans hk58 (Keep.of_wr W64).1
  have sf_a1_65 := Safe.wr W64 sf_a1_58 H58 sf_a1_58
  have Rr65 := Rr58.trans (CHr.wr W64 sf_a1_58 H58)
  have H65 := CHv.wr W64 sf_a1_58 H58
  have K_66 := K_59.wr W64 (Or.inl (List.mem_of_getElem? (i := 0) rfl))
  have E_a1_67 := E_a1_60.wr W64
  have Fkind_a1_68 := Fkind_a1_61.other W64 (Or.inr (slot_ne (Or.inr (hw _ (List.mem_of_getElem? (i := 51) rfl))) (Or.inr (hw _ (List.mem_of_getElem? (i := 53) rfl))) (by decide) (t := (.object "com/example/overrule/overrule/model/Finding$Kind")) (t' := (.object "java/lang/String")) (by decide) (by decide)))
  have Fexplanation_a1_69 := Fexplanation_a1_62.same W64
  have Z_70 := Nat.le_trans Z_63 (Keep.of_wr W64).1
  have N64 := Fr.snoc X64 N57 ge_a1
  refine Owe.ret0W X64 hx hS49 e64 hk65 hlk Bd.returns (hb hby d6_28) rfl fun fs hE => ?_
  rw [hG]
  refine ⟨_, _, rfl, ?_, ?_, coldMono hE (by decide) (by decide)⟩
  rotate_left
  · rw [hh]
    show CHr Z own_EL s.vm h0 T64.vm T64.heap
    rw [e64]
    exact Rr65.trans (CHv.at X64 hZ49 (own_ew hw) H65)
  show Qini Z a1 a2 a3 u_k u_e h0 n0 _ T64.heap _
  rw [e64]
  exact ⟨rfl, N64, K_66, E_a1_67, Fkind_a1_68⟩
theorem d7_0 : decode prog_11_method_5_code 0 = .ok (.aload_n 0, 1) := by decide +kernel
theorem d7_1 : decode prog_11_method_5_code 1 = .ok (.getfield 39, 3) := by decide +kernel
theorem d7_4 : decode prog_11_method_5_code 4 = .ok (.areturn, 1) := by decide +kernel
theorem pn_sev : plainName "com/example/overrule/overrule/model/Finding$Kind" = true := by first | (simp [plainName, overriddenIn]; done) | decide +kernel
theorem ef_sev (m : MethodId) (x0 : Addr)  : entryFrame m #[(.ref x0)] 1 = mkF m 0 #[.val (.ref x0)] [] := by first | (simp [entryFrame, mkF, argsToLocals, Value.category]; done) | rfl
def Qsev (Z : State) (a1 : Addr) (w2 : Addr) (h0 : Heap) (n0 : Nat) (v : Option Value) (h : Heap) (L : List Loc) : Prop := v = some (.ref w2) ∧ Fr n0 L ∧ h = h0
set_option maxRecDepth 65536 in
set_option maxHeartbeats 40000000 in
theorem rmsev (l : Launch) (Z : State) (a0 : Array Value) (hw : ∀ d ∈ tables_1, d.before a0 Z = true) (ws : List Jvm.Cond) (a1 : Addr) (w2 : Addr) (h0 : Heap) (n0 : Nat) (Z0 : n0 ≤ h0.size) (Fseverity_a1 : Fld Z h0 a1 "com/example/overrule/overrule/model/Finding$Kind" "severity" "Lcom/example/overrule/overrule/model/Finding$Severity;" (.ref w2)) :
    MetFree l (⟨"com/example/overrule/overrule/model/Finding$Kind", "severity", "()Lcom/example/overrule/overrule/model/Finding$Severity;"⟩ : MethodName) (head1 (Jvm.Cond.code (⟨"com/example/overrule/overrule/model/Finding$Kind", "severity", "()Lcom/example/overrule/overrule/model/Finding$Severity;"⟩ : MethodName) prog_11_method_5_code 1 (some (.object "com/example/overrule/overrule/model/Finding$Severity")) :: ws) ({ frames := 0, cells := 0, slots := 0, locals := 0 } : Room)) (fun a U => a = #[(.ref a1)] ∧ Z.Warmed39 U.vm ∧ U.heap = h0) (fun _ _ _ _ _ => True) (fun _ U o U' => ∃ v L, o = .returned v ∧ Qsev Z a1 w2 h0 n0 v U'.heap L ∧ FrameEnd U o U' L ({ frames := 0, cells := 0, slots := 0, locals := 0 } : Room).cells ({ frames := 0, cells := 0, slots := 0, locals := 0 } : Room).slots) := by
  refine MetFree.of_bodySF (plainFor_of_name pn_sev) hisR ?_
  intro p e s m args below meth c s₁ Bd hml0 hP hK
  obtain ⟨rfl, hZ, hh⟩ := hP
  have hx := Bd.exec
  have hby := Bd.bytes
  have hml : c.maxLocals = 1 := hml0
  have hown : s.vm.findClass "com/example/overrule/overrule/model/Finding$Kind" = some m.cls := findClass_of_methodNamed Bd.named
  have hnm := (name_of_methodNamed Bd.named Bd.method).1
  have hlk : meth.locks = false := BodyLoose.notSynchronized Bd
  have X0 : Stand p l e ({ frames := 0, cells := 0, slots := 0, locals := 0 } : Room) s m #[(.ref a1)] below meth c s₁ [] 0 0 := Stand.of_body Bd
  have e0 : s₁.heap = h0 := by rw [← hh, Bd.state]; rfl
  have N0 := Fr.nil n0
  obtain ⟨G, hG⟩ : ∃ G : Outcome → State → Prop, G = fun o u => ∃ v L, o = .returned v ∧ Qsev Z a1 w2 h0 n0 v u.heap L ∧ FrameEnd s o u L ({ frames := 0, cells := 0, slots := 0, locals := 0 } : Room).cells ({ frames := 0, cells := 0, slots := 0, locals := 0 } : Room).slots := ⟨_, rfl⟩
  suffices hgo : Owe p.tables e below G s₁ (mkF m 0 #[.val (.ref a1)] []) by
    obtain ⟨u, o, h1, h2, h3, h4⟩ := hgo
    exact ⟨u, o, castTop (ef_sev m a1) h1, h2, h3, by rw [hG] at h4; exact h4⟩
  refine Owe.aloadN X0.here hx (hb hby d7_0) rfl rfl ?_
  refine Owe.getf X0 hx hZ (host := "") hown (Or.inl (hw _ (List.mem_of_getElem? (i := 64) rfl))) Via.refl e0 Fseverity_a1 (hb hby d7_1) rfl fun T71 X71 e71 => ?_
  refine Owe.retR X71 hx hlk (t := (.object "com/example/overrule/overrule/model/Finding$Severity")) Bd.returns rfl rfl rfl (hb hby d7_4) rfl fun fs hE => ?_
  rw [hG]
  refine ⟨_, _, rfl, ?_, frameMono hE (by decide) (by decide)⟩
  show Qsev Z a1 w2 h0 n0 _ T71.heap _
  rw [e71]
  exact ⟨rfl, N0, rfl⟩
theorem d8_0 : decode prog_10_method_2_code 0 = .ok (.aload_n 0, 1) := by decide +kernel
theorem d8_1 : decode prog_10_method_2_code 1 = .ok (.getfield 17, 3) := by decide +kernel
theorem d8_4 : decode prog_10_method_2_code 4 = .ok (.invokevirtual 25, 3) := by decide +kernel
theorem d8_7 : decode prog_10_method_2_code 7 = .ok (.getstatic 31, 3) := by decide +kernel
theorem d8_10 : decode prog_10_method_2_code 10 = .ok (.if_acmp .ne 7, 3) := by decide +kernel
theorem d8_13 : decode prog_10_method_2_code 13 = .ok (.iconst 1, 1) := by decide +kernel
theorem d8_14 : decode prog_10_method_2_code 14 = .ok (.goto 4, 3) := by decide +kernel
theorem d8_17 : decode prog_10_method_2_code 17 = .ok (.iconst 0, 1) := by decide +kernel
theorem d8_18 : decode prog_10_method_2_code 18 = .ok (.ireturn, 1) := by decide +kernel
theorem pn_er1 : plainName "com/example/overrule/overrule/model/Finding" = true := by first | (simp [plainName, overriddenIn]; done) | decide +kernel
theorem ef_er1 (m : MethodId) (x0 : Addr)  : entryFrame m #[(.ref x0)] 1 = mkF m 0 #[.val (.ref x0)] [] := by first | (simp [entryFrame, mkF, argsToLocals, Value.category]; done) | rfl
def Qer1 (Z : State) (a1 : Addr) (kd : Addr) (er : Addr) (h0 : Heap) (n0 : Nat) (v : Option Value) (h : Heap) (L : List Loc) : Prop := v = some (.int (1 : Int32)) ∧ Fr n0 L ∧ h = h0
set_option maxRecDepth 65536 in
set_option maxHeartbeats 40000000 in
theorem rmer1 (l : Launch) (Z : State) (a0 : Array Value) (hw : ∀ d ∈ tables_1, d.before a0 Z = true) (ws : List Jvm.Cond) (a1 : Addr) (kd : Addr) (er : Addr) (h0 : Heap) (n0 : Nat) (Z0 : n0 ≤ h0.size) (Fkind_a1 : Fld Z h0 a1 "com/example/overrule/overrule/model/Finding" "kind" "Lcom/example/overrule/overrule/model/Finding$Kind;" (.ref kd)) (E_kd : Exa Z h0 kd "com/example/overrule/overrule/model/Finding$Kind") (Fseverity_kd : Fld Z h0 kd "com/example/overrule/overrule/model/Finding$Kind" "severity" "Lcom/example/overrule/overrule/model/Finding$Severity;" (.ref er)) (S_ERROR : Sta Z Z.heap "com/example/overrule/overrule/model/Finding$Severity" "ERROR" "Lcom/example/overrule/overrule/model/Finding$Severity;" (.ref er)) (Ol : Old Z n0 h0) :
    MetFree l (⟨"com/example/overrule/overrule/model/Finding", "error", "()Z"⟩ : MethodName) (head1 (Jvm.Cond.code (⟨"com/example/overrule/overrule/model/Finding", "error", "()Z"⟩ : MethodName) prog_10_method_2_code 1 (some .boolean) :: ws) ({ frames := 1, cells := 0, slots := 0, locals := 12 } : Room)) (fun a U => a = #[(.ref a1)] ∧ Z.Warmed39 U.vm ∧ U.heap = h0) (fun _ _ _ _ _ => True) (fun _ U o U' => ∃ v L, o = .returned v ∧ Qer1 Z a1 kd er h0 n0 v U'.heap L ∧ FrameEnd U o U' L ({ frames := 1, cells := 0, slots := 0, locals := 12 } : Room).cells ({ frames := 1, cells := 0, slots := 0, locals := 12 } : Room).slots) := by
  refine MetFree.of_bodySF (plainFor_of_name pn_er1) hisR ?_
  intro p e s m args below meth c s₁ Bd hml0 hP hK
  obtain ⟨rfl, hZ, hh⟩ := hP
  have hx := Bd.exec
  have hby := Bd.bytes
  have hml : c.maxLocals = 1 := hml0
  have hown : s.vm.findClass "com/example/overrule/overrule/model/Finding" = some m.cls := findClass_of_methodNamed Bd.named
  have hnm := (name_of_methodNamed Bd.named Bd.method).1
  have hlk : meth.locks = false := BodyLoose.notSynchronized Bd
  have X0 : Stand p l e ({ frames := 1, cells := 0, slots := 0, locals := 12 } : Room) s m #[(.ref a1)] below meth c s₁ [] 0 0 := Stand.of_body Bd
  have e0 : s₁.heap = h0 := by rw [← hh, Bd.state]; rfl
  have N0 := Fr.nil n0
  obtain ⟨G, hG⟩ : ∃ G : Outcome → State → Prop, G = fun o u => ∃ v L, o = .returned v ∧ Qer1 Z a1 kd er h0 n0 v u.heap L ∧ FrameEnd s o u L ({ frames := 1, cells := 0, slots := 0, locals := 12 } : Room).cells ({ frames := 1, cells := 0, slots := 0, locals := 12 } : Room).slots := ⟨_, rfl⟩
  suffices hgo : Owe p.tables e below G s₁ (mkF m 0 #[.val (.ref a1)] []) by
    obtain ⟨u, o, h1, h2, h3, h4⟩ := hgo
    exact ⟨u, o, castTop (ef_er1 m a1) h1, h2, h3, by rw [hG] at h4; exact h4⟩
  refine Owe.aloadN X0.here hx (hb hby d8_0) rfl rfl ?_
  refine Owe.getf X0 hx hZ (host := "") hown (Or.inl (hw _ (List.mem_of_getElem? (i := 50) rfl))) Via.refl e0 Fkind_a1 (hb hby d8_1) rfl fun T72 X72 e72 => ?_
  refine Owe.virt X72 hx hZ (y := (⟨"com/example/overrule/overrule/model/Finding$Kind", "severity", "()Lcom/example/overrule/overrule/model/Finding$Severity;"⟩ : MethodName)) (z := (⟨"com/example/overrule/overrule/model/Finding$Kind", "severity", "()Lcom/example/overrule/overrule/model/Finding$Severity;"⟩ : MethodName)) hown (mvT hZ (hw _ (List.mem_of_getElem? (i := 59) rfl))) (mvT hZ (hw _ (List.mem_of_getElem? (i := 60) rfl))) (mvT hZ (hw _ (List.mem_of_getElem? (i := 62) rfl))) (mvT hZ (hw _ (List.mem_of_getElem? (i := 61) rfl))) (notFace_of_selects (args := #[]) (mvT hZ (hw _ (List.mem_of_getElem? (i := 62) rfl)))) (by decide) (backOf (W := 0) (rmsev l Z a0 hw [] kd er h0 n0 Z0 Fseverity_kd) hZ (hw _ (List.mem_of_getElem? (i := 63) rfl)) (hw _ (List.mem_of_getElem? (i := 1) rfl)) (by decide) (by decide)) (by rw [hml]; rfl) (a := kd) (argsL := []) (rest := []) E_kd (lenOf pd_5 rfl) rfl (Nat.le_of_ble_eq_true rfl) (hb hby d8_4) rfl e72 (by decide) (by decide) fun T73 v73 L73 X73 hQ73 => ?_
  obtain ⟨rfl, Nq73, e73⟩ := hQ73
  have N73 := Fr.app N0 Nq73
  refine Owe.gets X73 hx hZ hown (hw _ (List.mem_of_getElem? (i := 68) rfl)) Via.refl e73 (S_ERROR.ext Ol.2) (hb hby d8_7) fun T74 X74 e74 => ?_
  refine Owe.acmpNo X74.here hx (hb hby d8_10) rfl rfl rfl (by simp [Jvm.Free.XT.acmp]) ?_
  refine Owe.iconst X74.here hx (hb hby d8_13) (w := (1 : Int32)) rfl ?_
  refine Owe.goto X74.here hx (hb hby d8_14) (pc' := 18) (by decide) (by decide) ?_
  refine Owe.retN X74 hx hlk (t := .boolean) Bd.returns (by simp) (hb hby d8_18) rfl fun fs hE => ?_
  rw [hG]
  refine ⟨_, _, rfl, ?_, frameMono hE (by decide) (by decide)⟩
  show Qer1 Z a1 kd er h0 n0 _ T74.heap _
  rw [e74]
  exact ⟨rfl, N73, rfl⟩
theorem pn_er0 : plainName "com/example/overrule/overrule/model/Finding" = true := by first | (simp [plainName, overriddenIn]; done) | decide +kernel
theorem ef_er0 (m : MethodId) (x0 : Addr)  : entryFrame m #[(.ref x0)] 1 = mkF m 0 #[.val (.ref x0)] [] := by first | (simp [entryFrame, mkF, argsToLocals, Value.category]; done) | rfl
def Qer0 (Z : State) (a1 : Addr) (kd : Addr) (er : Addr) (wn : Addr) (h0 : Heap) (n0 : Nat) (v : Option Value) (h : Heap) (L : List Loc) : Prop := v = some (.int (0 : Int32)) ∧ Fr n0 L ∧ h = h0
set_option maxRecDepth 65536 in
set_option maxHeartbeats 40000000 in
theorem rmer0 (l : Launch) (Z : State) (a0 : Array Value) (hw : ∀ d ∈ tables_1, d.before a0 Z = true) (ws : List Jvm.Cond) (a1 : Addr) (kd : Addr) (er : Addr) (wn : Addr) (h0 : Heap) (n0 : Nat) (Z0 : n0 ≤ h0.size) (Fkind_a1 : Fld Z h0 a1 "com/example/overrule/overrule/model/Finding" "kind" "Lcom/example/overrule/overrule/model/Finding$Kind;" (.ref kd)) (E_kd : Exa Z h0 kd "com/example/overrule/overrule/model/Finding$Kind") (Fseverity_kd : Fld Z h0 kd "com/example/overrule/overrule/model/Finding$Kind" "severity" "Lcom/example/overrule/overrule/model/Finding$Severity;" (.ref wn)) (S_ERROR : Sta Z Z.heap "com/example/overrule/overrule/model/Finding$Severity" "ERROR" "Lcom/example/overrule/overrule/model/Finding$Severity;" (.ref er)) (Ol : Old Z n0 h0) (ne_wn_er : wn ≠ er) :
    MetFree l (⟨"com/example/overrule/overrule/model/Finding", "error", "()Z"⟩ : MethodName) (head1 (Jvm.Cond.code (⟨"com/example/overrule/overrule/model/Finding", "error", "()Z"⟩ : MethodName) prog_10_method_2_code 1 (some .boolean) :: ws) ({ frames := 1, cells := 0, slots := 0, locals := 12 } : Room)) (fun a U => a = #[(.ref a1)] ∧ Z.Warmed39 U.vm ∧ U.heap = h0) (fun _ _ _ _ _ => True) (fun _ U o U' => ∃ v L, o = .returned v ∧ Qer0 Z a1 kd er wn h0 n0 v U'.heap L ∧ FrameEnd U o U' L ({ frames := 1, cells := 0, slots := 0, locals := 12 } : Room).cells ({ frames := 1, cells := 0, slots := 0, locals := 12 } : Room).slots) := by
  refine MetFree.of_bodySF (plainFor_of_name pn_er0) hisR ?_
  intro p e s m args below meth c s₁ Bd hml0 hP hK
  obtain ⟨rfl, hZ, hh⟩ := hP
  have hx := Bd.exec
  have hby := Bd.bytes
  have hml : c.maxLocals = 1 := hml0
  have hown : s.vm.findClass "com/example/overrule/overrule/model/Finding" = some m.cls := findClass_of_methodNamed Bd.named
  have hnm := (name_of_methodNamed Bd.named Bd.method).1
  have hlk : meth.locks = false := BodyLoose.notSynchronized Bd
  have X0 : Stand p l e ({ frames := 1, cells := 0, slots := 0, locals := 12 } : Room) s m #[(.ref a1)] below meth c s₁ [] 0 0 := Stand.of_body Bd
  have e0 : s₁.heap = h0 := by rw [← hh, Bd.state]; rfl
  have N0 := Fr.nil n0
  obtain ⟨G, hG⟩ : ∃ G : Outcome → State → Prop, G = fun o u => ∃ v L, o = .returned v ∧ Qer0 Z a1 kd er wn h0 n0 v u.heap L ∧ FrameEnd s o u L ({ frames := 1, cells := 0, slots := 0, locals := 12 } : Room).cells ({ frames := 1, cells := 0, slots := 0, locals := 12 } : Room).slots := ⟨_, rfl⟩
  suffices hgo : Owe p.tables e below G s₁ (mkF m 0 #[.val (.ref a1)] []) by
    obtain ⟨u, o, h1, h2, h3, h4⟩ := hgo
    exact ⟨u, o, castTop (ef_er0 m a1) h1, h2, h3, by rw [hG] at h4; exact h4⟩
  refine Owe.aloadN X0.here hx (hb hby d8_0) rfl rfl ?_
  refine Owe.getf X0 hx hZ (host := "") hown (Or.inl (hw _ (List.mem_of_getElem? (i := 50) rfl))) Via.refl e0 Fkind_a1 (hb hby d8_1) rfl fun T75 X75 e75 => ?_
  refine Owe.virt X75 hx hZ (y := (⟨"com/example/overrule/overrule/model/Finding$Kind", "severity", "()Lcom/example/overrule/overrule/model/Finding$Severity;"⟩ : MethodName)) (z := (⟨"com/example/overrule/overrule/model/Finding$Kind", "severity", "()Lcom/example/overrule/overrule/model/Finding$Severity;"⟩ : MethodName)) hown (mvT hZ (hw _ (List.mem_of_getElem? (i := 59) rfl))) (mvT hZ (hw _ (List.mem_of_getElem? (i := 60) rfl))) (mvT hZ (hw _ (List.mem_of_getElem? (i := 62) rfl))) (mvT hZ (hw _ (List.mem_of_getElem? (i := 61) rfl))) (notFace_of_selects (args := #[]) (mvT hZ (hw _ (List.mem_of_getElem? (i := 62) rfl)))) (by decide) (backOf (W := 0) (rmsev l Z a0 hw [] kd wn h0 n0 Z0 Fseverity_kd) hZ (hw _ (List.mem_of_getElem? (i := 63) rfl)) (hw _ (List.mem_of_getElem? (i := 1) rfl)) (by decide) (by decide)) (by rw [hml]; rfl) (a := kd) (argsL := []) (rest := []) E_kd (lenOf pd_5 rfl) rfl (Nat.le_of_ble_eq_true rfl) (hb hby d8_4) rfl e75 (by decide) (by decide) fun T76 v76 L76 X76 hQ76 => ?_
  obtain ⟨rfl, Nq76, e76⟩ := hQ76
  have N76 := Fr.app N0 Nq76
  refine Owe.gets X76 hx hZ hown (hw _ (List.mem_of_getElem? (i := 68) rfl)) Via.refl e76 (S_ERROR.ext Ol.2) (hb hby d8_7) fun T77 X77 e77 => ?_
  refine Owe.acmpYes X77.here hx (hb hby d8_10) rfl rfl rfl (by simp [Jvm.Free.XT.acmp, ne_wn_er]) (pc' := 17) (by decide) (by decide) ?_
  refine Owe.iconst X77.here hx (hb hby d8_17) (w := (0 : Int32)) rfl ?_
  refine Owe.retN X77 hx hlk (t := .boolean) Bd.returns (by simp) (hb hby d8_18) rfl fun fs hE => ?_
  rw [hG]
  refine ⟨_, _, rfl, ?_, frameMono hE (by decide) (by decide)⟩
  show Qer0 Z a1 kd er wn h0 n0 _ T77.heap _
  rw [e77]
  exact ⟨rfl, N76, rfl⟩
theorem pn_0 : plainName "com/example/overrule/overrule/model/FindingErrorPinLaw" = true := by first | (simp [plainName, overriddenIn]; done) | decide +kernel
theorem ef_0 (m : MethodId) (x0 : Int32) (x1 : Int32) (x2 : Int32)  : entryFrame m #[(.int x0), (.int x1), (.int x2)] maxLocals = mkF m 0 #[.val (.int x0), .val (.int x1), .val (.int x2), .unset, .unset, .unset, .unset, .unset, .unset] [] := by first | (simp [entryFrame, mkF, argsToLocals, Value.category, maxLocals]; done) | rfl
def Q0 (Z : State) (p1 : Int32) (p2 : Int32) (p3 : Int32) (G1 : Int32) (r1 : Addr) (er : Addr) (r2 : Addr) (r4 : Addr) (wn : Addr) (r3 : Addr) (h0 : Heap) (n0 : Nat) (v : Option Value) (h : Heap) (L : List Loc) : Prop := v = some (.int 1) ∧ Fr n0 L
set_option maxRecDepth 65536 in
set_option maxHeartbeats 40000000 in
theorem rm0 (l : Launch) (Z : State) (a0 : Array Value) (hw : ∀ d ∈ tables_1, d.before a0 Z = true) (ws : List Jvm.Cond) (p1 : Int32) (p2 : Int32) (p3 : Int32) (G1 : Int32) (r1 : Addr) (er : Addr) (r2 : Addr) (r4 : Addr) (wn : Addr) (r3 : Addr) (h0 : Heap) (n0 : Nat) (Z0 : n0 ≤ h0.size) (S_COMPACT_STRINGS : Sta Z Z.heap "java/lang/String" "COMPACT_STRINGS" "Z" (.int G1)) (cs0 : ¬ (G1 = (0 : Int32))) (Ol : Old Z n0 h0) (S_REQUIREMENT_1 : Sta Z Z.heap "com/example/overrule/overrule/model/Finding$Kind" "REQUIREMENT_1" "Lcom/example/overrule/overrule/model/Finding$Kind;" (.ref r1)) (E_r1 : Exa Z h0 r1 "com/example/overrule/overrule/model/Finding$Kind") (S_ERROR : Sta Z Z.heap "com/example/overrule/overrule/model/Finding$Severity" "ERROR" "Lcom/example/overrule/overrule/model/Finding$Severity;" (.ref er)) (E_er : Exa Z h0 er "com/example/overrule/overrule/model/Finding$Severity") (S_REQUIREMENT_2 : Sta Z Z.heap "com/example/overrule/overrule/model/Finding$Kind" "REQUIREMENT_2" "Lcom/example/overrule/overrule/model/Finding$Kind;" (.ref r2)) (E_r2 : Exa Z h0 r2 "com/example/overrule/overrule/model/Finding$Kind") (S_EQUAL_DISTANCE_LEVELS : Sta Z Z.heap "com/example/overrule/overrule/model/Finding$Kind" "EQUAL_DISTANCE_LEVELS" "Lcom/example/overrule/overrule/model/Finding$Kind;" (.ref r4)) (E_r4 : Exa Z h0 r4 "com/example/overrule/overrule/model/Finding$Kind") (S_WARNING : Sta Z Z.heap "com/example/overrule/overrule/model/Finding$Severity" "WARNING" "Lcom/example/overrule/overrule/model/Finding$Severity;" (.ref wn)) (E_wn : Exa Z h0 wn "com/example/overrule/overrule/model/Finding$Severity") (S_REGULAR_AND_BREAKABLE : Sta Z Z.heap "com/example/overrule/overrule/model/Finding$Kind" "REGULAR_AND_BREAKABLE" "Lcom/example/overrule/overrule/model/Finding$Kind;" (.ref r3)) (E_r3 : Exa Z h0 r3 "com/example/overrule/overrule/model/Finding$Kind") (Fseverity_r1 : Fld Z h0 r1 "com/example/overrule/overrule/model/Finding$Kind" "severity" "Lcom/example/overrule/overrule/model/Finding$Severity;" (.ref er)) (Fseverity_r2 : Fld Z h0 r2 "com/example/overrule/overrule/model/Finding$Kind" "severity" "Lcom/example/overrule/overrule/model/Finding$Severity;" (.ref er)) (Fseverity_r4 : Fld Z h0 r4 "com/example/overrule/overrule/model/Finding$Kind" "severity" "Lcom/example/overrule/overrule/model/Finding$Severity;" (.ref wn)) (Fordinal_wn : Fld Z h0 wn "java/lang/Enum" "ordinal" "I" (.int (1 : Int32))) (Fordinal_er : Fld Z h0 er "java/lang/Enum" "ordinal" "I" (.int (0 : Int32))) (Fseverity_r3 : Fld Z h0 r3 "com/example/overrule/overrule/model/Finding$Kind" "severity" "Lcom/example/overrule/overrule/model/Finding$Severity;" (.ref wn)) (ne_wn_er : wn ≠ er) :
    MetFree l x (head1 (Jvm.Cond.code x code maxLocals ret :: ws) room_1) (fun a U => a = #[(.int p1), (.int p2), (.int p3)] ∧ Z.Warmed39 U.vm ∧ U.heap = h0 ∧ CHv Z own_EL U.vm h0) (fun _ _ _ _ _ => True) (fun _ U o U' => ∃ v L, o = .returned v ∧ Q0 Z p1 p2 p3 G1 r1 er r2 r4 wn r3 h0 n0 v U'.heap L ∧ CHr Z own_EL U.vm U.heap U'.vm U'.heap ∧ ReturnedEndW U o U' L room_1.cells room_1.slots) := by
  refine MetFree.of_bodySF (plainFor_of_name pn_0) hisR ?_
  intro p e s m args below meth c s₁ Bd hml0 hP hK
  obtain ⟨rfl, hZ0, hh, H0⟩ := hP
  have hx := Bd.exec
  have hby := Bd.bytes
  have hml : c.maxLocals = 9 := hml0
  have hown : s.vm.findClass "com/example/overrule/overrule/model/FindingErrorPinLaw" = some m.cls := findClass_of_methodNamed Bd.named
  have hnm := (name_of_methodNamed Bd.named Bd.method).1
  have hlk : meth.locks = false := BodyLoose.notSynchronized Bd
  have X0 : Stand p l e room_1 (s.setVm s.vm) m #[(.int p1), (.int p2), (.int p3)] below meth c s₁ [] 0 0 := Stand.of_body Bd
  have e0 : s₁.heap = h0 := by rw [← hh, Bd.state]; rfl
  have N0 := Fr.nil n0
  have hZ : Z.Warmed39 (s.setVm s.vm).vm := hZ0
  have hown1 : (s.setVm s.vm).vm.findClass "com/example/overrule/overrule/model/FindingErrorPinLaw" = some m.cls := hown
  have hS0 : s.Since s.vm 0 := (State.WarmedH.refl s).since 0
  have hk0 : 0 ≤ h0.size := Nat.zero_le _
  have R0 : CHr Z own_EL s.vm h0 s.vm h0 := CHr.refl H0
  obtain ⟨G, hG⟩ : ∃ G : Outcome → State → Prop, G = fun o u => ∃ v L, o = .returned v ∧ Q0 Z p1 p2 p3 G1 r1 er r2 r4 wn r3 h0 n0 v u.heap L ∧ CHr Z own_EL s.vm s.heap u.vm u.heap ∧ ReturnedEndW s o u L room_1.cells room_1.slots := ⟨_, rfl⟩
  suffices hgo : Owe p.tables e below G s₁ (mkF m 0 #[.val (.int p1), .val (.int p2), .val (.int p3), .unset, .unset, .unset, .unset, .unset, .unset] []) by
    obtain ⟨u, o, h1, h2, h3, h4⟩ := hgo
    exact ⟨u, o, castTop (ef_0 m p1 p2 p3) h1, h2, h3, by rw [hG] at h4; exact h4⟩
  have hws : ∀ d ∈ StrChars.Road.words, d.before a0 Z = true := fun d hd => hw d (own_words d hd)
  refine Owe.iloadN X0.here hx (hb hby at_0) rfl ?_
  refine Owe.iconst X0.here hx (hb hby at_1) (w := (3 : Int32)) rfl ?_
  refine Owe.iand X0.here hx (hb hby at_2) rfl ?_
  refine Owe.istoreN X0.here hx (hb hby at_3) rfl (l' := #[.val (.int p1), .val (.int p2), .val (.int p3), .val (.int (p1 &&& (3 : Int32))), .unset, .unset, .unset, .unset, .unset]) rfl ?_
  refine Owe.iloadN X0.here hx (hb hby at_4) rfl ?_
  by_cases hc5_78 : (p1 &&& (3 : Int32)) = (0 : Int32)
  · skip
    refine Owe.ifNo X0.here hx (hb hby at_5) rfl ((if0 _ _).trans (teq hc5_78).2) ?_
    refine Owe.gets X0 hx hZ hown1 (hw _ (List.mem_of_getElem? (i := 0) rfl)) Via.refl e0 (S_REQUIREMENT_1.ext Ol.2) (hb hby at_8) fun T79 X79 e79 => ?_
    refine Owe.astore X79.here hx (hb hby at_11) rfl rfl (l' := #[.val (.int p1), .val (.int p2), .val (.int p3), .val (.int (p1 &&& (3 : Int32))), .val (.ref r1), .unset, .unset, .unset, .unset]) rfl ?_
    refine Owe.iconst X79.here hx (hb hby at_13) (w := (1 : Int32)) rfl ?_
    refine Owe.istore X79.here hx (hb hby at_14) rfl (l' := #[.val (.int p1), .val (.int p2), .val (.int p3), .val (.int (p1 &&& (3 : Int32))), .val (.ref r1), .val (.int (1 : Int32)), .unset, .unset, .unset]) rfl ?_
    refine Owe.goto X79.here hx (hb hby at_16) (pc' := 59) (by decide) (by decide) ?_
    refine Owe.iconst X79.here hx (hb hby at_59) (w := (2 : Int32)) rfl ?_
    refine Owe.newarr X79 hx hZ (aty := .char) (hw _ (List.mem_of_getElem? (i := 3) rfl)) e79 (hb hby at_60) rfl (by decide) (cap := 2) (by decide) (by decide) (by decide) (by decide) fun T80 h80 b80 k80 g80 X80 e80 E80 V80 => ?_
    have ne_r1_b80 : r1 ≠ b80 := Nat.ne_of_lt (Nat.lt_of_lt_of_le E_r1.lt (Nat.le_of_eq g80.symm))
    have ne_er_b80 : er ≠ b80 := Nat.ne_of_lt (Nat.lt_of_lt_of_le E_er.lt (Nat.le_of_eq g80.symm))
    have ne_r2_b80 : r2 ≠ b80 := Nat.ne_of_lt (Nat.lt_of_lt_of_le E_r2.lt (Nat.le_of_eq g80.symm))
    have ne_r4_b80 : r4 ≠ b80 := Nat.ne_of_lt (Nat.lt_of_lt_of_le E_r4.lt (Nat.le_of_eq g80.symm))
    have ne_wn_b80 : wn ≠ b80 := Nat.ne_of_lt (Nat.lt_of_lt_of_le E_wn.lt (Nat.le_of_eq g80.symm))
    have ne_r3_b80 : r3 ≠ b80 := Nat.ne_of_lt (Nat.lt_of_lt_of_le E_r3.lt (Nat.le_of_eq g80.symm))
    have sf_b80 := (Safe.new (Nat.le_of_eq g80.symm) : Safe Z own_EL s.vm h0 b80)
    have ge_b80 := Nat.le_trans Z0 (Nat.le_of_eq g80.symm)
    have hk81 := Nat.le_trans hk0 E80.1
    have sf_b80_81 := Safe.ext E80 H0 sf_b80
    have Rr81 := R0.trans (CHr.ext E80 H0)
    have H81 := CHv.ext E80 H0
    have Ol_82 := Ol.ext E80
    have E_r1_83 := E_r1.ext E80
    have E_er_84 := E_er.ext E80
    have E_r2_85 := E_r2.ext E80
    have E_r4_86 := E_r4.ext E80
    have E_wn_87 := E_wn.ext E80
    have E_r3_88 := E_r3.ext E80
    have Fseverity_r1_89 := Fseverity_r1.ext E80
    have Fseverity_r2_90 := Fseverity_r2.ext E80
    have Fseverity_r4_91 := Fseverity_r4.ext E80
    have Fordinal_wn_92 := Fordinal_wn.ext E80
    have Fordinal_er_93 := Fordinal_er.ext E80
    have Fseverity_r3_94 := Fseverity_r3.ext E80
    have Z_95 := Nat.le_trans Z0 E80.1
    have V_b80_80 : Arv Z h80 b80 k80 .char (2 : Int32) [(.int (0 : Int32)), (.int (0 : Int32))] (.int (0 : Int32)) := V80.pad (pad_rep [] (.int (0 : Int32)) 2)
    refine Owe.astore X80.here hx (hb hby at_62) rfl rfl (l' := #[.val (.int p1), .val (.int p2), .val (.int p3), .val (.int (p1 &&& (3 : Int32))), .val (.ref r1), .val (.int (1 : Int32)), .val (.ref b80), .unset, .unset]) rfl ?_
    refine Owe.aload X80.here hx (hb hby at_64) rfl rfl ?_
    refine Owe.iconst X80.here hx (hb hby at_66) (w := (0 : Int32)) rfl ?_
    refine Owe.iloadN X80.here hx (hb hby at_67) rfl ?_
    refine Owe.sipush X80.here hx (hb hby at_68) (w := (255 : Int32)) rfl ?_
    refine Owe.iand X80.here hx (hb hby at_71) rfl ?_
    refine Owe.i2c X80.here hx (hb hby at_72) rfl ?_
    refine Owe.castore X80 hx hZ e80 V_b80_80 (x := ((p2 &&& (255 : Int32)).toUInt32.toUInt16.toUInt32.toInt32)) 0 rfl (Nat.le_of_ble_eq_true rfl) (by decide) (hb hby at_73) rfl fun T96 h96 X96 e96 W96 (V96 : Arv Z h96 b80 k80 .char (2 : Int32) [(.int (nar .char ((p2 &&& (255 : Int32)).toUInt32.toUInt16.toUInt32.toInt32))), (.int (0 : Int32))] (.int (0 : Int32))) => ?_
    have hk97 := Nat.le_trans hk81 (Keep.of_wr W96).1
    have sf_b80_97 := Safe.wr W96 sf_b80_81 H81 sf_b80_81
    have Rr97 := Rr81.trans (CHr.wr W96 sf_b80_81 H81)
    have H97 := CHv.wr W96 sf_b80_81 H81
    have Ol_98 := Ol_82.wr W96 ge_b80
    have E_r1_99 := E_r1_83.wr W96
    have E_er_100 := E_er_84.wr W96
    have E_r2_101 := E_r2_85.wr W96
    have E_r4_102 := E_r4_86.wr W96
    have E_wn_103 := E_wn_87.wr W96
    have E_r3_104 := E_r3_88.wr W96
    have Fseverity_r1_105 := Fseverity_r1_89.other W96 (Or.inl ne_r1_b80)
    have Fseverity_r2_106 := Fseverity_r2_90.other W96 (Or.inl ne_r2_b80)
    have Fseverity_r4_107 := Fseverity_r4_91.other W96 (Or.inl ne_r4_b80)
    have Fordinal_wn_108 := Fordinal_wn_92.other W96 (Or.inl ne_wn_b80)
    have Fordinal_er_109 := Fordinal_er_93.other W96 (Or.inl ne_er_b80)
    have Fseverity_r3_110 := Fseverity_r3_94.other W96 (Or.inl ne_r3_b80)
    have Z_111 := Nat.le_trans Z_95 (Keep.of_wr W96).1
    have N96 := Fr.snoc X96 N0 ge_b80
    refine Owe.aload X96.here hx (hb hby at_74) rfl rfl ?_
    refine Owe.iconst X96.here hx (hb hby at_76) (w := (1 : Int32)) rfl ?_
    refine Owe.iloadN X96.here hx (hb hby at_77) rfl ?_
    refine Owe.sipush X96.here hx (hb hby at_78) (w := (255 : Int32)) rfl ?_
    refine Owe.iand X96.here hx (hb hby at_81) rfl ?_
    refine Owe.i2c X96.here hx (hb hby at_82) rfl ?_
    refine Owe.castore X96 hx hZ e96 V96 (x := ((p3 &&& (255 : Int32)).toUInt32.toUInt16.toUInt32.toInt32)) 1 rfl (Nat.le_of_ble_eq_true rfl) (by decide) (hb hby at_83) rfl fun T112 h112 X112 e112 W112 (V112 : Arv Z h112 b80 k80 .char (2 : Int32) [(.int (nar .char ((p2 &&& (255 : Int32)).toUInt32.toUInt16.toUInt32.toInt32))), (.int (nar .char ((p3 &&& (255 : Int32)).toUInt32.toUInt16.toUInt32.toInt32)))] (.int (0 : Int32))) => ?_
    have hk113 := Nat.le_trans hk97 (Keep.of_wr W112).1
    have sf_b80_113 := Safe.wr W112 sf_b80_97 H97 sf_b80_97
    have Rr113 := Rr97.trans (CHr.wr W112 sf_b80_97 H97)
    have H113 := CHv.wr W112 sf_b80_97 H97
    have Ol_114 := Ol_98.wr W112 ge_b80
    have E_r1_115 := E_r1_99.wr W112
    have E_er_116 := E_er_100.wr W112
    have E_r2_117 := E_r2_101.wr W112
    have E_r4_118 := E_r4_102.wr W112
    have E_wn_119 := E_wn_103.wr W112
    have E_r3_120 := E_r3_104.wr W112
    have Fseverity_r1_121 := Fseverity_r1_105.other W112 (Or.inl ne_r1_b80)
    have Fseverity_r2_122 := Fseverity_r2_106.other W112 (Or.inl ne_r2_b80)
    have Fseverity_r4_123 := Fseverity_r4_107.other W112 (Or.inl ne_r4_b80)
    have Fordinal_wn_124 := Fordinal_wn_108.other W112 (Or.inl ne_wn_b80)
    have Fordinal_er_125 := Fordinal_er_109.other W112 (Or.inl ne_er_b80)
    have Fseverity_r3_126 := Fseverity_r3_110.other W112 (Or.inl ne_r3_b80)
    have Z_127 := Nat.le_trans Z_111 (Keep.of_wr W112).1
    have N112 := Fr.snoc X112 N96 ge_b80
    refine Owe.iloadN X112.here hx (hb hby at_84) rfl ?_
    refine Owe.iconst X112.here hx (hb hby at_85) (w := (4 : Int32)) rfl ?_
    refine Owe.iand X112.here hx (hb hby at_86) rfl ?_
    by_cases hc87_128 : (p1 &&& (4 : Int32)) = (0 : Int32)
    · skip
      refine Owe.ifYes X112.here hx (hb hby at_87) rfl ((if0 _ _).trans (teq hc87_128).1) (pc' := 104) (by decide) (by decide) ?_
      refine Owe.aload X112.here hx (hb hby at_104) rfl rfl ?_
      refine Owe.iconst X112.here hx (hb hby at_106) (w := (0 : Int32)) rfl ?_
      refine Owe.caload X112 hx hZ e112 V112 (v := (.int (nar .char ((p2 &&& (255 : Int32)).toUInt32.toUInt16.toUInt32.toInt32)))) (by decide) rfl (hb hby at_107) rfl ?_
      refine Owe.stat X112 hx (y := (⟨"java/lang/String", "valueOf", "(C)Ljava/lang/String;"⟩ : MethodName)) hown1 (mvT hZ (hw _ (List.mem_of_getElem? (i := 4) rfl))) (mvT hZ (hw _ (List.mem_of_getElem? (i := 5) rfl))) (mvT hZ (hw _ (List.mem_of_getElem? (i := 6) rfl))) (mvT hZ (hw _ (List.mem_of_getElem? (i := 7) rfl))) (by decide) (backOf (W := 0) (rmvof l Z a0 hw [] (nar .char ((p2 &&& (255 : Int32)).toUInt32.toUInt16.toUInt32.toInt32)) G1 h112 n0 Z_127 S_COMPACT_STRINGS cs0 (and255_chars p2).2 Ol_114) hZ (hw _ (List.mem_of_getElem? (i := 7) rfl)) (hw _ (List.mem_of_getElem? (i := 6) rfl)) (by decide) (by decide)) (by rw [hml]; rfl) (argsL := [(.int (nar .char ((p2 &&& (255 : Int32)).toUInt32.toUInt16.toUInt32.toInt32)))]) (rest := []) (lenOf pd_6 rfl) rfl (Nat.le_of_ble_eq_true rfl) (hb hby at_108) rfl e112 (by decide) (by decide) fun T129 v129 L129 X129 hQ129 => ?_
      obtain ⟨x1_129, t1_129, k1_129, rfl, Nq129, K129, ge_x1_129, fresh_x1_129, ge_t1_129, fresh_t1_129, E_x1_129, Fvalue_x1_129, Fcoder_x1_129, V_t1_129⟩ := hQ129
      have N129 := Fr.app N112 Nq129
      have hk130 := Nat.le_trans hk113 K129.1
      have sf_b80_130 := Safe.keep K129 sf0 H113 sf_b80_113
      have Rr130 := Rr113.trans (CHr.keep K129 sf0 H113)
      have H130 := CHv.keep K129 sf0 H113
      have Ol_131 := Ol_114.keep K129 all0
      have E_r1_132 := E_r1_115.keep K129
      have E_er_133 := E_er_116.keep K129
      have E_r2_134 := E_r2_117.keep K129
      have E_r4_135 := E_r4_118.keep K129
      have E_wn_136 := E_wn_119.keep K129
      have E_r3_137 := E_r3_120.keep K129
      have Fseverity_r1_138 := Fseverity_r1_121.keep K129 nin0
      have Fseverity_r2_139 := Fseverity_r2_122.keep K129 nin0
      have Fseverity_r4_140 := Fseverity_r4_123.keep K129 nin0
      have Fordinal_wn_141 := Fordinal_wn_124.keep K129 nin0
      have Fordinal_er_142 := Fordinal_er_125.keep K129 nin0
      have Fseverity_r3_143 := Fseverity_r3_126.keep K129 nin0
      have V112_144 := V112.keep K129 nin0
      have Z_145 := Nat.le_trans Z_127 K129.1
      have ne_r1_x1_129 : r1 ≠ x1_129 := Nat.ne_of_lt (Nat.lt_of_lt_of_le E_r1_115.lt fresh_x1_129)
      have ne_er_x1_129 : er ≠ x1_129 := Nat.ne_of_lt (Nat.lt_of_lt_of_le E_er_116.lt fresh_x1_129)
      have ne_r2_x1_129 : r2 ≠ x1_129 := Nat.ne_of_lt (Nat.lt_of_lt_of_le E_r2_117.lt fresh_x1_129)
      have ne_r4_x1_129 : r4 ≠ x1_129 := Nat.ne_of_lt (Nat.lt_of_lt_of_le E_r4_118.lt fresh_x1_129)
      have ne_wn_x1_129 : wn ≠ x1_129 := Nat.ne_of_lt (Nat.lt_of_lt_of_le E_wn_119.lt fresh_x1_129)
      have ne_r3_x1_129 : r3 ≠ x1_129 := Nat.ne_of_lt (Nat.lt_of_lt_of_le E_r3_120.lt fresh_x1_129)
      have ne_b80_x1_129 : b80 ≠ x1_129 := Nat.ne_of_lt (Nat.lt_of_lt_of_le V112.lt fresh_x1_129)
      have ne_r1_t1_129 : r1 ≠ t1_129 := Nat.ne_of_lt (Nat.lt_of_lt_of_le E_r1_115.lt fresh_t1_129)
      have ne_er_t1_129 : er ≠ t1_129 := Nat.ne_of_lt (Nat.lt_of_lt_of_le E_er_116.lt fresh_t1_129)
      have ne_r2_t1_129 : r2 ≠ t1_129 := Nat.ne_of_lt (Nat.lt_of_lt_of_le E_r2_117.lt fresh_t1_129)
      have ne_r4_t1_129 : r4 ≠ t1_129 := Nat.ne_of_lt (Nat.lt_of_lt_of_le E_r4_118.lt fresh_t1_129)
      have ne_wn_t1_129 : wn ≠ t1_129 := Nat.ne_of_lt (Nat.lt_of_lt_of_le E_wn_119.lt fresh_t1_129)
      have ne_r3_t1_129 : r3 ≠ t1_129 := Nat.ne_of_lt (Nat.lt_of_lt_of_le E_r3_120.lt fresh_t1_129)
      have ne_b80_t1_129 : b80 ≠ t1_129 := Nat.ne_of_lt (Nat.lt_of_lt_of_le V112.lt fresh_t1_129)
      refine Owe.astore X129.here hx (hb hby at_111) rfl rfl (l' := #[.val (.int p1), .val (.int p2), .val (.int p3), .val (.int (p1 &&& (3 : Int32))), .val (.ref r1), .val (.int (1 : Int32)), .val (.ref b80), .val (.ref x1_129), .unset]) rfl ?_
      refine Owe.new X129 hx hZ hown1 (hw _ (List.mem_of_getElem? (i := 30) rfl)) (hw _ (List.mem_of_getElem? (i := 31) rfl)) (hw _ (List.mem_of_getElem? (i := 32) rfl)) rfl (hb hby at_113) (by decide) (by decide) fun T146 h146 b146 g146 X146 e146 E146 A146 D146 => ?_
      have ne_r1_b146 : r1 ≠ b146 := Nat.ne_of_lt (Nat.lt_of_lt_of_le E_r1_132.lt (Nat.le_of_eq g146.symm))
      have ne_er_b146 : er ≠ b146 := Nat.ne_of_lt (Nat.lt_of_lt_of_le E_er_133.lt (Nat.le_of_eq g146.symm))
      have ne_r2_b146 : r2 ≠ b146 := Nat.ne_of_lt (Nat.lt_of_lt_of_le E_r2_134.lt (Nat.le_of_eq g146.symm))
      have ne_r4_b146 : r4 ≠ b146 := Nat.ne_of_lt (Nat.lt_of_lt_of_le E_r4_135.lt (Nat.le_of_eq g146.symm))
      have ne_wn_b146 : wn ≠ b146 := Nat.ne_of_lt (Nat.lt_of_lt_of_le E_wn_136.lt (Nat.le_of_eq g146.symm))
      have ne_r3_b146 : r3 ≠ b146 := Nat.ne_of_lt (Nat.lt_of_lt_of_le E_r3_137.lt (Nat.le_of_eq g146.symm))
      have ne_b80_b146 : b80 ≠ b146 := Nat.ne_of_lt (Nat.lt_of_lt_of_le V112_144.lt (Nat.le_of_eq g146.symm))
      have ne_x1_129_b146 : x1_129 ≠ b146 := Nat.ne_of_lt (Nat.lt_of_lt_of_le E_x1_129.lt (Nat.le_of_eq g146.symm))
      have ne_t1_129_b146 : t1_129 ≠ b146 := Nat.ne_of_lt (Nat.lt_of_lt_of_le V_t1_129.lt (Nat.le_of_eq g146.symm))
      have sf_b146 := (Safe.new (Nat.le_of_eq g146.symm) : Safe Z own_EL s.vm T129.heap b146)
      have ge_b146 := Nat.le_trans Z_145 (Nat.le_of_eq g146.symm)
      have hk147 := Nat.le_trans hk130 E146.1
      have sf_b80_147 := Safe.ext E146 H130 sf_b80_130
      have sf_b146_147 := Safe.ext E146 H130 sf_b146
      have Rr147 := Rr130.trans (CHr.ext E146 H130)
      have H147 := CHv.ext E146 H130
      have Ol_148 := Ol_131.ext E146
      have E_r1_149 := E_r1_132.ext E146
      have E_er_150 := E_er_133.ext E146
      have E_r2_151 := E_r2_134.ext E146
      have E_r4_152 := E_r4_135.ext E146
      have E_wn_153 := E_wn_136.ext E146
      have E_r3_154 := E_r3_137.ext E146
      have Fseverity_r1_155 := Fseverity_r1_138.ext E146
      have Fseverity_r2_156 := Fseverity_r2_139.ext E146
      have Fseverity_r4_157 := Fseverity_r4_140.ext E146
      have Fordinal_wn_158 := Fordinal_wn_141.ext E146
      have Fordinal_er_159 := Fordinal_er_142.ext E146
      have Fseverity_r3_160 := Fseverity_r3_143.ext E146
      have V112_161 := V112_144.ext E146
      have E_x1_162 := E_x1_129.ext E146
      have Fvalue_x1_163 := Fvalue_x1_129.ext E146
      have Fcoder_x1_164 := Fcoder_x1_129.ext E146
      have V_t1_165 := V_t1_129.ext E146
      have Z_166 := Nat.le_trans Z_145 E146.1
      have Fkind_b146 : Fld Z h146 b146 "com/example/overrule/overrule/model/Finding" "kind" "Lcom/example/overrule/overrule/model/Finding$Kind;" .null := D146 (Or.inr (hw _ (List.mem_of_getElem? (i := 51) rfl))) (ty := (.object "com/example/overrule/overrule/model/Finding$Kind")) (by decide)
      have Fexplanation_b146 : Fld Z h146 b146 "com/example/overrule/overrule/model/Finding" "explanation" "Ljava/lang/String;" .null := D146 (Or.inr (hw _ (List.mem_of_getElem? (i := 53) rfl))) (ty := (.object "java/lang/String")) (by decide)
      refine Owe.dup X146.here hx (hb hby at_116) rfl rfl ?_
      refine Owe.aload X146.here hx (hb hby at_117) rfl rfl ?_
      refine Owe.aload X146.here hx (hb hby at_119) rfl rfl ?_
      refine Owe.specialS X146 hx hZ hS0 hk147 (y := (⟨"com/example/overrule/overrule/model/Finding", "<init>", "(Lcom/example/overrule/overrule/model/Finding$Kind;Ljava/lang/String;)V"⟩ : MethodName)) rfl hown1 (mvT hZ (hw _ (List.mem_of_getElem? (i := 33) rfl))) (mvT hZ (hw _ (List.mem_of_getElem? (i := 34) rfl))) (mvT hZ (hw _ (List.mem_of_getElem? (i := 35) rfl))) (by decide) (backOfSH (W := 1) (rmini l Z a0 hw [] b146 r1 x1_129 .null .null h146 n0 Z_166 A146 Fkind_b146 Fexplanation_b146 ge_b146) hZ (hw _ (List.mem_of_getElem? (i := 35) rfl)) (hw _ (List.mem_of_getElem? (i := 32) rfl)) (by decide) (by decide) (own_ew hw) H147) (by rw [hml]; rfl) (a := b146) (argsL := [(.ref r1), (.ref x1_129)]) (rest := [(.ref b146)]) (lenOf pd_7 rfl) rfl (Nat.le_of_ble_eq_true rfl) (hb hby at_121) rfl e146 (by decide) (by decide) fun T167 v167 L167 X167 hS167 hZ167 hown167 hC167 hQ167 => ?_
      obtain ⟨rfl, Nq167, K167, E_a1_167, Fkind_a1_167⟩ := hQ167
      have N167 := Fr.app N129 Nq167
      have hk168 := Nat.le_trans hk147 K167.1
      have Ol_169 := Ol_148.keep K167 (allS ge_b146 all0)
      have E_r1_170 := E_r1_149.keep K167
      have E_er_171 := E_er_150.keep K167
      have E_r2_172 := E_r2_151.keep K167
      have E_r4_173 := E_r4_152.keep K167
      have E_wn_174 := E_wn_153.keep K167
      have E_r3_175 := E_r3_154.keep K167
      have Fseverity_r1_176 := Fseverity_r1_155.keep K167 (ninS ne_r1_b146 nin0)
      have Fseverity_r2_177 := Fseverity_r2_156.keep K167 (ninS ne_r2_b146 nin0)
      have Fseverity_r4_178 := Fseverity_r4_157.keep K167 (ninS ne_r4_b146 nin0)
      have Fordinal_wn_179 := Fordinal_wn_158.keep K167 (ninS ne_wn_b146 nin0)
      have Fordinal_er_180 := Fordinal_er_159.keep K167 (ninS ne_er_b146 nin0)
      have Fseverity_r3_181 := Fseverity_r3_160.keep K167 (ninS ne_r3_b146 nin0)
      have V112_182 := V112_161.keep K167 (ninS ne_b80_b146 nin0)
      have E_x1_183 := E_x1_162.keep K167
      have Fvalue_x1_184 := Fvalue_x1_163.keep K167 (ninS ne_x1_129_b146 nin0)
      have Fcoder_x1_185 := Fcoder_x1_164.keep K167 (ninS ne_x1_129_b146 nin0)
      have V_t1_186 := V_t1_165.keep K167 (ninS ne_t1_129_b146 nin0)
      have A146_187 := A146.keep K167
      have Z_188 := Nat.le_trans Z_166 K167.1
      have sf_b80_167 := CHr.safe hC167 V112_161.lt sf_b80_147
      have sf_b146_167 := CHr.safe hC167 A146.lt sf_b146_147
      have Rr167 := Rr147.trans hC167
      have H167 := hC167.1
      have hk167 : T167.heap.size ≤ T167.heap.size := Nat.le_refl _
      refine Owe.astore X167.here hx (hb hby at_124) rfl rfl (l' := #[.val (.int p1), .val (.int p2), .val (.int p3), .val (.int (p1 &&& (3 : Int32))), .val (.ref r1), .val (.int (1 : Int32)), .val (.ref b80), .val (.ref x1_129), .val (.ref b146)]) rfl ?_
      refine Owe.aload X167.here hx (hb hby at_126) rfl rfl ?_
      refine Owe.virt X167 hx hZ167 (y := (⟨"com/example/overrule/overrule/model/Finding", "error", "()Z"⟩ : MethodName)) (z := (⟨"com/example/overrule/overrule/model/Finding", "error", "()Z"⟩ : MethodName)) hown167 (mvT hZ167 (hw _ (List.mem_of_getElem? (i := 54) rfl))) (mvT hZ167 (hw _ (List.mem_of_getElem? (i := 55) rfl))) (mvT hZ167 (hw _ (List.mem_of_getElem? (i := 57) rfl))) (mvT hZ167 (hw _ (List.mem_of_getElem? (i := 56) rfl))) (notFace_of_selects (args := #[]) (mvT hZ167 (hw _ (List.mem_of_getElem? (i := 57) rfl)))) (by decide) (backOf (W := 0) (rmer1 l Z a0 hw [] b146 r1 er T167.heap n0 Z_188 Fkind_a1_167 E_r1_170 Fseverity_r1_176 S_ERROR Ol_169) hZ167 (hw _ (List.mem_of_getElem? (i := 58) rfl)) (hw _ (List.mem_of_getElem? (i := 32) rfl)) (by decide) (by decide)) (by rw [hml]; rfl) (a := b146) (argsL := []) (rest := []) E_a1_167 (lenOf pd_8 rfl) rfl (Nat.le_of_ble_eq_true rfl) (hb hby at_128) rfl rfl (by decide) (by decide) fun T189 v189 L189 X189 hQ189 => ?_
      obtain ⟨rfl, Nq189, e189⟩ := hQ189
      have N189 := Fr.app N167 Nq189
      refine Owe.iload X189.here hx (hb hby at_131) rfl ?_
      refine Owe.icmpNo X189.here hx (hb hby at_133) rfl (teq (by decide)).2 ?_
      refine Owe.iconst X189.here hx (hb hby at_136) (w := (1 : Int32)) rfl ?_
      refine Owe.goto X189.here hx (hb hby at_137) (pc' := 141) (by decide) (by decide) ?_
      refine Owe.retNW X189 hx hS167 e189 hk167 hlk (t := .boolean) Bd.returns (by simp) (hb hby at_141) rfl fun fs hE => ?_
      rw [hG]
      refine ⟨_, _, rfl, ?_, ?_, coldMono hE (by decide) (by decide)⟩
      rotate_left
      · rw [hh]
        show CHr Z own_EL s.vm h0 T189.vm T189.heap
        rw [e189]
        exact Rr167.trans (CHv.at X189 hZ167 (own_ew hw) H167)
      show Q0 Z p1 p2 p3 G1 r1 er r2 r4 wn r3 h0 n0 _ T189.heap _
      rw [e189]
      exact ⟨rfl, N189⟩
    · skip
      refine Owe.ifNo X112.here hx (hb hby at_87) rfl ((if0 _ _).trans (feq hc87_128).1) ?_
      refine Owe.new X112 hx hZ hown1 (hw _ (List.mem_of_getElem? (i := 71) rfl)) (hw _ (List.mem_of_getElem? (i := 14) rfl)) (hw _ (List.mem_of_getElem? (i := 6) rfl)) e112 (hb hby at_90) (by decide) (by decide) fun T190 h190 b190 g190 X190 e190 E190 A190 D190 => ?_
      have ne_r1_b190 : r1 ≠ b190 := Nat.ne_of_lt (Nat.lt_of_lt_of_le E_r1_115.lt (Nat.le_of_eq g190.symm))
      have ne_er_b190 : er ≠ b190 := Nat.ne_of_lt (Nat.lt_of_lt_of_le E_er_116.lt (Nat.le_of_eq g190.symm))
      have ne_r2_b190 : r2 ≠ b190 := Nat.ne_of_lt (Nat.lt_of_lt_of_le E_r2_117.lt (Nat.le_of_eq g190.symm))
      have ne_r4_b190 : r4 ≠ b190 := Nat.ne_of_lt (Nat.lt_of_lt_of_le E_r4_118.lt (Nat.le_of_eq g190.symm))
      have ne_wn_b190 : wn ≠ b190 := Nat.ne_of_lt (Nat.lt_of_lt_of_le E_wn_119.lt (Nat.le_of_eq g190.symm))
      have ne_r3_b190 : r3 ≠ b190 := Nat.ne_of_lt (Nat.lt_of_lt_of_le E_r3_120.lt (Nat.le_of_eq g190.symm))
      have ne_b80_b190 : b80 ≠ b190 := Nat.ne_of_lt (Nat.lt_of_lt_of_le V112.lt (Nat.le_of_eq g190.symm))
      have sf_b190 := (Safe.new (Nat.le_of_eq g190.symm) : Safe Z own_EL s.vm h112 b190)
      have ge_b190 := Nat.le_trans Z_127 (Nat.le_of_eq g190.symm)
      have hk191 := Nat.le_trans hk113 E190.1
      have sf_b80_191 := Safe.ext E190 H113 sf_b80_113
      have sf_b190_191 := Safe.ext E190 H113 sf_b190
      have Rr191 := Rr113.trans (CHr.ext E190 H113)
      have H191 := CHv.ext E190 H113
      have Ol_192 := Ol_114.ext E190
      have E_r1_193 := E_r1_115.ext E190
      have E_er_194 := E_er_116.ext E190
      have E_r2_195 := E_r2_117.ext E190
      have E_r4_196 := E_r4_118.ext E190
      have E_wn_197 := E_wn_119.ext E190
      have E_r3_198 := E_r3_120.ext E190
      have Fseverity_r1_199 := Fseverity_r1_121.ext E190
      have Fseverity_r2_200 := Fseverity_r2_122.ext E190
      have Fseverity_r4_201 := Fseverity_r4_123.ext E190
      have Fordinal_wn_202 := Fordinal_wn_124.ext E190
      have Fordinal_er_203 := Fordinal_er_125.ext E190
      have Fseverity_r3_204 := Fseverity_r3_126.ext E190
      have V112_205 := V112.ext E190
      have Z_206 := Nat.le_trans Z_127 E190.1
      have Fvalue_b190 : Fld Z h190 b190 "java/lang/String" "value" "[B" .null := D190 (Or.inr (hw _ (List.mem_of_getElem? (i := 27) rfl))) (ty := (.array .byte)) (by decide)
      have Fcoder_b190 : Fld Z h190 b190 "java/lang/String" "coder" "B" (.int (0 : Int32)) := D190 (Or.inr (hw _ (List.mem_of_getElem? (i := 29) rfl))) (ty := .byte) (by decide)
      refine Owe.dup X190.here hx (hb hby at_93) rfl rfl ?_
      refine Owe.aload X190.here hx (hb hby at_94) rfl rfl ?_
      have hp207 : ∀ c ∈ ([(nar .char ((p2 &&& (255 : Int32)).toUInt32.toUInt16.toUInt32.toInt32)), (nar .char ((p3 &&& (255 : Int32)).toUInt32.toUInt16.toUInt32.toInt32))] : List Int32), ¬ c < 0 ∧ ¬ (255 : Int32) < c := by
        intro c hc
        simp only [List.mem_cons, List.not_mem_nil, or_false] at hc
        rcases hc with rfl | rfl
        · exact and255_chars _
        · exact and255_chars _
      refine Owe.special X190 hx (y := (⟨"java/lang/String", "<init>", "([C)V"⟩ : MethodName)) rfl hown1 (mvT hZ (hw _ (List.mem_of_getElem? (i := 72) rfl))) (mvT hZ (hw _ (List.mem_of_getElem? (i := 73) rfl))) (mvT hZ (hw _ (List.mem_of_getElem? (i := 74) rfl))) (by decide) (StrChars.Road.backV (W := 1) hZ hws (kI := 4) (hw _ (List.mem_of_getElem? (i := 14) rfl)) (cs := ([(nar .char ((p2 &&& (255 : Int32)).toUInt32.toUInt16.toUInt32.toInt32)), (nar .char ((p3 &&& (255 : Int32)).toUInt32.toUInt16.toUInt32.toInt32))] : List Int32)) (bs := ([(nar .char ((p2 &&& (255 : Int32)).toUInt32.toUInt16.toUInt32.toInt32)), (nar .char ((p3 &&& (255 : Int32)).toUInt32.toUInt16.toUInt32.toInt32))] : List Int32).map (fun c => c.toInt8.toInt32)) (n := 2) ge_b190 Z_206 A190 Fvalue_b190 Fcoder_b190 V112_205 (S_COMPACT_STRINGS.ext Ol_192.2) cs0 rfl rfl (by decide) (by decide) hp207 rfl (by decide) (by decide)) (by rw [hml]; rfl) (a := b190) (argsL := [(.ref b80)]) (rest := [(.ref b190)]) (lenOf pd_9 rfl) rfl (Nat.le_of_ble_eq_true rfl) (hb hby at_96) rfl e190 (by decide) (by decide) fun T208 v208 L208 X208 hQ208 => ?_
      obtain ⟨rfl, Nq208, K208, Ex208, Fc208, t208, kb208, gt208, ft208, nt208, Fv208, Vt208⟩ := hQ208
      have N208 := Fr.app N112 Nq208
      have ne_r1_t208 : r1 ≠ t208 := Nat.ne_of_lt (Nat.lt_of_lt_of_le E_r1_193.lt ft208)
      have ne_er_t208 : er ≠ t208 := Nat.ne_of_lt (Nat.lt_of_lt_of_le E_er_194.lt ft208)
      have ne_r2_t208 : r2 ≠ t208 := Nat.ne_of_lt (Nat.lt_of_lt_of_le E_r2_195.lt ft208)
      have ne_r4_t208 : r4 ≠ t208 := Nat.ne_of_lt (Nat.lt_of_lt_of_le E_r4_196.lt ft208)
      have ne_wn_t208 : wn ≠ t208 := Nat.ne_of_lt (Nat.lt_of_lt_of_le E_wn_197.lt ft208)
      have ne_r3_t208 : r3 ≠ t208 := Nat.ne_of_lt (Nat.lt_of_lt_of_le E_r3_198.lt ft208)
      have ne_b80_t208 : b80 ≠ t208 := Nat.ne_of_lt (Nat.lt_of_lt_of_le V112_205.lt ft208)
      have ne_b190_t208 : b190 ≠ t208 := Nat.ne_of_lt (Nat.lt_of_lt_of_le A190.lt ft208)
      have hk209 := Nat.le_trans hk191 K208.1
      have sf_b80_209 := Safe.keep K208 (sfS sf_b190_191 sf0) H191 sf_b80_191
      have sf_b190_209 := Safe.keep K208 (sfS sf_b190_191 sf0) H191 sf_b190_191
      have Rr209 := Rr191.trans (CHr.keep K208 (sfS sf_b190_191 sf0) H191)
      have H209 := CHv.keep K208 (sfS sf_b190_191 sf0) H191
      have Ol_210 := Ol_192.keep K208 (allS ge_b190 all0)
      have E_r1_211 := E_r1_193.keep K208
      have E_er_212 := E_er_194.keep K208
      have E_r2_213 := E_r2_195.keep K208
      have E_r4_214 := E_r4_196.keep K208
      have E_wn_215 := E_wn_197.keep K208
      have E_r3_216 := E_r3_198.keep K208
      have Fseverity_r1_217 := Fseverity_r1_199.keep K208 (ninS ne_r1_b190 nin0)
      have Fseverity_r2_218 := Fseverity_r2_200.keep K208 (ninS ne_r2_b190 nin0)
      have Fseverity_r4_219 := Fseverity_r4_201.keep K208 (ninS ne_r4_b190 nin0)
      have Fordinal_wn_220 := Fordinal_wn_202.keep K208 (ninS ne_wn_b190 nin0)
      have Fordinal_er_221 := Fordinal_er_203.keep K208 (ninS ne_er_b190 nin0)
      have Fseverity_r3_222 := Fseverity_r3_204.keep K208 (ninS ne_r3_b190 nin0)
      have V112_223 := V112_205.keep K208 (ninS ne_b80_b190 nin0)
      have A190_224 := A190.keep K208
      have Z_225 := Nat.le_trans Z_206 K208.1
      refine Owe.astore X208.here hx (hb hby at_99) rfl rfl (l' := #[.val (.int p1), .val (.int p2), .val (.int p3), .val (.int (p1 &&& (3 : Int32))), .val (.ref r1), .val (.int (1 : Int32)), .val (.ref b80), .val (.ref b190), .unset]) rfl ?_
      refine Owe.goto X208.here hx (hb hby at_101) (pc' := 113) (by decide) (by decide) ?_
      refine Owe.new X208 hx hZ hown1 (hw _ (List.mem_of_getElem? (i := 30) rfl)) (hw _ (List.mem_of_getElem? (i := 31) rfl)) (hw _ (List.mem_of_getElem? (i := 32) rfl)) rfl (hb hby at_113) (by decide) (by decide) fun T226 h226 b226 g226 X226 e226 E226 A226 D226 => ?_
      have ne_r1_b226 : r1 ≠ b226 := Nat.ne_of_lt (Nat.lt_of_lt_of_le E_r1_211.lt (Nat.le_of_eq g226.symm))
      have ne_er_b226 : er ≠ b226 := Nat.ne_of_lt (Nat.lt_of_lt_of_le E_er_212.lt (Nat.le_of_eq g226.symm))
      have ne_r2_b226 : r2 ≠ b226 := Nat.ne_of_lt (Nat.lt_of_lt_of_le E_r2_213.lt (Nat.le_of_eq g226.symm))
      have ne_r4_b226 : r4 ≠ b226 := Nat.ne_of_lt (Nat.lt_of_lt_of_le E_r4_214.lt (Nat.le_of_eq g226.symm))
      have ne_wn_b226 : wn ≠ b226 := Nat.ne_of_lt (Nat.lt_of_lt_of_le E_wn_215.lt (Nat.le_of_eq g226.symm))
      have ne_r3_b226 : r3 ≠ b226 := Nat.ne_of_lt (Nat.lt_of_lt_of_le E_r3_216.lt (Nat.le_of_eq g226.symm))
      have ne_b80_b226 : b80 ≠ b226 := Nat.ne_of_lt (Nat.lt_of_lt_of_le V112_223.lt (Nat.le_of_eq g226.symm))
      have ne_b190_b226 : b190 ≠ b226 := Nat.ne_of_lt (Nat.lt_of_lt_of_le Ex208.lt (Nat.le_of_eq g226.symm))
      have ne_t208_b226 : t208 ≠ b226 := Nat.ne_of_lt (Nat.lt_of_lt_of_le Vt208.lt (Nat.le_of_eq g226.symm))
      have sf_b226 := (Safe.new (Nat.le_of_eq g226.symm) : Safe Z own_EL s.vm T208.heap b226)
      have ge_b226 := Nat.le_trans Z_225 (Nat.le_of_eq g226.symm)
      have hk227 := Nat.le_trans hk209 E226.1
      have sf_b80_227 := Safe.ext E226 H209 sf_b80_209
      have sf_b190_227 := Safe.ext E226 H209 sf_b190_209
      have sf_b226_227 := Safe.ext E226 H209 sf_b226
      have Rr227 := Rr209.trans (CHr.ext E226 H209)
      have H227 := CHv.ext E226 H209
      have Ol_228 := Ol_210.ext E226
      have E_r1_229 := E_r1_211.ext E226
      have E_er_230 := E_er_212.ext E226
      have E_r2_231 := E_r2_213.ext E226
      have E_r4_232 := E_r4_214.ext E226
      have E_wn_233 := E_wn_215.ext E226
      have E_r3_234 := E_r3_216.ext E226
      have Fseverity_r1_235 := Fseverity_r1_217.ext E226
      have Fseverity_r2_236 := Fseverity_r2_218.ext E226
      have Fseverity_r4_237 := Fseverity_r4_219.ext E226
      have Fordinal_wn_238 := Fordinal_wn_220.ext E226
      have Fordinal_er_239 := Fordinal_er_221.ext E226
      have Fseverity_r3_240 := Fseverity_r3_222.ext E226
      have V112_241 := V112_223.ext E226
      have Ex208_242 := Ex208.ext E226
      have Fc208_243 := Fc208.ext E226
      have Fv208_244 := Fv208.ext E226
      have Vt208_245 := Vt208.ext E226
      have Z_246 := Nat.le_trans Z_225 E226.1
      have Fkind_b226 : Fld Z h226 b226 "com/example/overrule/overrule/model/Finding" "kind" "Lcom/example/overrule/overrule/model/Finding$Kind;" .null := D226 (Or.inr (hw _ (List.mem_of_getElem? (i := 51) rfl))) (ty := (.object "com/example/overrule/overrule/model/Finding$Kind")) (by decide)
      have Fexplanation_b226 : Fld Z h226 b226 "com/example/overrule/overrule/model/Finding" "explanation" "Ljava/lang/String;" .null := D226 (Or.inr (hw _ (List.mem_of_getElem? (i := 53) rfl))) (ty := (.object "java/lang/String")) (by decide)
      refine Owe.dup X226.here hx (hb hby at_116) rfl rfl ?_
      refine Owe.aload X226.here hx (hb hby at_117) rfl rfl ?_
      refine Owe.aload X226.here hx (hb hby at_119) rfl rfl ?_
      refine Owe.specialS X226 hx hZ hS0 hk227 (y := (⟨"com/example/overrule/overrule/model/Finding", "<init>", "(Lcom/example/overrule/overrule/model/Finding$Kind;Ljava/lang/String;)V"⟩ : MethodName)) rfl hown1 (mvT hZ (hw _ (List.mem_of_getElem? (i := 33) rfl))) (mvT hZ (hw _ (List.mem_of_getElem? (i := 34) rfl))) (mvT hZ (hw _ (List.mem_of_getElem? (i := 35) rfl))) (by decide) (backOfSH (W := 1) (rmini l Z a0 hw [] b226 r1 b190 .null .null h226 n0 Z_246 A226 Fkind_b226 Fexplanation_b226 ge_b226) hZ (hw _ (List.mem_of_getElem? (i := 35) rfl)) (hw _ (List.mem_of_getElem? (i := 32) rfl)) (by decide) (by decide) (own_ew hw) H227) (by rw [hml]; rfl) (a := b226) (argsL := [(.ref r1), (.ref b190)]) (rest := [(.ref b226)]) (lenOf pd_7 rfl) rfl (Nat.le_of_ble_eq_true rfl) (hb hby at_121) rfl e226 (by decide) (by decide) fun T247 v247 L247 X247 hS247 hZ247 hown247 hC247 hQ247 => ?_
      obtain ⟨rfl, Nq247, K247, E_a1_247, Fkind_a1_247⟩ := hQ247
      have N247 := Fr.app N208 Nq247
      have hk248 := Nat.le_trans hk227 K247.1
      have Ol_249 := Ol_228.keep K247 (allS ge_b226 all0)
      have E_r1_250 := E_r1_229.keep K247
      have E_er_251 := E_er_230.keep K247
      have E_r2_252 := E_r2_231.keep K247
      have E_r4_253 := E_r4_232.keep K247
      have E_wn_254 := E_wn_233.keep K247
      have E_r3_255 := E_r3_234.keep K247
      have Fseverity_r1_256 := Fseverity_r1_235.keep K247 (ninS ne_r1_b226 nin0)
      have Fseverity_r2_257 := Fseverity_r2_236.keep K247 (ninS ne_r2_b226 nin0)
      have Fseverity_r4_258 := Fseverity_r4_237.keep K247 (ninS ne_r4_b226 nin0)
      have Fordinal_wn_259 := Fordinal_wn_238.keep K247 (ninS ne_wn_b226 nin0)
      have Fordinal_er_260 := Fordinal_er_239.keep K247 (ninS ne_er_b226 nin0)
      have Fseverity_r3_261 := Fseverity_r3_240.keep K247 (ninS ne_r3_b226 nin0)
      have V112_262 := V112_241.keep K247 (ninS ne_b80_b226 nin0)
      have Ex208_263 := Ex208_242.keep K247
      have Fc208_264 := Fc208_243.keep K247 (ninS ne_b190_b226 nin0)
      have Fv208_265 := Fv208_244.keep K247 (ninS ne_b190_b226 nin0)
      have Vt208_266 := Vt208_245.keep K247 (ninS ne_t208_b226 nin0)
      have A226_267 := A226.keep K247
      have Z_268 := Nat.le_trans Z_246 K247.1
      have sf_b80_247 := CHr.safe hC247 V112_241.lt sf_b80_227
      have sf_b190_247 := CHr.safe hC247 Ex208_242.lt sf_b190_227
      have sf_b226_247 := CHr.safe hC247 A226.lt sf_b226_227
      have Rr247 := Rr227.trans hC247
      have H247 := hC247.1
      have hk247 : T247.heap.size ≤ T247.heap.size := Nat.le_refl _
      refine Owe.astore X247.here hx (hb hby at_124) rfl rfl (l' := #[.val (.int p1), .val (.int p2), .val (.int p3), .val (.int (p1 &&& (3 : Int32))), .val (.ref r1), .val (.int (1 : Int32)), .val (.ref b80), .val (.ref b190), .val (.ref b226)]) rfl ?_
      refine Owe.aload X247.here hx (hb hby at_126) rfl rfl ?_
      refine Owe.virt X247 hx hZ247 (y := (⟨"com/example/overrule/overrule/model/Finding", "error", "()Z"⟩ : MethodName)) (z := (⟨"com/example/overrule/overrule/model/Finding", "error", "()Z"⟩ : MethodName)) hown247 (mvT hZ247 (hw _ (List.mem_of_getElem? (i := 54) rfl))) (mvT hZ247 (hw _ (List.mem_of_getElem? (i := 55) rfl))) (mvT hZ247 (hw _ (List.mem_of_getElem? (i := 57) rfl))) (mvT hZ247 (hw _ (List.mem_of_getElem? (i := 56) rfl))) (notFace_of_selects (args := #[]) (mvT hZ247 (hw _ (List.mem_of_getElem? (i := 57) rfl)))) (by decide) (backOf (W := 0) (rmer1 l Z a0 hw [] b226 r1 er T247.heap n0 Z_268 Fkind_a1_247 E_r1_250 Fseverity_r1_256 S_ERROR Ol_249) hZ247 (hw _ (List.mem_of_getElem? (i := 58) rfl)) (hw _ (List.mem_of_getElem? (i := 32) rfl)) (by decide) (by decide)) (by rw [hml]; rfl) (a := b226) (argsL := []) (rest := []) E_a1_247 (lenOf pd_8 rfl) rfl (Nat.le_of_ble_eq_true rfl) (hb hby at_128) rfl rfl (by decide) (by decide) fun T269 v269 L269 X269 hQ269 => ?_
      obtain ⟨rfl, Nq269, e269⟩ := hQ269
      have N269 := Fr.app N247 Nq269
      refine Owe.iload X269.here hx (hb hby at_131) rfl ?_
      refine Owe.icmpNo X269.here hx (hb hby at_133) rfl (teq (by decide)).2 ?_
      refine Owe.iconst X269.here hx (hb hby at_136) (w := (1 : Int32)) rfl ?_
      refine Owe.goto X269.here hx (hb hby at_137) (pc' := 141) (by decide) (by decide) ?_
      refine Owe.retNW X269 hx hS247 e269 hk247 hlk (t := .boolean) Bd.returns (by simp) (hb hby at_141) rfl fun fs hE => ?_
      rw [hG]
      refine ⟨_, _, rfl, ?_, ?_, coldMono hE (by decide) (by decide)⟩
      rotate_left
      · rw [hh]
        show CHr Z own_EL s.vm h0 T269.vm T269.heap
        rw [e269]
        exact Rr247.trans (CHv.at X269 hZ247 (own_ew hw) H247)
      show Q0 Z p1 p2 p3 G1 r1 er r2 r4 wn r3 h0 n0 _ T269.heap _
      rw [e269]
      exact ⟨rfl, N269⟩
  · skip
    refine Owe.ifYes X0.here hx (hb hby at_5) rfl ((if0 _ _).trans (feq hc5_78).2) (pc' := 19) (by decide) (by decide) ?_
    refine Owe.iloadN X0.here hx (hb hby at_19) rfl ?_
    refine Owe.iconst X0.here hx (hb hby at_20) (w := (1 : Int32)) rfl ?_
    by_cases hc21_270 : (p1 &&& (3 : Int32)) = (1 : Int32)
    · skip
      refine Owe.icmpNo X0.here hx (hb hby at_21) rfl (teq hc21_270).2 ?_
      refine Owe.gets X0 hx hZ hown1 (hw _ (List.mem_of_getElem? (i := 69) rfl)) Via.refl e0 (S_REQUIREMENT_2.ext Ol.2) (hb hby at_24) fun T271 X271 e271 => ?_
      refine Owe.astore X271.here hx (hb hby at_27) rfl rfl (l' := #[.val (.int p1), .val (.int p2), .val (.int p3), .val (.int (p1 &&& (3 : Int32))), .val (.ref r2), .unset, .unset, .unset, .unset]) rfl ?_
      refine Owe.iconst X271.here hx (hb hby at_29) (w := (1 : Int32)) rfl ?_
      refine Owe.istore X271.here hx (hb hby at_30) rfl (l' := #[.val (.int p1), .val (.int p2), .val (.int p3), .val (.int (p1 &&& (3 : Int32))), .val (.ref r2), .val (.int (1 : Int32)), .unset, .unset, .unset]) rfl ?_
      refine Owe.goto X271.here hx (hb hby at_32) (pc' := 59) (by decide) (by decide) ?_
      refine Owe.iconst X271.here hx (hb hby at_59) (w := (2 : Int32)) rfl ?_
      refine Owe.newarr X271 hx hZ (aty := .char) (hw _ (List.mem_of_getElem? (i := 3) rfl)) e271 (hb hby at_60) rfl (by decide) (cap := 2) (by decide) (by decide) (by decide) (by decide) fun T272 h272 b272 k272 g272 X272 e272 E272 V272 => ?_
      have ne_r1_b272 : r1 ≠ b272 := Nat.ne_of_lt (Nat.lt_of_lt_of_le E_r1.lt (Nat.le_of_eq g272.symm))
      have ne_er_b272 : er ≠ b272 := Nat.ne_of_lt (Nat.lt_of_lt_of_le E_er.lt (Nat.le_of_eq g272.symm))
      have ne_r2_b272 : r2 ≠ b272 := Nat.ne_of_lt (Nat.lt_of_lt_of_le E_r2.lt (Nat.le_of_eq g272.symm))
      have ne_r4_b272 : r4 ≠ b272 := Nat.ne_of_lt (Nat.lt_of_lt_of_le E_r4.lt (Nat.le_of_eq g272.symm))
      have ne_wn_b272 : wn ≠ b272 := Nat.ne_of_lt (Nat.lt_of_lt_of_le E_wn.lt (Nat.le_of_eq g272.symm))
      have ne_r3_b272 : r3 ≠ b272 := Nat.ne_of_lt (Nat.lt_of_lt_of_le E_r3.lt (Nat.le_of_eq g272.symm))
      have sf_b272 := (Safe.new (Nat.le_of_eq g272.symm) : Safe Z own_EL s.vm h0 b272)
      have ge_b272 := Nat.le_trans Z0 (Nat.le_of_eq g272.symm)
      have hk273 := Nat.le_trans hk0 E272.1
      have sf_b272_273 := Safe.ext E272 H0 sf_b272
      have Rr273 := R0.trans (CHr.ext E272 H0)
      have H273 := CHv.ext E272 H0
      have Ol_274 := Ol.ext E272
      have E_r1_275 := E_r1.ext E272
      have E_er_276 := E_er.ext E272
      have E_r2_277 := E_r2.ext E272
      have E_r4_278 := E_r4.ext E272
      have E_wn_279 := E_wn.ext E272
      have E_r3_280 := E_r3.ext E272
      have Fseverity_r1_281 := Fseverity_r1.ext E272
      have Fseverity_r2_282 := Fseverity_r2.ext E272
      have Fseverity_r4_283 := Fseverity_r4.ext E272
      have Fordinal_wn_284 := Fordinal_wn.ext E272
      have Fordinal_er_285 := Fordinal_er.ext E272
      have Fseverity_r3_286 := Fseverity_r3.ext E272
      have Z_287 := Nat.le_trans Z0 E272.1
      have V_b272_272 : Arv Z h272 b272 k272 .char (2 : Int32) [(.int (0 : Int32)), (.int (0 : Int32))] (.int (0 : Int32)) := V272.pad (pad_rep [] (.int (0 : Int32)) 2)
      refine Owe.astore X272.here hx (hb hby at_62) rfl rfl (l' := #[.val (.int p1), .val (.int p2), .val (.int p3), .val (.int (p1 &&& (3 : Int32))), .val (.ref r2), .val (.int (1 : Int32)), .val (.ref b272), .unset, .unset]) rfl ?_
      refine Owe.aload X272.here hx (hb hby at_64) rfl rfl ?_
      refine Owe.iconst X272.here hx (hb hby at_66) (w := (0 : Int32)) rfl ?_
      refine Owe.iloadN X272.here hx (hb hby at_67) rfl ?_
      refine Owe.sipush X272.here hx (hb hby at_68) (w := (255 : Int32)) rfl ?_
      refine Owe.iand X272.here hx (hb hby at_71) rfl ?_
      refine Owe.i2c X272.here hx (hb hby at_72) rfl ?_
      refine Owe.castore X272 hx hZ e272 V_b272_272 (x := ((p2 &&& (255 : Int32)).toUInt32.toUInt16.toUInt32.toInt32)) 0 rfl (Nat.le_of_ble_eq_true rfl) (by decide) (hb hby at_73) rfl fun T288 h288 X288 e288 W288 (V288 : Arv Z h288 b272 k272 .char (2 : Int32) [(.int (nar .char ((p2 &&& (255 : Int32)).toUInt32.toUInt16.toUInt32.toInt32))), (.int (0 : Int32))] (.int (0 : Int32))) => ?_
      have hk289 := Nat.le_trans hk273 (Keep.of_wr W288).1
      have sf_b272_289 := Safe.wr W288 sf_b272_273 H273 sf_b272_273
      have Rr289 := Rr273.trans (CHr.wr W288 sf_b272_273 H273)
      have H289 := CHv.wr W288 sf_b272_273 H273
      have Ol_290 := Ol_274.wr W288 ge_b272
      have E_r1_291 := E_r1_275.wr W288
      have E_er_292 := E_er_276.wr W288
      have E_r2_293 := E_r2_277.wr W288
      have E_r4_294 := E_r4_278.wr W288
      have E_wn_295 := E_wn_279.wr W288
      have E_r3_296 := E_r3_280.wr W288
      have Fseverity_r1_297 := Fseverity_r1_281.other W288 (Or.inl ne_r1_b272)
      have Fseverity_r2_298 := Fseverity_r2_282.other W288 (Or.inl ne_r2_b272)
      have Fseverity_r4_299 := Fseverity_r4_283.other W288 (Or.inl ne_r4_b272)
      have Fordinal_wn_300 := Fordinal_wn_284.other W288 (Or.inl ne_wn_b272)
      have Fordinal_er_301 := Fordinal_er_285.other W288 (Or.inl ne_er_b272)
      have Fseverity_r3_302 := Fseverity_r3_286.other W288 (Or.inl ne_r3_b272)
      have Z_303 := Nat.le_trans Z_287 (Keep.of_wr W288).1
      have N288 := Fr.snoc X288 N0 ge_b272
      refine Owe.aload X288.here hx (hb hby at_74) rfl rfl ?_
      refine Owe.iconst X288.here hx (hb hby at_76) (w := (1 : Int32)) rfl ?_
      refine Owe.iloadN X288.here hx (hb hby at_77) rfl ?_
      refine Owe.sipush X288.here hx (hb hby at_78) (w := (255 : Int32)) rfl ?_
      refine Owe.iand X288.here hx (hb hby at_81) rfl ?_
      refine Owe.i2c X288.here hx (hb hby at_82) rfl ?_
      refine Owe.castore X288 hx hZ e288 V288 (x := ((p3 &&& (255 : Int32)).toUInt32.toUInt16.toUInt32.toInt32)) 1 rfl (Nat.le_of_ble_eq_true rfl) (by decide) (hb hby at_83) rfl fun T304 h304 X304 e304 W304 (V304 : Arv Z h304 b272 k272 .char (2 : Int32) [(.int (nar .char ((p2 &&& (255 : Int32)).toUInt32.toUInt16.toUInt32.toInt32))), (.int (nar .char ((p3 &&& (255 : Int32)).toUInt32.toUInt16.toUInt32.toInt32)))] (.int (0 : Int32))) => ?_
      have hk305 := Nat.le_trans hk289 (Keep.of_wr W304).1
      have sf_b272_305 := Safe.wr W304 sf_b272_289 H289 sf_b272_289
      have Rr305 := Rr289.trans (CHr.wr W304 sf_b272_289 H289)
      have H305 := CHv.wr W304 sf_b272_289 H289
      have Ol_306 := Ol_290.wr W304 ge_b272
      have E_r1_307 := E_r1_291.wr W304
      have E_er_308 := E_er_292.wr W304
      have E_r2_309 := E_r2_293.wr W304
      have E_r4_310 := E_r4_294.wr W304
      have E_wn_311 := E_wn_295.wr W304
      have E_r3_312 := E_r3_296.wr W304
      have Fseverity_r1_313 := Fseverity_r1_297.other W304 (Or.inl ne_r1_b272)
      have Fseverity_r2_314 := Fseverity_r2_298.other W304 (Or.inl ne_r2_b272)
      have Fseverity_r4_315 := Fseverity_r4_299.other W304 (Or.inl ne_r4_b272)
      have Fordinal_wn_316 := Fordinal_wn_300.other W304 (Or.inl ne_wn_b272)
      have Fordinal_er_317 := Fordinal_er_301.other W304 (Or.inl ne_er_b272)
      have Fseverity_r3_318 := Fseverity_r3_302.other W304 (Or.inl ne_r3_b272)
      have Z_319 := Nat.le_trans Z_303 (Keep.of_wr W304).1
      have N304 := Fr.snoc X304 N288 ge_b272
      refine Owe.iloadN X304.here hx (hb hby at_84) rfl ?_
      refine Owe.iconst X304.here hx (hb hby at_85) (w := (4 : Int32)) rfl ?_
      refine Owe.iand X304.here hx (hb hby at_86) rfl ?_
      by_cases hc87_320 : (p1 &&& (4 : Int32)) = (0 : Int32)
      · skip
        refine Owe.ifYes X304.here hx (hb hby at_87) rfl ((if0 _ _).trans (teq hc87_320).1) (pc' := 104) (by decide) (by decide) ?_
        refine Owe.aload X304.here hx (hb hby at_104) rfl rfl ?_
        refine Owe.iconst X304.here hx (hb hby at_106) (w := (0 : Int32)) rfl ?_
        refine Owe.caload X304 hx hZ e304 V304 (v := (.int (nar .char ((p2 &&& (255 : Int32)).toUInt32.toUInt16.toUInt32.toInt32)))) (by decide) rfl (hb hby at_107) rfl ?_
        refine Owe.stat X304 hx (y := (⟨"java/lang/String", "valueOf", "(C)Ljava/lang/String;"⟩ : MethodName)) hown1 (mvT hZ (hw _ (List.mem_of_getElem? (i := 4) rfl))) (mvT hZ (hw _ (List.mem_of_getElem? (i := 5) rfl))) (mvT hZ (hw _ (List.mem_of_getElem? (i := 6) rfl))) (mvT hZ (hw _ (List.mem_of_getElem? (i := 7) rfl))) (by decide) (backOf (W := 0) (rmvof l Z a0 hw [] (nar .char ((p2 &&& (255 : Int32)).toUInt32.toUInt16.toUInt32.toInt32)) G1 h304 n0 Z_319 S_COMPACT_STRINGS cs0 (and255_chars p2).2 Ol_306) hZ (hw _ (List.mem_of_getElem? (i := 7) rfl)) (hw _ (List.mem_of_getElem? (i := 6) rfl)) (by decide) (by decide)) (by rw [hml]; rfl) (argsL := [(.int (nar .char ((p2 &&& (255 : Int32)).toUInt32.toUInt16.toUInt32.toInt32)))]) (rest := []) (lenOf pd_6 rfl) rfl (Nat.le_of_ble_eq_true rfl) (hb hby at_108) rfl e304 (by decide) (by decide) fun T321 v321 L321 X321 hQ321 => ?_
        obtain ⟨x1_321, t1_321, k1_321, rfl, Nq321, K321, ge_x1_321, fresh_x1_321, ge_t1_321, fresh_t1_321, E_x1_321, Fvalue_x1_321, Fcoder_x1_321, V_t1_321⟩ := hQ321
        have N321 := Fr.app N304 Nq321
        have hk322 := Nat.le_trans hk305 K321.1
        have sf_b272_322 := Safe.keep K321 sf0 H305 sf_b272_305
        have Rr322 := Rr305.trans (CHr.keep K321 sf0 H305)
        have H322 := CHv.keep K321 sf0 H305
        have Ol_323 := Ol_306.keep K321 all0
        have E_r1_324 := E_r1_307.keep K321
        have E_er_325 := E_er_308.keep K321
        have E_r2_326 := E_r2_309.keep K321
        have E_r4_327 := E_r4_310.keep K321
        have E_wn_328 := E_wn_311.keep K321
        have E_r3_329 := E_r3_312.keep K321
        have Fseverity_r1_330 := Fseverity_r1_313.keep K321 nin0
        have Fseverity_r2_331 := Fseverity_r2_314.keep K321 nin0
        have Fseverity_r4_332 := Fseverity_r4_315.keep K321 nin0
        have Fordinal_wn_333 := Fordinal_wn_316.keep K321 nin0
        have Fordinal_er_334 := Fordinal_er_317.keep K321 nin0
        have Fseverity_r3_335 := Fseverity_r3_318.keep K321 nin0
        have V304_336 := V304.keep K321 nin0
        have Z_337 := Nat.le_trans Z_319 K321.1
        have ne_r1_x1_321 : r1 ≠ x1_321 := Nat.ne_of_lt (Nat.lt_of_lt_of_le E_r1_307.lt fresh_x1_321)
        have ne_er_x1_321 : er ≠ x1_321 := Nat.ne_of_lt (Nat.lt_of_lt_of_le E_er_308.lt fresh_x1_321)
        have ne_r2_x1_321 : r2 ≠ x1_321 := Nat.ne_of_lt (Nat.lt_of_lt_of_le E_r2_309.lt fresh_x1_321)
        have ne_r4_x1_321 : r4 ≠ x1_321 := Nat.ne_of_lt (Nat.lt_of_lt_of_le E_r4_310.lt fresh_x1_321)
        have ne_wn_x1_321 : wn ≠ x1_321 := Nat.ne_of_lt (Nat.lt_of_lt_of_le E_wn_311.lt fresh_x1_321)
        have ne_r3_x1_321 : r3 ≠ x1_321 := Nat.ne_of_lt (Nat.lt_of_lt_of_le E_r3_312.lt fresh_x1_321)
        have ne_b272_x1_321 : b272 ≠ x1_321 := Nat.ne_of_lt (Nat.lt_of_lt_of_le V304.lt fresh_x1_321)
        have ne_r1_t1_321 : r1 ≠ t1_321 := Nat.ne_of_lt (Nat.lt_of_lt_of_le E_r1_307.lt fresh_t1_321)
        have ne_er_t1_321 : er ≠ t1_321 := Nat.ne_of_lt (Nat.lt_of_lt_of_le E_er_308.lt fresh_t1_321)
        have ne_r2_t1_321 : r2 ≠ t1_321 := Nat.ne_of_lt (Nat.lt_of_lt_of_le E_r2_309.lt fresh_t1_321)
        have ne_r4_t1_321 : r4 ≠ t1_321 := Nat.ne_of_lt (Nat.lt_of_lt_of_le E_r4_310.lt fresh_t1_321)
        have ne_wn_t1_321 : wn ≠ t1_321 := Nat.ne_of_lt (Nat.lt_of_lt_of_le E_wn_311.lt fresh_t1_321)
        have ne_r3_t1_321 : r3 ≠ t1_321 := Nat.ne_of_lt (Nat.lt_of_lt_of_le E_r3_312.lt fresh_t1_321)
        have ne_b272_t1_321 : b272 ≠ t1_321 := Nat.ne_of_lt (Nat.lt_of_lt_of_le V304.lt fresh_t1_321)
        refine Owe.astore X321.here hx (hb hby at_111) rfl rfl (l' := #[.val (.int p1), .val (.int p2), .val (.int p3), .val (.int (p1 &&& (3 : Int32))), .val (.ref r2), .val (.int (1 : Int32)), .val (.ref b272), .val (.ref x1_321), .unset]) rfl ?_
        refine Owe.new X321 hx hZ hown1 (hw _ (List.mem_of_getElem? (i := 30) rfl)) (hw _ (List.mem_of_getElem? (i := 31) rfl)) (hw _ (List.mem_of_getElem? (i := 32) rfl)) rfl (hb hby at_113) (by decide) (by decide) fun T338 h338 b338 g338 X338 e338 E338 A338 D338 => ?_
        have ne_r1_b338 : r1 ≠ b338 := Nat.ne_of_lt (Nat.lt_of_lt_of_le E_r1_324.lt (Nat.le_of_eq g338.symm))
        have ne_er_b338 : er ≠ b338 := Nat.ne_of_lt (Nat.lt_of_lt_of_le E_er_325.lt (Nat.le_of_eq g338.symm))
        have ne_r2_b338 : r2 ≠ b338 := Nat.ne_of_lt (Nat.lt_of_lt_of_le E_r2_326.lt (Nat.le_of_eq g338.symm))
        have ne_r4_b338 : r4 ≠ b338 := Nat.ne_of_lt (Nat.lt_of_lt_of_le E_r4_327.lt (Nat.le_of_eq g338.symm))
        have ne_wn_b338 : wn ≠ b338 := Nat.ne_of_lt (Nat.lt_of_lt_of_le E_wn_328.lt (Nat.le_of_eq g338.symm))
        have ne_r3_b338 : r3 ≠ b338 := Nat.ne_of_lt (Nat.lt_of_lt_of_le E_r3_329.lt (Nat.le_of_eq g338.symm))
        have ne_b272_b338 : b272 ≠ b338 := Nat.ne_of_lt (Nat.lt_of_lt_of_le V304_336.lt (Nat.le_of_eq g338.symm))
        have ne_x1_321_b338 : x1_321 ≠ b338 := Nat.ne_of_lt (Nat.lt_of_lt_of_le E_x1_321.lt (Nat.le_of_eq g338.symm))
        have ne_t1_321_b338 : t1_321 ≠ b338 := Nat.ne_of_lt (Nat.lt_of_lt_of_le V_t1_321.lt (Nat.le_of_eq g338.symm))
        have sf_b338 := (Safe.new (Nat.le_of_eq g338.symm) : Safe Z own_EL s.vm T321.heap b338)
        have ge_b338 := Nat.le_trans Z_337 (Nat.le_of_eq g338.symm)
        have hk339 := Nat.le_trans hk322 E338.1
        have sf_b272_339 := Safe.ext E338 H322 sf_b272_322
        have sf_b338_339 := Safe.ext E338 H322 sf_b338
        have Rr339 := Rr322.trans (CHr.ext E338 H322)
        have H339 := CHv.ext E338 H322
        have Ol_340 := Ol_323.ext E338
        have E_r1_341 := E_r1_324.ext E338
        have E_er_342 := E_er_325.ext E338
        have E_r2_343 := E_r2_326.ext E338
        have E_r4_344 := E_r4_327.ext E338
        have E_wn_345 := E_wn_328.ext E338
        have E_r3_346 := E_r3_329.ext E338
        have Fseverity_r1_347 := Fseverity_r1_330.ext E338
        have Fseverity_r2_348 := Fseverity_r2_331.ext E338
        have Fseverity_r4_349 := Fseverity_r4_332.ext E338
        have Fordinal_wn_350 := Fordinal_wn_333.ext E338
        have Fordinal_er_351 := Fordinal_er_334.ext E338
        have Fseverity_r3_352 := Fseverity_r3_335.ext E338
        have V304_353 := V304_336.ext E338
        have E_x1_354 := E_x1_321.ext E338
        have Fvalue_x1_355 := Fvalue_x1_321.ext E338
        have Fcoder_x1_356 := Fcoder_x1_321.ext E338
        have V_t1_357 := V_t1_321.ext E338
        have Z_358 := Nat.le_trans Z_337 E338.1
        have Fkind_b338 : Fld Z h338 b338 "com/example/overrule/overrule/model/Finding" "kind" "Lcom/example/overrule/overrule/model/Finding$Kind;" .null := D338 (Or.inr (hw _ (List.mem_of_getElem? (i := 51) rfl))) (ty := (.object "com/example/overrule/overrule/model/Finding$Kind")) (by decide)
        have Fexplanation_b338 : Fld Z h338 b338 "com/example/overrule/overrule/model/Finding" "explanation" "Ljava/lang/String;" .null := D338 (Or.inr (hw _ (List.mem_of_getElem? (i := 53) rfl))) (ty := (.object "java/lang/String")) (by decide)
        refine Owe.dup X338.here hx (hb hby at_116) rfl rfl ?_
        refine Owe.aload X338.here hx (hb hby at_117) rfl rfl ?_
        refine Owe.aload X338.here hx (hb hby at_119) rfl rfl ?_
        refine Owe.specialS X338 hx hZ hS0 hk339 (y := (⟨"com/example/overrule/overrule/model/Finding", "<init>", "(Lcom/example/overrule/overrule/model/Finding$Kind;Ljava/lang/String;)V"⟩ : MethodName)) rfl hown1 (mvT hZ (hw _ (List.mem_of_getElem? (i := 33) rfl))) (mvT hZ (hw _ (List.mem_of_getElem? (i := 34) rfl))) (mvT hZ (hw _ (List.mem_of_getElem? (i := 35) rfl))) (by decide) (backOfSH (W := 1) (rmini l Z a0 hw [] b338 r2 x1_321 .null .null h338 n0 Z_358 A338 Fkind_b338 Fexplanation_b338 ge_b338) hZ (hw _ (List.mem_of_getElem? (i := 35) rfl)) (hw _ (List.mem_of_getElem? (i := 32) rfl)) (by decide) (by decide) (own_ew hw) H339) (by rw [hml]; rfl) (a := b338) (argsL := [(.ref r2), (.ref x1_321)]) (rest := [(.ref b338)]) (lenOf pd_7 rfl) rfl (Nat.le_of_ble_eq_true rfl) (hb hby at_121) rfl e338 (by decide) (by decide) fun T359 v359 L359 X359 hS359 hZ359 hown359 hC359 hQ359 => ?_
        obtain ⟨rfl, Nq359, K359, E_a1_359, Fkind_a1_359⟩ := hQ359
        have N359 := Fr.app N321 Nq359
        have hk360 := Nat.le_trans hk339 K359.1
        have Ol_361 := Ol_340.keep K359 (allS ge_b338 all0)
        have E_r1_362 := E_r1_341.keep K359
        have E_er_363 := E_er_342.keep K359
        have E_r2_364 := E_r2_343.keep K359
        have E_r4_365 := E_r4_344.keep K359
        have E_wn_366 := E_wn_345.keep K359
        have E_r3_367 := E_r3_346.keep K359
        have Fseverity_r1_368 := Fseverity_r1_347.keep K359 (ninS ne_r1_b338 nin0)
        have Fseverity_r2_369 := Fseverity_r2_348.keep K359 (ninS ne_r2_b338 nin0)
        have Fseverity_r4_370 := Fseverity_r4_349.keep K359 (ninS ne_r4_b338 nin0)
        have Fordinal_wn_371 := Fordinal_wn_350.keep K359 (ninS ne_wn_b338 nin0)
        have Fordinal_er_372 := Fordinal_er_351.keep K359 (ninS ne_er_b338 nin0)
        have Fseverity_r3_373 := Fseverity_r3_352.keep K359 (ninS ne_r3_b338 nin0)
        have V304_374 := V304_353.keep K359 (ninS ne_b272_b338 nin0)
        have E_x1_375 := E_x1_354.keep K359
        have Fvalue_x1_376 := Fvalue_x1_355.keep K359 (ninS ne_x1_321_b338 nin0)
        have Fcoder_x1_377 := Fcoder_x1_356.keep K359 (ninS ne_x1_321_b338 nin0)
        have V_t1_378 := V_t1_357.keep K359 (ninS ne_t1_321_b338 nin0)
        have A338_379 := A338.keep K359
        have Z_380 := Nat.le_trans Z_358 K359.1
        have sf_b272_359 := CHr.safe hC359 V304_353.lt sf_b272_339
        have sf_b338_359 := CHr.safe hC359 A338.lt sf_b338_339
        have Rr359 := Rr339.trans hC359
        have H359 := hC359.1
        have hk359 : T359.heap.size ≤ T359.heap.size := Nat.le_refl _
        refine Owe.astore X359.here hx (hb hby at_124) rfl rfl (l' := #[.val (.int p1), .val (.int p2), .val (.int p3), .val (.int (p1 &&& (3 : Int32))), .val (.ref r2), .val (.int (1 : Int32)), .val (.ref b272), .val (.ref x1_321), .val (.ref b338)]) rfl ?_
        refine Owe.aload X359.here hx (hb hby at_126) rfl rfl ?_
        refine Owe.virt X359 hx hZ359 (y := (⟨"com/example/overrule/overrule/model/Finding", "error", "()Z"⟩ : MethodName)) (z := (⟨"com/example/overrule/overrule/model/Finding", "error", "()Z"⟩ : MethodName)) hown359 (mvT hZ359 (hw _ (List.mem_of_getElem? (i := 54) rfl))) (mvT hZ359 (hw _ (List.mem_of_getElem? (i := 55) rfl))) (mvT hZ359 (hw _ (List.mem_of_getElem? (i := 57) rfl))) (mvT hZ359 (hw _ (List.mem_of_getElem? (i := 56) rfl))) (notFace_of_selects (args := #[]) (mvT hZ359 (hw _ (List.mem_of_getElem? (i := 57) rfl)))) (by decide) (backOf (W := 0) (rmer1 l Z a0 hw [] b338 r2 er T359.heap n0 Z_380 Fkind_a1_359 E_r2_364 Fseverity_r2_369 S_ERROR Ol_361) hZ359 (hw _ (List.mem_of_getElem? (i := 58) rfl)) (hw _ (List.mem_of_getElem? (i := 32) rfl)) (by decide) (by decide)) (by rw [hml]; rfl) (a := b338) (argsL := []) (rest := []) E_a1_359 (lenOf pd_8 rfl) rfl (Nat.le_of_ble_eq_true rfl) (hb hby at_128) rfl rfl (by decide) (by decide) fun T381 v381 L381 X381 hQ381 => ?_
        obtain ⟨rfl, Nq381, e381⟩ := hQ381
        have N381 := Fr.app N359 Nq381
        refine Owe.iload X381.here hx (hb hby at_131) rfl ?_
        refine Owe.icmpNo X381.here hx (hb hby at_133) rfl (teq (by decide)).2 ?_
        refine Owe.iconst X381.here hx (hb hby at_136) (w := (1 : Int32)) rfl ?_
        refine Owe.goto X381.here hx (hb hby at_137) (pc' := 141) (by decide) (by decide) ?_
        refine Owe.retNW X381 hx hS359 e381 hk359 hlk (t := .boolean) Bd.returns (by simp) (hb hby at_141) rfl fun fs hE => ?_
        rw [hG]
        refine ⟨_, _, rfl, ?_, ?_, coldMono hE (by decide) (by decide)⟩
        rotate_left
        · rw [hh]
          show CHr Z own_EL s.vm h0 T381.vm T381.heap
          rw [e381]
          exact Rr359.trans (CHv.at X381 hZ359 (own_ew hw) H359)
        show Q0 Z p1 p2 p3 G1 r1 er r2 r4 wn r3 h0 n0 _ T381.heap _
        rw [e381]
        exact ⟨rfl, N381⟩
      · skip
        refine Owe.ifNo X304.here hx (hb hby at_87) rfl ((if0 _ _).trans (feq hc87_320).1) ?_
        refine Owe.new X304 hx hZ hown1 (hw _ (List.mem_of_getElem? (i := 71) rfl)) (hw _ (List.mem_of_getElem? (i := 14) rfl)) (hw _ (List.mem_of_getElem? (i := 6) rfl)) e304 (hb hby at_90) (by decide) (by decide) fun T382 h382 b382 g382 X382 e382 E382 A382 D382 => ?_
        have ne_r1_b382 : r1 ≠ b382 := Nat.ne_of_lt (Nat.lt_of_lt_of_le E_r1_307.lt (Nat.le_of_eq g382.symm))
        have ne_er_b382 : er ≠ b382 := Nat.ne_of_lt (Nat.lt_of_lt_of_le E_er_308.lt (Nat.le_of_eq g382.symm))
        have ne_r2_b382 : r2 ≠ b382 := Nat.ne_of_lt (Nat.lt_of_lt_of_le E_r2_309.lt (Nat.le_of_eq g382.symm))
        have ne_r4_b382 : r4 ≠ b382 := Nat.ne_of_lt (Nat.lt_of_lt_of_le E_r4_310.lt (Nat.le_of_eq g382.symm))
        have ne_wn_b382 : wn ≠ b382 := Nat.ne_of_lt (Nat.lt_of_lt_of_le E_wn_311.lt (Nat.le_of_eq g382.symm))
        have ne_r3_b382 : r3 ≠ b382 := Nat.ne_of_lt (Nat.lt_of_lt_of_le E_r3_312.lt (Nat.le_of_eq g382.symm))
        have ne_b272_b382 : b272 ≠ b382 := Nat.ne_of_lt (Nat.lt_of_lt_of_le V304.lt (Nat.le_of_eq g382.symm))
        have sf_b382 := (Safe.new (Nat.le_of_eq g382.symm) : Safe Z own_EL s.vm h304 b382)
        have ge_b382 := Nat.le_trans Z_319 (Nat.le_of_eq g382.symm)
        have hk383 := Nat.le_trans hk305 E382.1
        have sf_b272_383 := Safe.ext E382 H305 sf_b272_305
        have sf_b382_383 := Safe.ext E382 H305 sf_b382
        have Rr383 := Rr305.trans (CHr.ext E382 H305)
        have H383 := CHv.ext E382 H305
        have Ol_384 := Ol_306.ext E382
        have E_r1_385 := E_r1_307.ext E382
        have E_er_386 := E_er_308.ext E382
        have E_r2_387 := E_r2_309.ext E382
        have E_r4_388 := E_r4_310.ext E382
        have E_wn_389 := E_wn_311.ext E382
        have E_r3_390 := E_r3_312.ext E382
        have Fseverity_r1_391 := Fseverity_r1_313.ext E382
        have Fseverity_r2_392 := Fseverity_r2_314.ext E382
        have Fseverity_r4_393 := Fseverity_r4_315.ext E382
        have Fordinal_wn_394 := Fordinal_wn_316.ext E382
        have Fordinal_er_395 := Fordinal_er_317.ext E382
        have Fseverity_r3_396 := Fseverity_r3_318.ext E382
        have V304_397 := V304.ext E382
        have Z_398 := Nat.le_trans Z_319 E382.1
        have Fvalue_b382 : Fld Z h382 b382 "java/lang/String" "value" "[B" .null := D382 (Or.inr (hw _ (List.mem_of_getElem? (i := 27) rfl))) (ty := (.array .byte)) (by decide)
        have Fcoder_b382 : Fld Z h382 b382 "java/lang/String" "coder" "B" (.int (0 : Int32)) := D382 (Or.inr (hw _ (List.mem_of_getElem? (i := 29) rfl))) (ty := .byte) (by decide)
        refine Owe.dup X382.here hx (hb hby at_93) rfl rfl ?_
        refine Owe.aload X382.here hx (hb hby at_94) rfl rfl ?_
        have hp399 : ∀ c ∈ ([(nar .char ((p2 &&& (255 : Int32)).toUInt32.toUInt16.toUInt32.toInt32)), (nar .char ((p3 &&& (255 : Int32)).toUInt32.toUInt16.toUInt32.toInt32))] : List Int32), ¬ c < 0 ∧ ¬ (255 : Int32) < c := by
          intro c hc
          simp only [List.mem_cons, List.not_mem_nil, or_false] at hc
          rcases hc with rfl | rfl
          · exact and255_chars _
          · exact and255_chars _
        refine Owe.special X382 hx (y := (⟨"java/lang/String", "<init>", "([C)V"⟩ : MethodName)) rfl hown1 (mvT hZ (hw _ (List.mem_of_getElem? (i := 72) rfl))) (mvT hZ (hw _ (List.mem_of_getElem? (i := 73) rfl))) (mvT hZ (hw _ (List.mem_of_getElem? (i := 74) rfl))) (by decide) (StrChars.Road.backV (W := 1) hZ hws (kI := 4) (hw _ (List.mem_of_getElem? (i := 14) rfl)) (cs := ([(nar .char ((p2 &&& (255 : Int32)).toUInt32.toUInt16.toUInt32.toInt32)), (nar .char ((p3 &&& (255 : Int32)).toUInt32.toUInt16.toUInt32.toInt32))] : List Int32)) (bs := ([(nar .char ((p2 &&& (255 : Int32)).toUInt32.toUInt16.toUInt32.toInt32)), (nar .char ((p3 &&& (255 : Int32)).toUInt32.toUInt16.toUInt32.toInt32))] : List Int32).map (fun c => c.toInt8.toInt32)) (n := 2) ge_b382 Z_398 A382 Fvalue_b382 Fcoder_b382 V304_397 (S_COMPACT_STRINGS.ext Ol_384.2) cs0 rfl rfl (by decide) (by decide) hp399 rfl (by decide) (by decide)) (by rw [hml]; rfl) (a := b382) (argsL := [(.ref b272)]) (rest := [(.ref b382)]) (lenOf pd_9 rfl) rfl (Nat.le_of_ble_eq_true rfl) (hb hby at_96) rfl e382 (by decide) (by decide) fun T400 v400 L400 X400 hQ400 => ?_
        obtain ⟨rfl, Nq400, K400, Ex400, Fc400, t400, kb400, gt400, ft400, nt400, Fv400, Vt400⟩ := hQ400
        have N400 := Fr.app N304 Nq400
        have ne_r1_t400 : r1 ≠ t400 := Nat.ne_of_lt (Nat.lt_of_lt_of_le E_r1_385.lt ft400)
        have ne_er_t400 : er ≠ t400 := Nat.ne_of_lt (Nat.lt_of_lt_of_le E_er_386.lt ft400)
        have ne_r2_t400 : r2 ≠ t400 := Nat.ne_of_lt (Nat.lt_of_lt_of_le E_r2_387.lt ft400)
        have ne_r4_t400 : r4 ≠ t400 := Nat.ne_of_lt (Nat.lt_of_lt_of_le E_r4_388.lt ft400)
        have ne_wn_t400 : wn ≠ t400 := Nat.ne_of_lt (Nat.lt_of_lt_of_le E_wn_389.lt ft400)
        have ne_r3_t400 : r3 ≠ t400 := Nat.ne_of_lt (Nat.lt_of_lt_of_le E_r3_390.lt ft400)
        have ne_b272_t400 : b272 ≠ t400 := Nat.ne_of_lt (Nat.lt_of_lt_of_le V304_397.lt ft400)
        have ne_b382_t400 : b382 ≠ t400 := Nat.ne_of_lt (Nat.lt_of_lt_of_le A382.lt ft400)
        have hk401 := Nat.le_trans hk383 K400.1
        have sf_b272_401 := Safe.keep K400 (sfS sf_b382_383 sf0) H383 sf_b272_383
        have sf_b382_401 := Safe.keep K400 (sfS sf_b382_383 sf0) H383 sf_b382_383
        have Rr401 := Rr383.trans (CHr.keep K400 (sfS sf_b382_383 sf0) H383)
        have H401 := CHv.keep K400 (sfS sf_b382_383 sf0) H383
        have Ol_402 := Ol_384.keep K400 (allS ge_b382 all0)
        have E_r1_403 := E_r1_385.keep K400
        have E_er_404 := E_er_386.keep K400
        have E_r2_405 := E_r2_387.keep K400
        have E_r4_406 := E_r4_388.keep K400
        have E_wn_407 := E_wn_389.keep K400
        have E_r3_408 := E_r3_390.keep K400
        have Fseverity_r1_409 := Fseverity_r1_391.keep K400 (ninS ne_r1_b382 nin0)
        have Fseverity_r2_410 := Fseverity_r2_392.keep K400 (ninS ne_r2_b382 nin0)
        have Fseverity_r4_411 := Fseverity_r4_393.keep K400 (ninS ne_r4_b382 nin0)
        have Fordinal_wn_412 := Fordinal_wn_394.keep K400 (ninS ne_wn_b382 nin0)
        have Fordinal_er_413 := Fordinal_er_395.keep K400 (ninS ne_er_b382 nin0)
        have Fseverity_r3_414 := Fseverity_r3_396.keep K400 (ninS ne_r3_b382 nin0)
        have V304_415 := V304_397.keep K400 (ninS ne_b272_b382 nin0)
        have A382_416 := A382.keep K400
        have Z_417 := Nat.le_trans Z_398 K400.1
        refine Owe.astore X400.here hx (hb hby at_99) rfl rfl (l' := #[.val (.int p1), .val (.int p2), .val (.int p3), .val (.int (p1 &&& (3 : Int32))), .val (.ref r2), .val (.int (1 : Int32)), .val (.ref b272), .val (.ref b382), .unset]) rfl ?_
        refine Owe.goto X400.here hx (hb hby at_101) (pc' := 113) (by decide) (by decide) ?_
        refine Owe.new X400 hx hZ hown1 (hw _ (List.mem_of_getElem? (i := 30) rfl)) (hw _ (List.mem_of_getElem? (i := 31) rfl)) (hw _ (List.mem_of_getElem? (i := 32) rfl)) rfl (hb hby at_113) (by decide) (by decide) fun T418 h418 b418 g418 X418 e418 E418 A418 D418 => ?_
        have ne_r1_b418 : r1 ≠ b418 := Nat.ne_of_lt (Nat.lt_of_lt_of_le E_r1_403.lt (Nat.le_of_eq g418.symm))
        have ne_er_b418 : er ≠ b418 := Nat.ne_of_lt (Nat.lt_of_lt_of_le E_er_404.lt (Nat.le_of_eq g418.symm))
        have ne_r2_b418 : r2 ≠ b418 := Nat.ne_of_lt (Nat.lt_of_lt_of_le E_r2_405.lt (Nat.le_of_eq g418.symm))
        have ne_r4_b418 : r4 ≠ b418 := Nat.ne_of_lt (Nat.lt_of_lt_of_le E_r4_406.lt (Nat.le_of_eq g418.symm))
        have ne_wn_b418 : wn ≠ b418 := Nat.ne_of_lt (Nat.lt_of_lt_of_le E_wn_407.lt (Nat.le_of_eq g418.symm))
        have ne_r3_b418 : r3 ≠ b418 := Nat.ne_of_lt (Nat.lt_of_lt_of_le E_r3_408.lt (Nat.le_of_eq g418.symm))
        have ne_b272_b418 : b272 ≠ b418 := Nat.ne_of_lt (Nat.lt_of_lt_of_le V304_415.lt (Nat.le_of_eq g418.symm))
        have ne_b382_b418 : b382 ≠ b418 := Nat.ne_of_lt (Nat.lt_of_lt_of_le Ex400.lt (Nat.le_of_eq g418.symm))
        have ne_t400_b418 : t400 ≠ b418 := Nat.ne_of_lt (Nat.lt_of_lt_of_le Vt400.lt (Nat.le_of_eq g418.symm))
        have sf_b418 := (Safe.new (Nat.le_of_eq g418.symm) : Safe Z own_EL s.vm T400.heap b418)
        have ge_b418 := Nat.le_trans Z_417 (Nat.le_of_eq g418.symm)
        have hk419 := Nat.le_trans hk401 E418.1
        have sf_b272_419 := Safe.ext E418 H401 sf_b272_401
        have sf_b382_419 := Safe.ext E418 H401 sf_b382_401
        have sf_b418_419 := Safe.ext E418 H401 sf_b418
        have Rr419 := Rr401.trans (CHr.ext E418 H401)
        have H419 := CHv.ext E418 H401
        have Ol_420 := Ol_402.ext E418
        have E_r1_421 := E_r1_403.ext E418
        have E_er_422 := E_er_404.ext E418
        have E_r2_423 := E_r2_405.ext E418
        have E_r4_424 := E_r4_406.ext E418
        have E_wn_425 := E_wn_407.ext E418
        have E_r3_426 := E_r3_408.ext E418
        have Fseverity_r1_427 := Fseverity_r1_409.ext E418
        have Fseverity_r2_428 := Fseverity_r2_410.ext E418
        have Fseverity_r4_429 := Fseverity_r4_411.ext E418
        have Fordinal_wn_430 := Fordinal_wn_412.ext E418
        have Fordinal_er_431 := Fordinal_er_413.ext E418
        have Fseverity_r3_432 := Fseverity_r3_414.ext E418
        have V304_433 := V304_415.ext E418
        have Ex400_434 := Ex400.ext E418
        have Fc400_435 := Fc400.ext E418
        have Fv400_436 := Fv400.ext E418
        have Vt400_437 := Vt400.ext E418
        have Z_438 := Nat.le_trans Z_417 E418.1
        have Fkind_b418 : Fld Z h418 b418 "com/example/overrule/overrule/model/Finding" "kind" "Lcom/example/overrule/overrule/model/Finding$Kind;" .null := D418 (Or.inr (hw _ (List.mem_of_getElem? (i := 51) rfl))) (ty := (.object "com/example/overrule/overrule/model/Finding$Kind")) (by decide)
        have Fexplanation_b418 : Fld Z h418 b418 "com/example/overrule/overrule/model/Finding" "explanation" "Ljava/lang/String;" .null := D418 (Or.inr (hw _ (List.mem_of_getElem? (i := 53) rfl))) (ty := (.object "java/lang/String")) (by decide)
        refine Owe.dup X418.here hx (hb hby at_116) rfl rfl ?_
        refine Owe.aload X418.here hx (hb hby at_117) rfl rfl ?_
        refine Owe.aload X418.here hx (hb hby at_119) rfl rfl ?_
        refine Owe.specialS X418 hx hZ hS0 hk419 (y := (⟨"com/example/overrule/overrule/model/Finding", "<init>", "(Lcom/example/overrule/overrule/model/Finding$Kind;Ljava/lang/String;)V"⟩ : MethodName)) rfl hown1 (mvT hZ (hw _ (List.mem_of_getElem? (i := 33) rfl))) (mvT hZ (hw _ (List.mem_of_getElem? (i := 34) rfl))) (mvT hZ (hw _ (List.mem_of_getElem? (i := 35) rfl))) (by decide) (backOfSH (W := 1) (rmini l Z a0 hw [] b418 r2 b382 .null .null h418 n0 Z_438 A418 Fkind_b418 Fexplanation_b418 ge_b418) hZ (hw _ (List.mem_of_getElem? (i := 35) rfl)) (hw _ (List.mem_of_getElem? (i := 32) rfl)) (by decide) (by decide) (own_ew hw) H419) (by rw [hml]; rfl) (a := b418) (argsL := [(.ref r2), (.ref b382)]) (rest := [(.ref b418)]) (lenOf pd_7 rfl) rfl (Nat.le_of_ble_eq_true rfl) (hb hby at_121) rfl e418 (by decide) (by decide) fun T439 v439 L439 X439 hS439 hZ439 hown439 hC439 hQ439 => ?_
        obtain ⟨rfl, Nq439, K439, E_a1_439, Fkind_a1_439⟩ := hQ439
        have N439 := Fr.app N400 Nq439
        have hk440 := Nat.le_trans hk419 K439.1
        have Ol_441 := Ol_420.keep K439 (allS ge_b418 all0)
        have E_r1_442 := E_r1_421.keep K439
        have E_er_443 := E_er_422.keep K439
        have E_r2_444 := E_r2_423.keep K439
        have E_r4_445 := E_r4_424.keep K439
        have E_wn_446 := E_wn_425.keep K439
        have E_r3_447 := E_r3_426.keep K439
        have Fseverity_r1_448 := Fseverity_r1_427.keep K439 (ninS ne_r1_b418 nin0)
        have Fseverity_r2_449 := Fseverity_r2_428.keep K439 (ninS ne_r2_b418 nin0)
        have Fseverity_r4_450 := Fseverity_r4_429.keep K439 (ninS ne_r4_b418 nin0)
        have Fordinal_wn_451 := Fordinal_wn_430.keep K439 (ninS ne_wn_b418 nin0)
        have Fordinal_er_452 := Fordinal_er_431.keep K439 (ninS ne_er_b418 nin0)
        have Fseverity_r3_453 := Fseverity_r3_432.keep K439 (ninS ne_r3_b418 nin0)
        have V304_454 := V304_433.keep K439 (ninS ne_b272_b418 nin0)
        have Ex400_455 := Ex400_434.keep K439
        have Fc400_456 := Fc400_435.keep K439 (ninS ne_b382_b418 nin0)
        have Fv400_457 := Fv400_436.keep K439 (ninS ne_b382_b418 nin0)
        have Vt400_458 := Vt400_437.keep K439 (ninS ne_t400_b418 nin0)
        have A418_459 := A418.keep K439
        have Z_460 := Nat.le_trans Z_438 K439.1
        have sf_b272_439 := CHr.safe hC439 V304_433.lt sf_b272_419
        have sf_b382_439 := CHr.safe hC439 Ex400_434.lt sf_b382_419
        have sf_b418_439 := CHr.safe hC439 A418.lt sf_b418_419
        have Rr439 := Rr419.trans hC439
        have H439 := hC439.1
        have hk439 : T439.heap.size ≤ T439.heap.size := Nat.le_refl _
        refine Owe.astore X439.here hx (hb hby at_124) rfl rfl (l' := #[.val (.int p1), .val (.int p2), .val (.int p3), .val (.int (p1 &&& (3 : Int32))), .val (.ref r2), .val (.int (1 : Int32)), .val (.ref b272), .val (.ref b382), .val (.ref b418)]) rfl ?_
        refine Owe.aload X439.here hx (hb hby at_126) rfl rfl ?_
        refine Owe.virt X439 hx hZ439 (y := (⟨"com/example/overrule/overrule/model/Finding", "error", "()Z"⟩ : MethodName)) (z := (⟨"com/example/overrule/overrule/model/Finding", "error", "()Z"⟩ : MethodName)) hown439 (mvT hZ439 (hw _ (List.mem_of_getElem? (i := 54) rfl))) (mvT hZ439 (hw _ (List.mem_of_getElem? (i := 55) rfl))) (mvT hZ439 (hw _ (List.mem_of_getElem? (i := 57) rfl))) (mvT hZ439 (hw _ (List.mem_of_getElem? (i := 56) rfl))) (notFace_of_selects (args := #[]) (mvT hZ439 (hw _ (List.mem_of_getElem? (i := 57) rfl)))) (by decide) (backOf (W := 0) (rmer1 l Z a0 hw [] b418 r2 er T439.heap n0 Z_460 Fkind_a1_439 E_r2_444 Fseverity_r2_449 S_ERROR Ol_441) hZ439 (hw _ (List.mem_of_getElem? (i := 58) rfl)) (hw _ (List.mem_of_getElem? (i := 32) rfl)) (by decide) (by decide)) (by rw [hml]; rfl) (a := b418) (argsL := []) (rest := []) E_a1_439 (lenOf pd_8 rfl) rfl (Nat.le_of_ble_eq_true rfl) (hb hby at_128) rfl rfl (by decide) (by decide) fun T461 v461 L461 X461 hQ461 => ?_
        obtain ⟨rfl, Nq461, e461⟩ := hQ461
        have N461 := Fr.app N439 Nq461
        refine Owe.iload X461.here hx (hb hby at_131) rfl ?_
        refine Owe.icmpNo X461.here hx (hb hby at_133) rfl (teq (by decide)).2 ?_
        refine Owe.iconst X461.here hx (hb hby at_136) (w := (1 : Int32)) rfl ?_
        refine Owe.goto X461.here hx (hb hby at_137) (pc' := 141) (by decide) (by decide) ?_
        refine Owe.retNW X461 hx hS439 e461 hk439 hlk (t := .boolean) Bd.returns (by simp) (hb hby at_141) rfl fun fs hE => ?_
        rw [hG]
        refine ⟨_, _, rfl, ?_, ?_, coldMono hE (by decide) (by decide)⟩
        rotate_left
        · rw [hh]
          show CHr Z own_EL s.vm h0 T461.vm T461.heap
          rw [e461]
          exact Rr439.trans (CHv.at X461 hZ439 (own_ew hw) H439)
        show Q0 Z p1 p2 p3 G1 r1 er r2 r4 wn r3 h0 n0 _ T461.heap _
        rw [e461]
        exact ⟨rfl, N461⟩
    · skip
      refine Owe.icmpYes X0.here hx (hb hby at_21) rfl (feq hc21_270).2 (pc' := 35) (by decide) (by decide) ?_
      refine Owe.iloadN X0.here hx (hb hby at_35) rfl ?_
      refine Owe.iconst X0.here hx (hb hby at_36) (w := (2 : Int32)) rfl ?_
      by_cases hc37_462 : (p1 &&& (3 : Int32)) = (2 : Int32)
      · skip
        refine Owe.icmpNo X0.here hx (hb hby at_37) rfl (teq hc37_462).2 ?_
        refine Owe.gets X0 hx hZ hown1 (hw _ (List.mem_of_getElem? (i := 91) rfl)) Via.refl e0 (S_REGULAR_AND_BREAKABLE.ext Ol.2) (hb hby at_40) fun T463 X463 e463 => ?_
        refine Owe.astore X463.here hx (hb hby at_43) rfl rfl (l' := #[.val (.int p1), .val (.int p2), .val (.int p3), .val (.int (p1 &&& (3 : Int32))), .val (.ref r3), .unset, .unset, .unset, .unset]) rfl ?_
        refine Owe.iconst X463.here hx (hb hby at_45) (w := (0 : Int32)) rfl ?_
        refine Owe.istore X463.here hx (hb hby at_46) rfl (l' := #[.val (.int p1), .val (.int p2), .val (.int p3), .val (.int (p1 &&& (3 : Int32))), .val (.ref r3), .val (.int (0 : Int32)), .unset, .unset, .unset]) rfl ?_
        refine Owe.goto X463.here hx (hb hby at_48) (pc' := 59) (by decide) (by decide) ?_
        refine Owe.iconst X463.here hx (hb hby at_59) (w := (2 : Int32)) rfl ?_
        refine Owe.newarr X463 hx hZ (aty := .char) (hw _ (List.mem_of_getElem? (i := 3) rfl)) e463 (hb hby at_60) rfl (by decide) (cap := 2) (by decide) (by decide) (by decide) (by decide) fun T464 h464 b464 k464 g464 X464 e464 E464 V464 => ?_
        have ne_r1_b464 : r1 ≠ b464 := Nat.ne_of_lt (Nat.lt_of_lt_of_le E_r1.lt (Nat.le_of_eq g464.symm))
        have ne_er_b464 : er ≠ b464 := Nat.ne_of_lt (Nat.lt_of_lt_of_le E_er.lt (Nat.le_of_eq g464.symm))
        have ne_r2_b464 : r2 ≠ b464 := Nat.ne_of_lt (Nat.lt_of_lt_of_le E_r2.lt (Nat.le_of_eq g464.symm))
        have ne_r4_b464 : r4 ≠ b464 := Nat.ne_of_lt (Nat.lt_of_lt_of_le E_r4.lt (Nat.le_of_eq g464.symm))
        have ne_wn_b464 : wn ≠ b464 := Nat.ne_of_lt (Nat.lt_of_lt_of_le E_wn.lt (Nat.le_of_eq g464.symm))
        have ne_r3_b464 : r3 ≠ b464 := Nat.ne_of_lt (Nat.lt_of_lt_of_le E_r3.lt (Nat.le_of_eq g464.symm))
        have sf_b464 := (Safe.new (Nat.le_of_eq g464.symm) : Safe Z own_EL s.vm h0 b464)
        have ge_b464 := Nat.le_trans Z0 (Nat.le_of_eq g464.symm)
        have hk465 := Nat.le_trans hk0 E464.1
        have sf_b464_465 := Safe.ext E464 H0 sf_b464
        have Rr465 := R0.trans (CHr.ext E464 H0)
        have H465 := CHv.ext E464 H0
        have Ol_466 := Ol.ext E464
        have E_r1_467 := E_r1.ext E464
        have E_er_468 := E_er.ext E464
        have E_r2_469 := E_r2.ext E464
        have E_r4_470 := E_r4.ext E464
        have E_wn_471 := E_wn.ext E464
        have E_r3_472 := E_r3.ext E464
        have Fseverity_r1_473 := Fseverity_r1.ext E464
        have Fseverity_r2_474 := Fseverity_r2.ext E464
        have Fseverity_r4_475 := Fseverity_r4.ext E464
        have Fordinal_wn_476 := Fordinal_wn.ext E464
        have Fordinal_er_477 := Fordinal_er.ext E464
        have Fseverity_r3_478 := Fseverity_r3.ext E464
        have Z_479 := Nat.le_trans Z0 E464.1
        have V_b464_464 : Arv Z h464 b464 k464 .char (2 : Int32) [(.int (0 : Int32)), (.int (0 : Int32))] (.int (0 : Int32)) := V464.pad (pad_rep [] (.int (0 : Int32)) 2)
        refine Owe.astore X464.here hx (hb hby at_62) rfl rfl (l' := #[.val (.int p1), .val (.int p2), .val (.int p3), .val (.int (p1 &&& (3 : Int32))), .val (.ref r3), .val (.int (0 : Int32)), .val (.ref b464), .unset, .unset]) rfl ?_
        refine Owe.aload X464.here hx (hb hby at_64) rfl rfl ?_
        refine Owe.iconst X464.here hx (hb hby at_66) (w := (0 : Int32)) rfl ?_
        refine Owe.iloadN X464.here hx (hb hby at_67) rfl ?_
        refine Owe.sipush X464.here hx (hb hby at_68) (w := (255 : Int32)) rfl ?_
        refine Owe.iand X464.here hx (hb hby at_71) rfl ?_
        refine Owe.i2c X464.here hx (hb hby at_72) rfl ?_
        refine Owe.castore X464 hx hZ e464 V_b464_464 (x := ((p2 &&& (255 : Int32)).toUInt32.toUInt16.toUInt32.toInt32)) 0 rfl (Nat.le_of_ble_eq_true rfl) (by decide) (hb hby at_73) rfl fun T480 h480 X480 e480 W480 (V480 : Arv Z h480 b464 k464 .char (2 : Int32) [(.int (nar .char ((p2 &&& (255 : Int32)).toUInt32.toUInt16.toUInt32.toInt32))), (.int (0 : Int32))] (.int (0 : Int32))) => ?_
        have hk481 := Nat.le_trans hk465 (Keep.of_wr W480).1
        have sf_b464_481 := Safe.wr W480 sf_b464_465 H465 sf_b464_465
        have Rr481 := Rr465.trans (CHr.wr W480 sf_b464_465 H465)
        have H481 := CHv.wr W480 sf_b464_465 H465
        have Ol_482 := Ol_466.wr W480 ge_b464
        have E_r1_483 := E_r1_467.wr W480
        have E_er_484 := E_er_468.wr W480
        have E_r2_485 := E_r2_469.wr W480
        have E_r4_486 := E_r4_470.wr W480
        have E_wn_487 := E_wn_471.wr W480
        have E_r3_488 := E_r3_472.wr W480
        have Fseverity_r1_489 := Fseverity_r1_473.other W480 (Or.inl ne_r1_b464)
        have Fseverity_r2_490 := Fseverity_r2_474.other W480 (Or.inl ne_r2_b464)
        have Fseverity_r4_491 := Fseverity_r4_475.other W480 (Or.inl ne_r4_b464)
        have Fordinal_wn_492 := Fordinal_wn_476.other W480 (Or.inl ne_wn_b464)
        have Fordinal_er_493 := Fordinal_er_477.other W480 (Or.inl ne_er_b464)
        have Fseverity_r3_494 := Fseverity_r3_478.other W480 (Or.inl ne_r3_b464)
        have Z_495 := Nat.le_trans Z_479 (Keep.of_wr W480).1
        have N480 := Fr.snoc X480 N0 ge_b464
        refine Owe.aload X480.here hx (hb hby at_74) rfl rfl ?_
        refine Owe.iconst X480.here hx (hb hby at_76) (w := (1 : Int32)) rfl ?_
        refine Owe.iloadN X480.here hx (hb hby at_77) rfl ?_
        refine Owe.sipush X480.here hx (hb hby at_78) (w := (255 : Int32)) rfl ?_
        refine Owe.iand X480.here hx (hb hby at_81) rfl ?_
        refine Owe.i2c X480.here hx (hb hby at_82) rfl ?_
        refine Owe.castore X480 hx hZ e480 V480 (x := ((p3 &&& (255 : Int32)).toUInt32.toUInt16.toUInt32.toInt32)) 1 rfl (Nat.le_of_ble_eq_true rfl) (by decide) (hb hby at_83) rfl fun T496 h496 X496 e496 W496 (V496 : Arv Z h496 b464 k464 .char (2 : Int32) [(.int (nar .char ((p2 &&& (255 : Int32)).toUInt32.toUInt16.toUInt32.toInt32))), (.int (nar .char ((p3 &&& (255 : Int32)).toUInt32.toUInt16.toUInt32.toInt32)))] (.int (0 : Int32))) => ?_
        have hk497 := Nat.le_trans hk481 (Keep.of_wr W496).1
        have sf_b464_497 := Safe.wr W496 sf_b464_481 H481 sf_b464_481
        have Rr497 := Rr481.trans (CHr.wr W496 sf_b464_481 H481)
        have H497 := CHv.wr W496 sf_b464_481 H481
        have Ol_498 := Ol_482.wr W496 ge_b464
        have E_r1_499 := E_r1_483.wr W496
        have E_er_500 := E_er_484.wr W496
        have E_r2_501 := E_r2_485.wr W496
        have E_r4_502 := E_r4_486.wr W496
        have E_wn_503 := E_wn_487.wr W496
        have E_r3_504 := E_r3_488.wr W496
        have Fseverity_r1_505 := Fseverity_r1_489.other W496 (Or.inl ne_r1_b464)
        have Fseverity_r2_506 := Fseverity_r2_490.other W496 (Or.inl ne_r2_b464)
        have Fseverity_r4_507 := Fseverity_r4_491.other W496 (Or.inl ne_r4_b464)
        have Fordinal_wn_508 := Fordinal_wn_492.other W496 (Or.inl ne_wn_b464)
        have Fordinal_er_509 := Fordinal_er_493.other W496 (Or.inl ne_er_b464)
        have Fseverity_r3_510 := Fseverity_r3_494.other W496 (Or.inl ne_r3_b464)
        have Z_511 := Nat.le_trans Z_495 (Keep.of_wr W496).1
        have N496 := Fr.snoc X496 N480 ge_b464
        refine Owe.iloadN X496.here hx (hb hby at_84) rfl ?_
        refine Owe.iconst X496.here hx (hb hby at_85) (w := (4 : Int32)) rfl ?_
        refine Owe.iand X496.here hx (hb hby at_86) rfl ?_
        by_cases hc87_512 : (p1 &&& (4 : Int32)) = (0 : Int32)
        · skip
          refine Owe.ifYes X496.here hx (hb hby at_87) rfl ((if0 _ _).trans (teq hc87_512).1) (pc' := 104) (by decide) (by decide) ?_
          refine Owe.aload X496.here hx (hb hby at_104) rfl rfl ?_
          refine Owe.iconst X496.here hx (hb hby at_106) (w := (0 : Int32)) rfl ?_
          refine Owe.caload X496 hx hZ e496 V496 (v := (.int (nar .char ((p2 &&& (255 : Int32)).toUInt32.toUInt16.toUInt32.toInt32)))) (by decide) rfl (hb hby at_107) rfl ?_
          refine Owe.stat X496 hx (y := (⟨"java/lang/String", "valueOf", "(C)Ljava/lang/String;"⟩ : MethodName)) hown1 (mvT hZ (hw _ (List.mem_of_getElem? (i := 4) rfl))) (mvT hZ (hw _ (List.mem_of_getElem? (i := 5) rfl))) (mvT hZ (hw _ (List.mem_of_getElem? (i := 6) rfl))) (mvT hZ (hw _ (List.mem_of_getElem? (i := 7) rfl))) (by decide) (backOf (W := 0) (rmvof l Z a0 hw [] (nar .char ((p2 &&& (255 : Int32)).toUInt32.toUInt16.toUInt32.toInt32)) G1 h496 n0 Z_511 S_COMPACT_STRINGS cs0 (and255_chars p2).2 Ol_498) hZ (hw _ (List.mem_of_getElem? (i := 7) rfl)) (hw _ (List.mem_of_getElem? (i := 6) rfl)) (by decide) (by decide)) (by rw [hml]; rfl) (argsL := [(.int (nar .char ((p2 &&& (255 : Int32)).toUInt32.toUInt16.toUInt32.toInt32)))]) (rest := []) (lenOf pd_6 rfl) rfl (Nat.le_of_ble_eq_true rfl) (hb hby at_108) rfl e496 (by decide) (by decide) fun T513 v513 L513 X513 hQ513 => ?_
          obtain ⟨x1_513, t1_513, k1_513, rfl, Nq513, K513, ge_x1_513, fresh_x1_513, ge_t1_513, fresh_t1_513, E_x1_513, Fvalue_x1_513, Fcoder_x1_513, V_t1_513⟩ := hQ513
          have N513 := Fr.app N496 Nq513
          have hk514 := Nat.le_trans hk497 K513.1
          have sf_b464_514 := Safe.keep K513 sf0 H497 sf_b464_497
          have Rr514 := Rr497.trans (CHr.keep K513 sf0 H497)
          have H514 := CHv.keep K513 sf0 H497
          have Ol_515 := Ol_498.keep K513 all0
          have E_r1_516 := E_r1_499.keep K513
          have E_er_517 := E_er_500.keep K513
          have E_r2_518 := E_r2_501.keep K513
          have E_r4_519 := E_r4_502.keep K513
          have E_wn_520 := E_wn_503.keep K513
          have E_r3_521 := E_r3_504.keep K513
          have Fseverity_r1_522 := Fseverity_r1_505.keep K513 nin0
          have Fseverity_r2_523 := Fseverity_r2_506.keep K513 nin0
          have Fseverity_r4_524 := Fseverity_r4_507.keep K513 nin0
          have Fordinal_wn_525 := Fordinal_wn_508.keep K513 nin0
          have Fordinal_er_526 := Fordinal_er_509.keep K513 nin0
          have Fseverity_r3_527 := Fseverity_r3_510.keep K513 nin0
          have V496_528 := V496.keep K513 nin0
          have Z_529 := Nat.le_trans Z_511 K513.1
          have ne_r1_x1_513 : r1 ≠ x1_513 := Nat.ne_of_lt (Nat.lt_of_lt_of_le E_r1_499.lt fresh_x1_513)
          have ne_er_x1_513 : er ≠ x1_513 := Nat.ne_of_lt (Nat.lt_of_lt_of_le E_er_500.lt fresh_x1_513)
          have ne_r2_x1_513 : r2 ≠ x1_513 := Nat.ne_of_lt (Nat.lt_of_lt_of_le E_r2_501.lt fresh_x1_513)
          have ne_r4_x1_513 : r4 ≠ x1_513 := Nat.ne_of_lt (Nat.lt_of_lt_of_le E_r4_502.lt fresh_x1_513)
          have ne_wn_x1_513 : wn ≠ x1_513 := Nat.ne_of_lt (Nat.lt_of_lt_of_le E_wn_503.lt fresh_x1_513)
          have ne_r3_x1_513 : r3 ≠ x1_513 := Nat.ne_of_lt (Nat.lt_of_lt_of_le E_r3_504.lt fresh_x1_513)
          have ne_b464_x1_513 : b464 ≠ x1_513 := Nat.ne_of_lt (Nat.lt_of_lt_of_le V496.lt fresh_x1_513)
          have ne_r1_t1_513 : r1 ≠ t1_513 := Nat.ne_of_lt (Nat.lt_of_lt_of_le E_r1_499.lt fresh_t1_513)
          have ne_er_t1_513 : er ≠ t1_513 := Nat.ne_of_lt (Nat.lt_of_lt_of_le E_er_500.lt fresh_t1_513)
          have ne_r2_t1_513 : r2 ≠ t1_513 := Nat.ne_of_lt (Nat.lt_of_lt_of_le E_r2_501.lt fresh_t1_513)
          have ne_r4_t1_513 : r4 ≠ t1_513 := Nat.ne_of_lt (Nat.lt_of_lt_of_le E_r4_502.lt fresh_t1_513)
          have ne_wn_t1_513 : wn ≠ t1_513 := Nat.ne_of_lt (Nat.lt_of_lt_of_le E_wn_503.lt fresh_t1_513)
          have ne_r3_t1_513 : r3 ≠ t1_513 := Nat.ne_of_lt (Nat.lt_of_lt_of_le E_r3_504.lt fresh_t1_513)
          have ne_b464_t1_513 : b464 ≠ t1_513 := Nat.ne_of_lt (Nat.lt_of_lt_of_le V496.lt fresh_t1_513)
          refine Owe.astore X513.here hx (hb hby at_111) rfl rfl (l' := #[.val (.int p1), .val (.int p2), .val (.int p3), .val (.int (p1 &&& (3 : Int32))), .val (.ref r3), .val (.int (0 : Int32)), .val (.ref b464), .val (.ref x1_513), .unset]) rfl ?_
          refine Owe.new X513 hx hZ hown1 (hw _ (List.mem_of_getElem? (i := 30) rfl)) (hw _ (List.mem_of_getElem? (i := 31) rfl)) (hw _ (List.mem_of_getElem? (i := 32) rfl)) rfl (hb hby at_113) (by decide) (by decide) fun T530 h530 b530 g530 X530 e530 E530 A530 D530 => ?_
          have ne_r1_b530 : r1 ≠ b530 := Nat.ne_of_lt (Nat.lt_of_lt_of_le E_r1_516.lt (Nat.le_of_eq g530.symm))
          have ne_er_b530 : er ≠ b530 := Nat.ne_of_lt (Nat.lt_of_lt_of_le E_er_517.lt (Nat.le_of_eq g530.symm))
          have ne_r2_b530 : r2 ≠ b530 := Nat.ne_of_lt (Nat.lt_of_lt_of_le E_r2_518.lt (Nat.le_of_eq g530.symm))
          have ne_r4_b530 : r4 ≠ b530 := Nat.ne_of_lt (Nat.lt_of_lt_of_le E_r4_519.lt (Nat.le_of_eq g530.symm))
          have ne_wn_b530 : wn ≠ b530 := Nat.ne_of_lt (Nat.lt_of_lt_of_le E_wn_520.lt (Nat.le_of_eq g530.symm))
          have ne_r3_b530 : r3 ≠ b530 := Nat.ne_of_lt (Nat.lt_of_lt_of_le E_r3_521.lt (Nat.le_of_eq g530.symm))
          have ne_b464_b530 : b464 ≠ b530 := Nat.ne_of_lt (Nat.lt_of_lt_of_le V496_528.lt (Nat.le_of_eq g530.symm))
          have ne_x1_513_b530 : x1_513 ≠ b530 := Nat.ne_of_lt (Nat.lt_of_lt_of_le E_x1_513.lt (Nat.le_of_eq g530.symm))
          have ne_t1_513_b530 : t1_513 ≠ b530 := Nat.ne_of_lt (Nat.lt_of_lt_of_le V_t1_513.lt (Nat.le_of_eq g530.symm))
          have sf_b530 := (Safe.new (Nat.le_of_eq g530.symm) : Safe Z own_EL s.vm T513.heap b530)
          have ge_b530 := Nat.le_trans Z_529 (Nat.le_of_eq g530.symm)
          have hk531 := Nat.le_trans hk514 E530.1
          have sf_b464_531 := Safe.ext E530 H514 sf_b464_514
          have sf_b530_531 := Safe.ext E530 H514 sf_b530
          have Rr531 := Rr514.trans (CHr.ext E530 H514)
          have H531 := CHv.ext E530 H514
          have Ol_532 := Ol_515.ext E530
          have E_r1_533 := E_r1_516.ext E530
          have E_er_534 := E_er_517.ext E530
          have E_r2_535 := E_r2_518.ext E530
          have E_r4_536 := E_r4_519.ext E530
          have E_wn_537 := E_wn_520.ext E530
          have E_r3_538 := E_r3_521.ext E530
          have Fseverity_r1_539 := Fseverity_r1_522.ext E530
          have Fseverity_r2_540 := Fseverity_r2_523.ext E530
          have Fseverity_r4_541 := Fseverity_r4_524.ext E530
          have Fordinal_wn_542 := Fordinal_wn_525.ext E530
          have Fordinal_er_543 := Fordinal_er_526.ext E530
          have Fseverity_r3_544 := Fseverity_r3_527.ext E530
          have V496_545 := V496_528.ext E530
          have E_x1_546 := E_x1_513.ext E530
          have Fvalue_x1_547 := Fvalue_x1_513.ext E530
          have Fcoder_x1_548 := Fcoder_x1_513.ext E530
          have V_t1_549 := V_t1_513.ext E530
          have Z_550 := Nat.le_trans Z_529 E530.1
          have Fkind_b530 : Fld Z h530 b530 "com/example/overrule/overrule/model/Finding" "kind" "Lcom/example/overrule/overrule/model/Finding$Kind;" .null := D530 (Or.inr (hw _ (List.mem_of_getElem? (i := 51) rfl))) (ty := (.object "com/example/overrule/overrule/model/Finding$Kind")) (by decide)
          have Fexplanation_b530 : Fld Z h530 b530 "com/example/overrule/overrule/model/Finding" "explanation" "Ljava/lang/String;" .null := D530 (Or.inr (hw _ (List.mem_of_getElem? (i := 53) rfl))) (ty := (.object "java/lang/String")) (by decide)
          refine Owe.dup X530.here hx (hb hby at_116) rfl rfl ?_
          refine Owe.aload X530.here hx (hb hby at_117) rfl rfl ?_
          refine Owe.aload X530.here hx (hb hby at_119) rfl rfl ?_
          refine Owe.specialS X530 hx hZ hS0 hk531 (y := (⟨"com/example/overrule/overrule/model/Finding", "<init>", "(Lcom/example/overrule/overrule/model/Finding$Kind;Ljava/lang/String;)V"⟩ : MethodName)) rfl hown1 (mvT hZ (hw _ (List.mem_of_getElem? (i := 33) rfl))) (mvT hZ (hw _ (List.mem_of_getElem? (i := 34) rfl))) (mvT hZ (hw _ (List.mem_of_getElem? (i := 35) rfl))) (by decide) (backOfSH (W := 1) (rmini l Z a0 hw [] b530 r3 x1_513 .null .null h530 n0 Z_550 A530 Fkind_b530 Fexplanation_b530 ge_b530) hZ (hw _ (List.mem_of_getElem? (i := 35) rfl)) (hw _ (List.mem_of_getElem? (i := 32) rfl)) (by decide) (by decide) (own_ew hw) H531) (by rw [hml]; rfl) (a := b530) (argsL := [(.ref r3), (.ref x1_513)]) (rest := [(.ref b530)]) (lenOf pd_7 rfl) rfl (Nat.le_of_ble_eq_true rfl) (hb hby at_121) rfl e530 (by decide) (by decide) fun T551 v551 L551 X551 hS551 hZ551 hown551 hC551 hQ551 => ?_
          obtain ⟨rfl, Nq551, K551, E_a1_551, Fkind_a1_551⟩ := hQ551
          have N551 := Fr.app N513 Nq551
          have hk552 := Nat.le_trans hk531 K551.1
          have Ol_553 := Ol_532.keep K551 (allS ge_b530 all0)
          have E_r1_554 := E_r1_533.keep K551
          have E_er_555 := E_er_534.keep K551
          have E_r2_556 := E_r2_535.keep K551
          have E_r4_557 := E_r4_536.keep K551
          have E_wn_558 := E_wn_537.keep K551
          have E_r3_559 := E_r3_538.keep K551
          have Fseverity_r1_560 := Fseverity_r1_539.keep K551 (ninS ne_r1_b530 nin0)
          have Fseverity_r2_561 := Fseverity_r2_540.keep K551 (ninS ne_r2_b530 nin0)
          have Fseverity_r4_562 := Fseverity_r4_541.keep K551 (ninS ne_r4_b530 nin0)
          have Fordinal_wn_563 := Fordinal_wn_542.keep K551 (ninS ne_wn_b530 nin0)
          have Fordinal_er_564 := Fordinal_er_543.keep K551 (ninS ne_er_b530 nin0)
          have Fseverity_r3_565 := Fseverity_r3_544.keep K551 (ninS ne_r3_b530 nin0)
          have V496_566 := V496_545.keep K551 (ninS ne_b464_b530 nin0)
          have E_x1_567 := E_x1_546.keep K551
          have Fvalue_x1_568 := Fvalue_x1_547.keep K551 (ninS ne_x1_513_b530 nin0)
          have Fcoder_x1_569 := Fcoder_x1_548.keep K551 (ninS ne_x1_513_b530 nin0)
          have V_t1_570 := V_t1_549.keep K551 (ninS ne_t1_513_b530 nin0)
          have A530_571 := A530.keep K551
          have Z_572 := Nat.le_trans Z_550 K551.1
          have sf_b464_551 := CHr.safe hC551 V496_545.lt sf_b464_531
          have sf_b530_551 := CHr.safe hC551 A530.lt sf_b530_531
          have Rr551 := Rr531.trans hC551
          have H551 := hC551.1
          have hk551 : T551.heap.size ≤ T551.heap.size := Nat.le_refl _
          refine Owe.astore X551.here hx (hb hby at_124) rfl rfl (l' := #[.val (.int p1), .val (.int p2), .val (.int p3), .val (.int (p1 &&& (3 : Int32))), .val (.ref r3), .val (.int (0 : Int32)), .val (.ref b464), .val (.ref x1_513), .val (.ref b530)]) rfl ?_
          refine Owe.aload X551.here hx (hb hby at_126) rfl rfl ?_
          refine Owe.virt X551 hx hZ551 (y := (⟨"com/example/overrule/overrule/model/Finding", "error", "()Z"⟩ : MethodName)) (z := (⟨"com/example/overrule/overrule/model/Finding", "error", "()Z"⟩ : MethodName)) hown551 (mvT hZ551 (hw _ (List.mem_of_getElem? (i := 54) rfl))) (mvT hZ551 (hw _ (List.mem_of_getElem? (i := 55) rfl))) (mvT hZ551 (hw _ (List.mem_of_getElem? (i := 57) rfl))) (mvT hZ551 (hw _ (List.mem_of_getElem? (i := 56) rfl))) (notFace_of_selects (args := #[]) (mvT hZ551 (hw _ (List.mem_of_getElem? (i := 57) rfl)))) (by decide) (backOf (W := 0) (rmer0 l Z a0 hw [] b530 r3 er wn T551.heap n0 Z_572 Fkind_a1_551 E_r3_559 Fseverity_r3_565 S_ERROR Ol_553 ne_wn_er) hZ551 (hw _ (List.mem_of_getElem? (i := 58) rfl)) (hw _ (List.mem_of_getElem? (i := 32) rfl)) (by decide) (by decide)) (by rw [hml]; rfl) (a := b530) (argsL := []) (rest := []) E_a1_551 (lenOf pd_8 rfl) rfl (Nat.le_of_ble_eq_true rfl) (hb hby at_128) rfl rfl (by decide) (by decide) fun T573 v573 L573 X573 hQ573 => ?_
          obtain ⟨rfl, Nq573, e573⟩ := hQ573
          have N573 := Fr.app N551 Nq573
          refine Owe.iload X573.here hx (hb hby at_131) rfl ?_
          refine Owe.icmpNo X573.here hx (hb hby at_133) rfl (teq (by decide)).2 ?_
          refine Owe.iconst X573.here hx (hb hby at_136) (w := (1 : Int32)) rfl ?_
          refine Owe.goto X573.here hx (hb hby at_137) (pc' := 141) (by decide) (by decide) ?_
          refine Owe.retNW X573 hx hS551 e573 hk551 hlk (t := .boolean) Bd.returns (by simp) (hb hby at_141) rfl fun fs hE => ?_
          rw [hG]
          refine ⟨_, _, rfl, ?_, ?_, coldMono hE (by decide) (by decide)⟩
          rotate_left
          · rw [hh]
            show CHr Z own_EL s.vm h0 T573.vm T573.heap
            rw [e573]
            exact Rr551.trans (CHv.at X573 hZ551 (own_ew hw) H551)
          show Q0 Z p1 p2 p3 G1 r1 er r2 r4 wn r3 h0 n0 _ T573.heap _
          rw [e573]
          exact ⟨rfl, N573⟩
        · skip
          refine Owe.ifNo X496.here hx (hb hby at_87) rfl ((if0 _ _).trans (feq hc87_512).1) ?_
          refine Owe.new X496 hx hZ hown1 (hw _ (List.mem_of_getElem? (i := 71) rfl)) (hw _ (List.mem_of_getElem? (i := 14) rfl)) (hw _ (List.mem_of_getElem? (i := 6) rfl)) e496 (hb hby at_90) (by decide) (by decide) fun T574 h574 b574 g574 X574 e574 E574 A574 D574 => ?_
          have ne_r1_b574 : r1 ≠ b574 := Nat.ne_of_lt (Nat.lt_of_lt_of_le E_r1_499.lt (Nat.le_of_eq g574.symm))
          have ne_er_b574 : er ≠ b574 := Nat.ne_of_lt (Nat.lt_of_lt_of_le E_er_500.lt (Nat.le_of_eq g574.symm))
          have ne_r2_b574 : r2 ≠ b574 := Nat.ne_of_lt (Nat.lt_of_lt_of_le E_r2_501.lt (Nat.le_of_eq g574.symm))
          have ne_r4_b574 : r4 ≠ b574 := Nat.ne_of_lt (Nat.lt_of_lt_of_le E_r4_502.lt (Nat.le_of_eq g574.symm))
          have ne_wn_b574 : wn ≠ b574 := Nat.ne_of_lt (Nat.lt_of_lt_of_le E_wn_503.lt (Nat.le_of_eq g574.symm))
          have ne_r3_b574 : r3 ≠ b574 := Nat.ne_of_lt (Nat.lt_of_lt_of_le E_r3_504.lt (Nat.le_of_eq g574.symm))
          have ne_b464_b574 : b464 ≠ b574 := Nat.ne_of_lt (Nat.lt_of_lt_of_le V496.lt (Nat.le_of_eq g574.symm))
          have sf_b574 := (Safe.new (Nat.le_of_eq g574.symm) : Safe Z own_EL s.vm h496 b574)
          have ge_b574 := Nat.le_trans Z_511 (Nat.le_of_eq g574.symm)
          have hk575 := Nat.le_trans hk497 E574.1
          have sf_b464_575 := Safe.ext E574 H497 sf_b464_497
          have sf_b574_575 := Safe.ext E574 H497 sf_b574
          have Rr575 := Rr497.trans (CHr.ext E574 H497)
          have H575 := CHv.ext E574 H497
          have Ol_576 := Ol_498.ext E574
          have E_r1_577 := E_r1_499.ext E574
          have E_er_578 := E_er_500.ext E574
          have E_r2_579 := E_r2_501.ext E574
          have E_r4_580 := E_r4_502.ext E574
          have E_wn_581 := E_wn_503.ext E574
          have E_r3_582 := E_r3_504.ext E574
          have Fseverity_r1_583 := Fseverity_r1_505.ext E574
          have Fseverity_r2_584 := Fseverity_r2_506.ext E574
          have Fseverity_r4_585 := Fseverity_r4_507.ext E574
          have Fordinal_wn_586 := Fordinal_wn_508.ext E574
          have Fordinal_er_587 := Fordinal_er_509.ext E574
          have Fseverity_r3_588 := Fseverity_r3_510.ext E574
          have V496_589 := V496.ext E574
          have Z_590 := Nat.le_trans Z_511 E574.1
          have Fvalue_b574 : Fld Z h574 b574 "java/lang/String" "value" "[B" .null := D574 (Or.inr (hw _ (List.mem_of_getElem? (i := 27) rfl))) (ty := (.array .byte)) (by decide)
          have Fcoder_b574 : Fld Z h574 b574 "java/lang/String" "coder" "B" (.int (0 : Int32)) := D574 (Or.inr (hw _ (List.mem_of_getElem? (i := 29) rfl))) (ty := .byte) (by decide)
          refine Owe.dup X574.here hx (hb hby at_93) rfl rfl ?_
          refine Owe.aload X574.here hx (hb hby at_94) rfl rfl ?_
          have hp591 : ∀ c ∈ ([(nar .char ((p2 &&& (255 : Int32)).toUInt32.toUInt16.toUInt32.toInt32)), (nar .char ((p3 &&& (255 : Int32)).toUInt32.toUInt16.toUInt32.toInt32))] : List Int32), ¬ c < 0 ∧ ¬ (255 : Int32) < c := by
            intro c hc
            simp only [List.mem_cons, List.not_mem_nil, or_false] at hc
            rcases hc with rfl | rfl
            · exact and255_chars _
            · exact and255_chars _
          refine Owe.special X574 hx (y := (⟨"java/lang/String", "<init>", "([C)V"⟩ : MethodName)) rfl hown1 (mvT hZ (hw _ (List.mem_of_getElem? (i := 72) rfl))) (mvT hZ (hw _ (List.mem_of_getElem? (i := 73) rfl))) (mvT hZ (hw _ (List.mem_of_getElem? (i := 74) rfl))) (by decide) (StrChars.Road.backV (W := 1) hZ hws (kI := 4) (hw _ (List.mem_of_getElem? (i := 14) rfl)) (cs := ([(nar .char ((p2 &&& (255 : Int32)).toUInt32.toUInt16.toUInt32.toInt32)), (nar .char ((p3 &&& (255 : Int32)).toUInt32.toUInt16.toUInt32.toInt32))] : List Int32)) (bs := ([(nar .char ((p2 &&& (255 : Int32)).toUInt32.toUInt16.toUInt32.toInt32)), (nar .char ((p3 &&& (255 : Int32)).toUInt32.toUInt16.toUInt32.toInt32))] : List Int32).map (fun c => c.toInt8.toInt32)) (n := 2) ge_b574 Z_590 A574 Fvalue_b574 Fcoder_b574 V496_589 (S_COMPACT_STRINGS.ext Ol_576.2) cs0 rfl rfl (by decide) (by decide) hp591 rfl (by decide) (by decide)) (by rw [hml]; rfl) (a := b574) (argsL := [(.ref b464)]) (rest := [(.ref b574)]) (lenOf pd_9 rfl) rfl (Nat.le_of_ble_eq_true rfl) (hb hby at_96) rfl e574 (by decide) (by decide) fun T592 v592 L592 X592 hQ592 => ?_
          obtain ⟨rfl, Nq592, K592, Ex592, Fc592, t592, kb592, gt592, ft592, nt592, Fv592, Vt592⟩ := hQ592
          have N592 := Fr.app N496 Nq592
          have ne_r1_t592 : r1 ≠ t592 := Nat.ne_of_lt (Nat.lt_of_lt_of_le E_r1_577.lt ft592)
          have ne_er_t592 : er ≠ t592 := Nat.ne_of_lt (Nat.lt_of_lt_of_le E_er_578.lt ft592)
          have ne_r2_t592 : r2 ≠ t592 := Nat.ne_of_lt (Nat.lt_of_lt_of_le E_r2_579.lt ft592)
          have ne_r4_t592 : r4 ≠ t592 := Nat.ne_of_lt (Nat.lt_of_lt_of_le E_r4_580.lt ft592)
          have ne_wn_t592 : wn ≠ t592 := Nat.ne_of_lt (Nat.lt_of_lt_of_le E_wn_581.lt ft592)
          have ne_r3_t592 : r3 ≠ t592 := Nat.ne_of_lt (Nat.lt_of_lt_of_le E_r3_582.lt ft592)
          have ne_b464_t592 : b464 ≠ t592 := Nat.ne_of_lt (Nat.lt_of_lt_of_le V496_589.lt ft592)
          have ne_b574_t592 : b574 ≠ t592 := Nat.ne_of_lt (Nat.lt_of_lt_of_le A574.lt ft592)
          have hk593 := Nat.le_trans hk575 K592.1
          have sf_b464_593 := Safe.keep K592 (sfS sf_b574_575 sf0) H575 sf_b464_575
          have sf_b574_593 := Safe.keep K592 (sfS sf_b574_575 sf0) H575 sf_b574_575
          have Rr593 := Rr575.trans (CHr.keep K592 (sfS sf_b574_575 sf0) H575)
          have H593 := CHv.keep K592 (sfS sf_b574_575 sf0) H575
          have Ol_594 := Ol_576.keep K592 (allS ge_b574 all0)
          have E_r1_595 := E_r1_577.keep K592
          have E_er_596 := E_er_578.keep K592
          have E_r2_597 := E_r2_579.keep K592
          have E_r4_598 := E_r4_580.keep K592
          have E_wn_599 := E_wn_581.keep K592
          have E_r3_600 := E_r3_582.keep K592
          have Fseverity_r1_601 := Fseverity_r1_583.keep K592 (ninS ne_r1_b574 nin0)
          have Fseverity_r2_602 := Fseverity_r2_584.keep K592 (ninS ne_r2_b574 nin0)
          have Fseverity_r4_603 := Fseverity_r4_585.keep K592 (ninS ne_r4_b574 nin0)
          have Fordinal_wn_604 := Fordinal_wn_586.keep K592 (ninS ne_wn_b574 nin0)
          have Fordinal_er_605 := Fordinal_er_587.keep K592 (ninS ne_er_b574 nin0)
          have Fseverity_r3_606 := Fseverity_r3_588.keep K592 (ninS ne_r3_b574 nin0)
          have V496_607 := V496_589.keep K592 (ninS ne_b464_b574 nin0)
          have A574_608 := A574.keep K592
          have Z_609 := Nat.le_trans Z_590 K592.1
          refine Owe.astore X592.here hx (hb hby at_99) rfl rfl (l' := #[.val (.int p1), .val (.int p2), .val (.int p3), .val (.int (p1 &&& (3 : Int32))), .val (.ref r3), .val (.int (0 : Int32)), .val (.ref b464), .val (.ref b574), .unset]) rfl ?_
          refine Owe.goto X592.here hx (hb hby at_101) (pc' := 113) (by decide) (by decide) ?_
          refine Owe.new X592 hx hZ hown1 (hw _ (List.mem_of_getElem? (i := 30) rfl)) (hw _ (List.mem_of_getElem? (i := 31) rfl)) (hw _ (List.mem_of_getElem? (i := 32) rfl)) rfl (hb hby at_113) (by decide) (by decide) fun T610 h610 b610 g610 X610 e610 E610 A610 D610 => ?_
          have ne_r1_b610 : r1 ≠ b610 := Nat.ne_of_lt (Nat.lt_of_lt_of_le E_r1_595.lt (Nat.le_of_eq g610.symm))
          have ne_er_b610 : er ≠ b610 := Nat.ne_of_lt (Nat.lt_of_lt_of_le E_er_596.lt (Nat.le_of_eq g610.symm))
          have ne_r2_b610 : r2 ≠ b610 := Nat.ne_of_lt (Nat.lt_of_lt_of_le E_r2_597.lt (Nat.le_of_eq g610.symm))
          have ne_r4_b610 : r4 ≠ b610 := Nat.ne_of_lt (Nat.lt_of_lt_of_le E_r4_598.lt (Nat.le_of_eq g610.symm))
          have ne_wn_b610 : wn ≠ b610 := Nat.ne_of_lt (Nat.lt_of_lt_of_le E_wn_599.lt (Nat.le_of_eq g610.symm))
          have ne_r3_b610 : r3 ≠ b610 := Nat.ne_of_lt (Nat.lt_of_lt_of_le E_r3_600.lt (Nat.le_of_eq g610.symm))
          have ne_b464_b610 : b464 ≠ b610 := Nat.ne_of_lt (Nat.lt_of_lt_of_le V496_607.lt (Nat.le_of_eq g610.symm))
          have ne_b574_b610 : b574 ≠ b610 := Nat.ne_of_lt (Nat.lt_of_lt_of_le Ex592.lt (Nat.le_of_eq g610.symm))
          have ne_t592_b610 : t592 ≠ b610 := Nat.ne_of_lt (Nat.lt_of_lt_of_le Vt592.lt (Nat.le_of_eq g610.symm))
          have sf_b610 := (Safe.new (Nat.le_of_eq g610.symm) : Safe Z own_EL s.vm T592.heap b610)
          have ge_b610 := Nat.le_trans Z_609 (Nat.le_of_eq g610.symm)
          have hk611 := Nat.le_trans hk593 E610.1
          have sf_b464_611 := Safe.ext E610 H593 sf_b464_593
          have sf_b574_611 := Safe.ext E610 H593 sf_b574_593
          have sf_b610_611 := Safe.ext E610 H593 sf_b610
          have Rr611 := Rr593.trans (CHr.ext E610 H593)
          have H611 := CHv.ext E610 H593
          have Ol_612 := Ol_594.ext E610
          have E_r1_613 := E_r1_595.ext E610
          have E_er_614 := E_er_596.ext E610
          have E_r2_615 := E_r2_597.ext E610
          have E_r4_616 := E_r4_598.ext E610
          have E_wn_617 := E_wn_599.ext E610
          have E_r3_618 := E_r3_600.ext E610
          have Fseverity_r1_619 := Fseverity_r1_601.ext E610
          have Fseverity_r2_620 := Fseverity_r2_602.ext E610
          have Fseverity_r4_621 := Fseverity_r4_603.ext E610
          have Fordinal_wn_622 := Fordinal_wn_604.ext E610
          have Fordinal_er_623 := Fordinal_er_605.ext E610
          have Fseverity_r3_624 := Fseverity_r3_606.ext E610
          have V496_625 := V496_607.ext E610
          have Ex592_626 := Ex592.ext E610
          have Fc592_627 := Fc592.ext E610
          have Fv592_628 := Fv592.ext E610
          have Vt592_629 := Vt592.ext E610
          have Z_630 := Nat.le_trans Z_609 E610.1
          have Fkind_b610 : Fld Z h610 b610 "com/example/overrule/overrule/model/Finding" "kind" "Lcom/example/overrule/overrule/model/Finding$Kind;" .null := D610 (Or.inr (hw _ (List.mem_of_getElem? (i := 51) rfl))) (ty := (.object "com/example/overrule/overrule/model/Finding$Kind")) (by decide)
          have Fexplanation_b610 : Fld Z h610 b610 "com/example/overrule/overrule/model/Finding" "explanation" "Ljava/lang/String;" .null := D610 (Or.inr (hw _ (List.mem_of_getElem? (i := 53) rfl))) (ty := (.object "java/lang/String")) (by decide)
          refine Owe.dup X610.here hx (hb hby at_116) rfl rfl ?_
          refine Owe.aload X610.here hx (hb hby at_117) rfl rfl ?_
          refine Owe.aload X610.here hx (hb hby at_119) rfl rfl ?_
          refine Owe.specialS X610 hx hZ hS0 hk611 (y := (⟨"com/example/overrule/overrule/model/Finding", "<init>", "(Lcom/example/overrule/overrule/model/Finding$Kind;Ljava/lang/String;)V"⟩ : MethodName)) rfl hown1 (mvT hZ (hw _ (List.mem_of_getElem? (i := 33) rfl))) (mvT hZ (hw _ (List.mem_of_getElem? (i := 34) rfl))) (mvT hZ (hw _ (List.mem_of_getElem? (i := 35) rfl))) (by decide) (backOfSH (W := 1) (rmini l Z a0 hw [] b610 r3 b574 .null .null h610 n0 Z_630 A610 Fkind_b610 Fexplanation_b610 ge_b610) hZ (hw _ (List.mem_of_getElem? (i := 35) rfl)) (hw _ (List.mem_of_getElem? (i := 32) rfl)) (by decide) (by decide) (own_ew hw) H611) (by rw [hml]; rfl) (a := b610) (argsL := [(.ref r3), (.ref b574)]) (rest := [(.ref b610)]) (lenOf pd_7 rfl) rfl (Nat.le_of_ble_eq_true rfl) (hb hby at_121) rfl e610 (by decide) (by decide) fun T631 v631 L631 X631 hS631 hZ631 hown631 hC631 hQ631 => ?_
          obtain ⟨rfl, Nq631, K631, E_a1_631, Fkind_a1_631⟩ := hQ631
          have N631 := Fr.app N592 Nq631
          have hk632 := Nat.le_trans hk611 K631.1
          have Ol_633 := Ol_612.keep K631 (allS ge_b610 all0)
          have E_r1_634 := E_r1_613.keep K631
          have E_er_635 := E_er_614.keep K631
          have E_r2_636 := E_r2_615.keep K631
          have E_r4_637 := E_r4_616.keep K631
          have E_wn_638 := E_wn_617.keep K631
          have E_r3_639 := E_r3_618.keep K631
          have Fseverity_r1_640 := Fseverity_r1_619.keep K631 (ninS ne_r1_b610 nin0)
          have Fseverity_r2_641 := Fseverity_r2_620.keep K631 (ninS ne_r2_b610 nin0)
          have Fseverity_r4_642 := Fseverity_r4_621.keep K631 (ninS ne_r4_b610 nin0)
          have Fordinal_wn_643 := Fordinal_wn_622.keep K631 (ninS ne_wn_b610 nin0)
          have Fordinal_er_644 := Fordinal_er_623.keep K631 (ninS ne_er_b610 nin0)
          have Fseverity_r3_645 := Fseverity_r3_624.keep K631 (ninS ne_r3_b610 nin0)
          have V496_646 := V496_625.keep K631 (ninS ne_b464_b610 nin0)
          have Ex592_647 := Ex592_626.keep K631
          have Fc592_648 := Fc592_627.keep K631 (ninS ne_b574_b610 nin0)
          have Fv592_649 := Fv592_628.keep K631 (ninS ne_b574_b610 nin0)
          have Vt592_650 := Vt592_629.keep K631 (ninS ne_t592_b610 nin0)
          have A610_651 := A610.keep K631
          have Z_652 := Nat.le_trans Z_630 K631.1
          have sf_b464_631 := CHr.safe hC631 V496_625.lt sf_b464_611
          have sf_b574_631 := CHr.safe hC631 Ex592_626.lt sf_b574_611
          have sf_b610_631 := CHr.safe hC631 A610.lt sf_b610_611
          have Rr631 := Rr611.trans hC631
          have H631 := hC631.1
          have hk631 : T631.heap.size ≤ T631.heap.size := Nat.le_refl _
          refine Owe.astore X631.here hx (hb hby at_124) rfl rfl (l' := #[.val (.int p1), .val (.int p2), .val (.int p3), .val (.int (p1 &&& (3 : Int32))), .val (.ref r3), .val (.int (0 : Int32)), .val (.ref b464), .val (.ref b574), .val (.ref b610)]) rfl ?_
          refine Owe.aload X631.here hx (hb hby at_126) rfl rfl ?_
          refine Owe.virt X631 hx hZ631 (y := (⟨"com/example/overrule/overrule/model/Finding", "error", "()Z"⟩ : MethodName)) (z := (⟨"com/example/overrule/overrule/model/Finding", "error", "()Z"⟩ : MethodName)) hown631 (mvT hZ631 (hw _ (List.mem_of_getElem? (i := 54) rfl))) (mvT hZ631 (hw _ (List.mem_of_getElem? (i := 55) rfl))) (mvT hZ631 (hw _ (List.mem_of_getElem? (i := 57) rfl))) (mvT hZ631 (hw _ (List.mem_of_getElem? (i := 56) rfl))) (notFace_of_selects (args := #[]) (mvT hZ631 (hw _ (List.mem_of_getElem? (i := 57) rfl)))) (by decide) (backOf (W := 0) (rmer0 l Z a0 hw [] b610 r3 er wn T631.heap n0 Z_652 Fkind_a1_631 E_r3_639 Fseverity_r3_645 S_ERROR Ol_633 ne_wn_er) hZ631 (hw _ (List.mem_of_getElem? (i := 58) rfl)) (hw _ (List.mem_of_getElem? (i := 32) rfl)) (by decide) (by decide)) (by rw [hml]; rfl) (a := b610) (argsL := []) (rest := []) E_a1_631 (lenOf pd_8 rfl) rfl (Nat.le_of_ble_eq_true rfl) (hb hby at_128) rfl rfl (by decide) (by decide) fun T653 v653 L653 X653 hQ653 => ?_
          obtain ⟨rfl, Nq653, e653⟩ := hQ653
          have N653 := Fr.app N631 Nq653
          refine Owe.iload X653.here hx (hb hby at_131) rfl ?_
          refine Owe.icmpNo X653.here hx (hb hby at_133) rfl (teq (by decide)).2 ?_
          refine Owe.iconst X653.here hx (hb hby at_136) (w := (1 : Int32)) rfl ?_
          refine Owe.goto X653.here hx (hb hby at_137) (pc' := 141) (by decide) (by decide) ?_
          refine Owe.retNW X653 hx hS631 e653 hk631 hlk (t := .boolean) Bd.returns (by simp) (hb hby at_141) rfl fun fs hE => ?_
          rw [hG]
          refine ⟨_, _, rfl, ?_, ?_, coldMono hE (by decide) (by decide)⟩
          rotate_left
          · rw [hh]
            show CHr Z own_EL s.vm h0 T653.vm T653.heap
            rw [e653]
            exact Rr631.trans (CHv.at X653 hZ631 (own_ew hw) H631)
          show Q0 Z p1 p2 p3 G1 r1 er r2 r4 wn r3 h0 n0 _ T653.heap _
          rw [e653]
          exact ⟨rfl, N653⟩
      · skip
        refine Owe.icmpYes X0.here hx (hb hby at_37) rfl (feq hc37_462).2 (pc' := 51) (by decide) (by decide) ?_
        refine Owe.gets X0 hx hZ hown1 (hw _ (List.mem_of_getElem? (i := 88) rfl)) Via.refl e0 (S_EQUAL_DISTANCE_LEVELS.ext Ol.2) (hb hby at_51) fun T654 X654 e654 => ?_
        refine Owe.astore X654.here hx (hb hby at_54) rfl rfl (l' := #[.val (.int p1), .val (.int p2), .val (.int p3), .val (.int (p1 &&& (3 : Int32))), .val (.ref r4), .unset, .unset, .unset, .unset]) rfl ?_
        refine Owe.iconst X654.here hx (hb hby at_56) (w := (0 : Int32)) rfl ?_
        refine Owe.istore X654.here hx (hb hby at_57) rfl (l' := #[.val (.int p1), .val (.int p2), .val (.int p3), .val (.int (p1 &&& (3 : Int32))), .val (.ref r4), .val (.int (0 : Int32)), .unset, .unset, .unset]) rfl ?_
        refine Owe.iconst X654.here hx (hb hby at_59) (w := (2 : Int32)) rfl ?_
        refine Owe.newarr X654 hx hZ (aty := .char) (hw _ (List.mem_of_getElem? (i := 3) rfl)) e654 (hb hby at_60) rfl (by decide) (cap := 2) (by decide) (by decide) (by decide) (by decide) fun T655 h655 b655 k655 g655 X655 e655 E655 V655 => ?_
        have ne_r1_b655 : r1 ≠ b655 := Nat.ne_of_lt (Nat.lt_of_lt_of_le E_r1.lt (Nat.le_of_eq g655.symm))
        have ne_er_b655 : er ≠ b655 := Nat.ne_of_lt (Nat.lt_of_lt_of_le E_er.lt (Nat.le_of_eq g655.symm))
        have ne_r2_b655 : r2 ≠ b655 := Nat.ne_of_lt (Nat.lt_of_lt_of_le E_r2.lt (Nat.le_of_eq g655.symm))
        have ne_r4_b655 : r4 ≠ b655 := Nat.ne_of_lt (Nat.lt_of_lt_of_le E_r4.lt (Nat.le_of_eq g655.symm))
        have ne_wn_b655 : wn ≠ b655 := Nat.ne_of_lt (Nat.lt_of_lt_of_le E_wn.lt (Nat.le_of_eq g655.symm))
        have ne_r3_b655 : r3 ≠ b655 := Nat.ne_of_lt (Nat.lt_of_lt_of_le E_r3.lt (Nat.le_of_eq g655.symm))
        have sf_b655 := (Safe.new (Nat.le_of_eq g655.symm) : Safe Z own_EL s.vm h0 b655)
        have ge_b655 := Nat.le_trans Z0 (Nat.le_of_eq g655.symm)
        have hk656 := Nat.le_trans hk0 E655.1
        have sf_b655_656 := Safe.ext E655 H0 sf_b655
        have Rr656 := R0.trans (CHr.ext E655 H0)
        have H656 := CHv.ext E655 H0
        have Ol_657 := Ol.ext E655
        have E_r1_658 := E_r1.ext E655
        have E_er_659 := E_er.ext E655
        have E_r2_660 := E_r2.ext E655
        have E_r4_661 := E_r4.ext E655
        have E_wn_662 := E_wn.ext E655
        have E_r3_663 := E_r3.ext E655
        have Fseverity_r1_664 := Fseverity_r1.ext E655
        have Fseverity_r2_665 := Fseverity_r2.ext E655
        have Fseverity_r4_666 := Fseverity_r4.ext E655
        have Fordinal_wn_667 := Fordinal_wn.ext E655
        have Fordinal_er_668 := Fordinal_er.ext E655
        have Fseverity_r3_669 := Fseverity_r3.ext E655
        have Z_670 := Nat.le_trans Z0 E655.1
        have V_b655_655 : Arv Z h655 b655 k655 .char (2 : Int32) [(.int (0 : Int32)), (.int (0 : Int32))] (.int (0 : Int32)) := V655.pad (pad_rep [] (.int (0 : Int32)) 2)
        refine Owe.astore X655.here hx (hb hby at_62) rfl rfl (l' := #[.val (.int p1), .val (.int p2), .val (.int p3), .val (.int (p1 &&& (3 : Int32))), .val (.ref r4), .val (.int (0 : Int32)), .val (.ref b655), .unset, .unset]) rfl ?_
        refine Owe.aload X655.here hx (hb hby at_64) rfl rfl ?_
        refine Owe.iconst X655.here hx (hb hby at_66) (w := (0 : Int32)) rfl ?_
        refine Owe.iloadN X655.here hx (hb hby at_67) rfl ?_
        refine Owe.sipush X655.here hx (hb hby at_68) (w := (255 : Int32)) rfl ?_
        refine Owe.iand X655.here hx (hb hby at_71) rfl ?_
        refine Owe.i2c X655.here hx (hb hby at_72) rfl ?_
        refine Owe.castore X655 hx hZ e655 V_b655_655 (x := ((p2 &&& (255 : Int32)).toUInt32.toUInt16.toUInt32.toInt32)) 0 rfl (Nat.le_of_ble_eq_true rfl) (by decide) (hb hby at_73) rfl fun T671 h671 X671 e671 W671 (V671 : Arv Z h671 b655 k655 .char (2 : Int32) [(.int (nar .char ((p2 &&& (255 : Int32)).toUInt32.toUInt16.toUInt32.toInt32))), (.int (0 : Int32))] (.int (0 : Int32))) => ?_
        have hk672 := Nat.le_trans hk656 (Keep.of_wr W671).1
        have sf_b655_672 := Safe.wr W671 sf_b655_656 H656 sf_b655_656
        have Rr672 := Rr656.trans (CHr.wr W671 sf_b655_656 H656)
        have H672 := CHv.wr W671 sf_b655_656 H656
        have Ol_673 := Ol_657.wr W671 ge_b655
        have E_r1_674 := E_r1_658.wr W671
        have E_er_675 := E_er_659.wr W671
        have E_r2_676 := E_r2_660.wr W671
        have E_r4_677 := E_r4_661.wr W671
        have E_wn_678 := E_wn_662.wr W671
        have E_r3_679 := E_r3_663.wr W671
        have Fseverity_r1_680 := Fseverity_r1_664.other W671 (Or.inl ne_r1_b655)
        have Fseverity_r2_681 := Fseverity_r2_665.other W671 (Or.inl ne_r2_b655)
        have Fseverity_r4_682 := Fseverity_r4_666.other W671 (Or.inl ne_r4_b655)
        have Fordinal_wn_683 := Fordinal_wn_667.other W671 (Or.inl ne_wn_b655)
        have Fordinal_er_684 := Fordinal_er_668.other W671 (Or.inl ne_er_b655)
        have Fseverity_r3_685 := Fseverity_r3_669.other W671 (Or.inl ne_r3_b655)
        have Z_686 := Nat.le_trans Z_670 (Keep.of_wr W671).1
        have N671 := Fr.snoc X671 N0 ge_b655
        refine Owe.aload X671.here hx (hb hby at_74) rfl rfl ?_
        refine Owe.iconst X671.here hx (hb hby at_76) (w := (1 : Int32)) rfl ?_
        refine Owe.iloadN X671.here hx (hb hby at_77) rfl ?_
        refine Owe.sipush X671.here hx (hb hby at_78) (w := (255 : Int32)) rfl ?_
        refine Owe.iand X671.here hx (hb hby at_81) rfl ?_
        refine Owe.i2c X671.here hx (hb hby at_82) rfl ?_
        refine Owe.castore X671 hx hZ e671 V671 (x := ((p3 &&& (255 : Int32)).toUInt32.toUInt16.toUInt32.toInt32)) 1 rfl (Nat.le_of_ble_eq_true rfl) (by decide) (hb hby at_83) rfl fun T687 h687 X687 e687 W687 (V687 : Arv Z h687 b655 k655 .char (2 : Int32) [(.int (nar .char ((p2 &&& (255 : Int32)).toUInt32.toUInt16.toUInt32.toInt32))), (.int (nar .char ((p3 &&& (255 : Int32)).toUInt32.toUInt16.toUInt32.toInt32)))] (.int (0 : Int32))) => ?_
        have hk688 := Nat.le_trans hk672 (Keep.of_wr W687).1
        have sf_b655_688 := Safe.wr W687 sf_b655_672 H672 sf_b655_672
        have Rr688 := Rr672.trans (CHr.wr W687 sf_b655_672 H672)
        have H688 := CHv.wr W687 sf_b655_672 H672
        have Ol_689 := Ol_673.wr W687 ge_b655
        have E_r1_690 := E_r1_674.wr W687
        have E_er_691 := E_er_675.wr W687
        have E_r2_692 := E_r2_676.wr W687
        have E_r4_693 := E_r4_677.wr W687
        have E_wn_694 := E_wn_678.wr W687
        have E_r3_695 := E_r3_679.wr W687
        have Fseverity_r1_696 := Fseverity_r1_680.other W687 (Or.inl ne_r1_b655)
        have Fseverity_r2_697 := Fseverity_r2_681.other W687 (Or.inl ne_r2_b655)
        have Fseverity_r4_698 := Fseverity_r4_682.other W687 (Or.inl ne_r4_b655)
        have Fordinal_wn_699 := Fordinal_wn_683.other W687 (Or.inl ne_wn_b655)
        have Fordinal_er_700 := Fordinal_er_684.other W687 (Or.inl ne_er_b655)
        have Fseverity_r3_701 := Fseverity_r3_685.other W687 (Or.inl ne_r3_b655)
        have Z_702 := Nat.le_trans Z_686 (Keep.of_wr W687).1
        have N687 := Fr.snoc X687 N671 ge_b655
        refine Owe.iloadN X687.here hx (hb hby at_84) rfl ?_
        refine Owe.iconst X687.here hx (hb hby at_85) (w := (4 : Int32)) rfl ?_
        refine Owe.iand X687.here hx (hb hby at_86) rfl ?_
        by_cases hc87_703 : (p1 &&& (4 : Int32)) = (0 : Int32)
        · skip
          refine Owe.ifYes X687.here hx (hb hby at_87) rfl ((if0 _ _).trans (teq hc87_703).1) (pc' := 104) (by decide) (by decide) ?_
          refine Owe.aload X687.here hx (hb hby at_104) rfl rfl ?_
          refine Owe.iconst X687.here hx (hb hby at_106) (w := (0 : Int32)) rfl ?_
          refine Owe.caload X687 hx hZ e687 V687 (v := (.int (nar .char ((p2 &&& (255 : Int32)).toUInt32.toUInt16.toUInt32.toInt32)))) (by decide) rfl (hb hby at_107) rfl ?_
          refine Owe.stat X687 hx (y := (⟨"java/lang/String", "valueOf", "(C)Ljava/lang/String;"⟩ : MethodName)) hown1 (mvT hZ (hw _ (List.mem_of_getElem? (i := 4) rfl))) (mvT hZ (hw _ (List.mem_of_getElem? (i := 5) rfl))) (mvT hZ (hw _ (List.mem_of_getElem? (i := 6) rfl))) (mvT hZ (hw _ (List.mem_of_getElem? (i := 7) rfl))) (by decide) (backOf (W := 0) (rmvof l Z a0 hw [] (nar .char ((p2 &&& (255 : Int32)).toUInt32.toUInt16.toUInt32.toInt32)) G1 h687 n0 Z_702 S_COMPACT_STRINGS cs0 (and255_chars p2).2 Ol_689) hZ (hw _ (List.mem_of_getElem? (i := 7) rfl)) (hw _ (List.mem_of_getElem? (i := 6) rfl)) (by decide) (by decide)) (by rw [hml]; rfl) (argsL := [(.int (nar .char ((p2 &&& (255 : Int32)).toUInt32.toUInt16.toUInt32.toInt32)))]) (rest := []) (lenOf pd_6 rfl) rfl (Nat.le_of_ble_eq_true rfl) (hb hby at_108) rfl e687 (by decide) (by decide) fun T704 v704 L704 X704 hQ704 => ?_
          obtain ⟨x1_704, t1_704, k1_704, rfl, Nq704, K704, ge_x1_704, fresh_x1_704, ge_t1_704, fresh_t1_704, E_x1_704, Fvalue_x1_704, Fcoder_x1_704, V_t1_704⟩ := hQ704
          have N704 := Fr.app N687 Nq704
          have hk705 := Nat.le_trans hk688 K704.1
          have sf_b655_705 := Safe.keep K704 sf0 H688 sf_b655_688
          have Rr705 := Rr688.trans (CHr.keep K704 sf0 H688)
          have H705 := CHv.keep K704 sf0 H688
          have Ol_706 := Ol_689.keep K704 all0
          have E_r1_707 := E_r1_690.keep K704
          have E_er_708 := E_er_691.keep K704
          have E_r2_709 := E_r2_692.keep K704
          have E_r4_710 := E_r4_693.keep K704
          have E_wn_711 := E_wn_694.keep K704
          have E_r3_712 := E_r3_695.keep K704
          have Fseverity_r1_713 := Fseverity_r1_696.keep K704 nin0
          have Fseverity_r2_714 := Fseverity_r2_697.keep K704 nin0
          have Fseverity_r4_715 := Fseverity_r4_698.keep K704 nin0
          have Fordinal_wn_716 := Fordinal_wn_699.keep K704 nin0
          have Fordinal_er_717 := Fordinal_er_700.keep K704 nin0
          have Fseverity_r3_718 := Fseverity_r3_701.keep K704 nin0
          have V687_719 := V687.keep K704 nin0
          have Z_720 := Nat.le_trans Z_702 K704.1
          have ne_r1_x1_704 : r1 ≠ x1_704 := Nat.ne_of_lt (Nat.lt_of_lt_of_le E_r1_690.lt fresh_x1_704)
          have ne_er_x1_704 : er ≠ x1_704 := Nat.ne_of_lt (Nat.lt_of_lt_of_le E_er_691.lt fresh_x1_704)
          have ne_r2_x1_704 : r2 ≠ x1_704 := Nat.ne_of_lt (Nat.lt_of_lt_of_le E_r2_692.lt fresh_x1_704)
          have ne_r4_x1_704 : r4 ≠ x1_704 := Nat.ne_of_lt (Nat.lt_of_lt_of_le E_r4_693.lt fresh_x1_704)
          have ne_wn_x1_704 : wn ≠ x1_704 := Nat.ne_of_lt (Nat.lt_of_lt_of_le E_wn_694.lt fresh_x1_704)
          have ne_r3_x1_704 : r3 ≠ x1_704 := Nat.ne_of_lt (Nat.lt_of_lt_of_le E_r3_695.lt fresh_x1_704)
          have ne_b655_x1_704 : b655 ≠ x1_704 := Nat.ne_of_lt (Nat.lt_of_lt_of_le V687.lt fresh_x1_704)
          have ne_r1_t1_704 : r1 ≠ t1_704 := Nat.ne_of_lt (Nat.lt_of_lt_of_le E_r1_690.lt fresh_t1_704)
          have ne_er_t1_704 : er ≠ t1_704 := Nat.ne_of_lt (Nat.lt_of_lt_of_le E_er_691.lt fresh_t1_704)
          have ne_r2_t1_704 : r2 ≠ t1_704 := Nat.ne_of_lt (Nat.lt_of_lt_of_le E_r2_692.lt fresh_t1_704)
          have ne_r4_t1_704 : r4 ≠ t1_704 := Nat.ne_of_lt (Nat.lt_of_lt_of_le E_r4_693.lt fresh_t1_704)
          have ne_wn_t1_704 : wn ≠ t1_704 := Nat.ne_of_lt (Nat.lt_of_lt_of_le E_wn_694.lt fresh_t1_704)
          have ne_r3_t1_704 : r3 ≠ t1_704 := Nat.ne_of_lt (Nat.lt_of_lt_of_le E_r3_695.lt fresh_t1_704)
          have ne_b655_t1_704 : b655 ≠ t1_704 := Nat.ne_of_lt (Nat.lt_of_lt_of_le V687.lt fresh_t1_704)
          refine Owe.astore X704.here hx (hb hby at_111) rfl rfl (l' := #[.val (.int p1), .val (.int p2), .val (.int p3), .val (.int (p1 &&& (3 : Int32))), .val (.ref r4), .val (.int (0 : Int32)), .val (.ref b655), .val (.ref x1_704), .unset]) rfl ?_
          refine Owe.new X704 hx hZ hown1 (hw _ (List.mem_of_getElem? (i := 30) rfl)) (hw _ (List.mem_of_getElem? (i := 31) rfl)) (hw _ (List.mem_of_getElem? (i := 32) rfl)) rfl (hb hby at_113) (by decide) (by decide) fun T721 h721 b721 g721 X721 e721 E721 A721 D721 => ?_
          have ne_r1_b721 : r1 ≠ b721 := Nat.ne_of_lt (Nat.lt_of_lt_of_le E_r1_707.lt (Nat.le_of_eq g721.symm))
          have ne_er_b721 : er ≠ b721 := Nat.ne_of_lt (Nat.lt_of_lt_of_le E_er_708.lt (Nat.le_of_eq g721.symm))
          have ne_r2_b721 : r2 ≠ b721 := Nat.ne_of_lt (Nat.lt_of_lt_of_le E_r2_709.lt (Nat.le_of_eq g721.symm))
          have ne_r4_b721 : r4 ≠ b721 := Nat.ne_of_lt (Nat.lt_of_lt_of_le E_r4_710.lt (Nat.le_of_eq g721.symm))
          have ne_wn_b721 : wn ≠ b721 := Nat.ne_of_lt (Nat.lt_of_lt_of_le E_wn_711.lt (Nat.le_of_eq g721.symm))
          have ne_r3_b721 : r3 ≠ b721 := Nat.ne_of_lt (Nat.lt_of_lt_of_le E_r3_712.lt (Nat.le_of_eq g721.symm))
          have ne_b655_b721 : b655 ≠ b721 := Nat.ne_of_lt (Nat.lt_of_lt_of_le V687_719.lt (Nat.le_of_eq g721.symm))
          have ne_x1_704_b721 : x1_704 ≠ b721 := Nat.ne_of_lt (Nat.lt_of_lt_of_le E_x1_704.lt (Nat.le_of_eq g721.symm))
          have ne_t1_704_b721 : t1_704 ≠ b721 := Nat.ne_of_lt (Nat.lt_of_lt_of_le V_t1_704.lt (Nat.le_of_eq g721.symm))
          have sf_b721 := (Safe.new (Nat.le_of_eq g721.symm) : Safe Z own_EL s.vm T704.heap b721)
          have ge_b721 := Nat.le_trans Z_720 (Nat.le_of_eq g721.symm)
          have hk722 := Nat.le_trans hk705 E721.1
          have sf_b655_722 := Safe.ext E721 H705 sf_b655_705
          have sf_b721_722 := Safe.ext E721 H705 sf_b721
          have Rr722 := Rr705.trans (CHr.ext E721 H705)
          have H722 := CHv.ext E721 H705
          have Ol_723 := Ol_706.ext E721
          have E_r1_724 := E_r1_707.ext E721
          have E_er_725 := E_er_708.ext E721
          have E_r2_726 := E_r2_709.ext E721
          have E_r4_727 := E_r4_710.ext E721
          have E_wn_728 := E_wn_711.ext E721
          have E_r3_729 := E_r3_712.ext E721
          have Fseverity_r1_730 := Fseverity_r1_713.ext E721
          have Fseverity_r2_731 := Fseverity_r2_714.ext E721
          have Fseverity_r4_732 := Fseverity_r4_715.ext E721
          have Fordinal_wn_733 := Fordinal_wn_716.ext E721
          have Fordinal_er_734 := Fordinal_er_717.ext E721
          have Fseverity_r3_735 := Fseverity_r3_718.ext E721
          have V687_736 := V687_719.ext E721
          have E_x1_737 := E_x1_704.ext E721
          have Fvalue_x1_738 := Fvalue_x1_704.ext E721
          have Fcoder_x1_739 := Fcoder_x1_704.ext E721
          have V_t1_740 := V_t1_704.ext E721
          have Z_741 := Nat.le_trans Z_720 E721.1
          have Fkind_b721 : Fld Z h721 b721 "com/example/overrule/overrule/model/Finding" "kind" "Lcom/example/overrule/overrule/model/Finding$Kind;" .null := D721 (Or.inr (hw _ (List.mem_of_getElem? (i := 51) rfl))) (ty := (.object "com/example/overrule/overrule/model/Finding$Kind")) (by decide)
          have Fexplanation_b721 : Fld Z h721 b721 "com/example/overrule/overrule/model/Finding" "explanation" "Ljava/lang/String;" .null := D721 (Or.inr (hw _ (List.mem_of_getElem? (i := 53) rfl))) (ty := (.object "java/lang/String")) (by decide)
          refine Owe.dup X721.here hx (hb hby at_116) rfl rfl ?_
          refine Owe.aload X721.here hx (hb hby at_117) rfl rfl ?_
          refine Owe.aload X721.here hx (hb hby at_119) rfl rfl ?_
          refine Owe.specialS X721 hx hZ hS0 hk722 (y := (⟨"com/example/overrule/overrule/model/Finding", "<init>", "(Lcom/example/overrule/overrule/model/Finding$Kind;Ljava/lang/String;)V"⟩ : MethodName)) rfl hown1 (mvT hZ (hw _ (List.mem_of_getElem? (i := 33) rfl))) (mvT hZ (hw _ (List.mem_of_getElem? (i := 34) rfl))) (mvT hZ (hw _ (List.mem_of_getElem? (i := 35) rfl))) (by decide) (backOfSH (W := 1) (rmini l Z a0 hw [] b721 r4 x1_704 .null .null h721 n0 Z_741 A721 Fkind_b721 Fexplanation_b721 ge_b721) hZ (hw _ (List.mem_of_getElem? (i := 35) rfl)) (hw _ (List.mem_of_getElem? (i := 32) rfl)) (by decide) (by decide) (own_ew hw) H722) (by rw [hml]; rfl) (a := b721) (argsL := [(.ref r4), (.ref x1_704)]) (rest := [(.ref b721)]) (lenOf pd_7 rfl) rfl (Nat.le_of_ble_eq_true rfl) (hb hby at_121) rfl e721 (by decide) (by decide) fun T742 v742 L742 X742 hS742 hZ742 hown742 hC742 hQ742 => ?_
          obtain ⟨rfl, Nq742, K742, E_a1_742, Fkind_a1_742⟩ := hQ742
          have N742 := Fr.app N704 Nq742
          have hk743 := Nat.le_trans hk722 K742.1
          have Ol_744 := Ol_723.keep K742 (allS ge_b721 all0)
          have E_r1_745 := E_r1_724.keep K742
          have E_er_746 := E_er_725.keep K742
          have E_r2_747 := E_r2_726.keep K742
          have E_r4_748 := E_r4_727.keep K742
          have E_wn_749 := E_wn_728.keep K742
          have E_r3_750 := E_r3_729.keep K742
          have Fseverity_r1_751 := Fseverity_r1_730.keep K742 (ninS ne_r1_b721 nin0)
          have Fseverity_r2_752 := Fseverity_r2_731.keep K742 (ninS ne_r2_b721 nin0)
          have Fseverity_r4_753 := Fseverity_r4_732.keep K742 (ninS ne_r4_b721 nin0)
          have Fordinal_wn_754 := Fordinal_wn_733.keep K742 (ninS ne_wn_b721 nin0)
          have Fordinal_er_755 := Fordinal_er_734.keep K742 (ninS ne_er_b721 nin0)
          have Fseverity_r3_756 := Fseverity_r3_735.keep K742 (ninS ne_r3_b721 nin0)
          have V687_757 := V687_736.keep K742 (ninS ne_b655_b721 nin0)
          have E_x1_758 := E_x1_737.keep K742
          have Fvalue_x1_759 := Fvalue_x1_738.keep K742 (ninS ne_x1_704_b721 nin0)
          have Fcoder_x1_760 := Fcoder_x1_739.keep K742 (ninS ne_x1_704_b721 nin0)
          have V_t1_761 := V_t1_740.keep K742 (ninS ne_t1_704_b721 nin0)
          have A721_762 := A721.keep K742
          have Z_763 := Nat.le_trans Z_741 K742.1
          have sf_b655_742 := CHr.safe hC742 V687_736.lt sf_b655_722
          have sf_b721_742 := CHr.safe hC742 A721.lt sf_b721_722
          have Rr742 := Rr722.trans hC742
          have H742 := hC742.1
          have hk742 : T742.heap.size ≤ T742.heap.size := Nat.le_refl _
          refine Owe.astore X742.here hx (hb hby at_124) rfl rfl (l' := #[.val (.int p1), .val (.int p2), .val (.int p3), .val (.int (p1 &&& (3 : Int32))), .val (.ref r4), .val (.int (0 : Int32)), .val (.ref b655), .val (.ref x1_704), .val (.ref b721)]) rfl ?_
          refine Owe.aload X742.here hx (hb hby at_126) rfl rfl ?_
          refine Owe.virt X742 hx hZ742 (y := (⟨"com/example/overrule/overrule/model/Finding", "error", "()Z"⟩ : MethodName)) (z := (⟨"com/example/overrule/overrule/model/Finding", "error", "()Z"⟩ : MethodName)) hown742 (mvT hZ742 (hw _ (List.mem_of_getElem? (i := 54) rfl))) (mvT hZ742 (hw _ (List.mem_of_getElem? (i := 55) rfl))) (mvT hZ742 (hw _ (List.mem_of_getElem? (i := 57) rfl))) (mvT hZ742 (hw _ (List.mem_of_getElem? (i := 56) rfl))) (notFace_of_selects (args := #[]) (mvT hZ742 (hw _ (List.mem_of_getElem? (i := 57) rfl)))) (by decide) (backOf (W := 0) (rmer0 l Z a0 hw [] b721 r4 er wn T742.heap n0 Z_763 Fkind_a1_742 E_r4_748 Fseverity_r4_753 S_ERROR Ol_744 ne_wn_er) hZ742 (hw _ (List.mem_of_getElem? (i := 58) rfl)) (hw _ (List.mem_of_getElem? (i := 32) rfl)) (by decide) (by decide)) (by rw [hml]; rfl) (a := b721) (argsL := []) (rest := []) E_a1_742 (lenOf pd_8 rfl) rfl (Nat.le_of_ble_eq_true rfl) (hb hby at_128) rfl rfl (by decide) (by decide) fun T764 v764 L764 X764 hQ764 => ?_
          obtain ⟨rfl, Nq764, e764⟩ := hQ764
          have N764 := Fr.app N742 Nq764
          refine Owe.iload X764.here hx (hb hby at_131) rfl ?_
          refine Owe.icmpNo X764.here hx (hb hby at_133) rfl (teq (by decide)).2 ?_
          refine Owe.iconst X764.here hx (hb hby at_136) (w := (1 : Int32)) rfl ?_
          refine Owe.goto X764.here hx (hb hby at_137) (pc' := 141) (by decide) (by decide) ?_
          refine Owe.retNW X764 hx hS742 e764 hk742 hlk (t := .boolean) Bd.returns (by simp) (hb hby at_141) rfl fun fs hE => ?_
          rw [hG]
          refine ⟨_, _, rfl, ?_, ?_, coldMono hE (by decide) (by decide)⟩
          rotate_left
          · rw [hh]
            show CHr Z own_EL s.vm h0 T764.vm T764.heap
            rw [e764]
            exact Rr742.trans (CHv.at X764 hZ742 (own_ew hw) H742)
          show Q0 Z p1 p2 p3 G1 r1 er r2 r4 wn r3 h0 n0 _ T764.heap _
          rw [e764]
          exact ⟨rfl, N764⟩
        · skip
          refine Owe.ifNo X687.here hx (hb hby at_87) rfl ((if0 _ _).trans (feq hc87_703).1) ?_
          refine Owe.new X687 hx hZ hown1 (hw _ (List.mem_of_getElem? (i := 71) rfl)) (hw _ (List.mem_of_getElem? (i := 14) rfl)) (hw _ (List.mem_of_getElem? (i := 6) rfl)) e687 (hb hby at_90) (by decide) (by decide) fun T765 h765 b765 g765 X765 e765 E765 A765 D765 => ?_
          have ne_r1_b765 : r1 ≠ b765 := Nat.ne_of_lt (Nat.lt_of_lt_of_le E_r1_690.lt (Nat.le_of_eq g765.symm))
          have ne_er_b765 : er ≠ b765 := Nat.ne_of_lt (Nat.lt_of_lt_of_le E_er_691.lt (Nat.le_of_eq g765.symm))
          have ne_r2_b765 : r2 ≠ b765 := Nat.ne_of_lt (Nat.lt_of_lt_of_le E_r2_692.lt (Nat.le_of_eq g765.symm))
          have ne_r4_b765 : r4 ≠ b765 := Nat.ne_of_lt (Nat.lt_of_lt_of_le E_r4_693.lt (Nat.le_of_eq g765.symm))
          have ne_wn_b765 : wn ≠ b765 := Nat.ne_of_lt (Nat.lt_of_lt_of_le E_wn_694.lt (Nat.le_of_eq g765.symm))
          have ne_r3_b765 : r3 ≠ b765 := Nat.ne_of_lt (Nat.lt_of_lt_of_le E_r3_695.lt (Nat.le_of_eq g765.symm))
          have ne_b655_b765 : b655 ≠ b765 := Nat.ne_of_lt (Nat.lt_of_lt_of_le V687.lt (Nat.le_of_eq g765.symm))
          have sf_b765 := (Safe.new (Nat.le_of_eq g765.symm) : Safe Z own_EL s.vm h687 b765)
          have ge_b765 := Nat.le_trans Z_702 (Nat.le_of_eq g765.symm)
          have hk766 := Nat.le_trans hk688 E765.1
          have sf_b655_766 := Safe.ext E765 H688 sf_b655_688
          have sf_b765_766 := Safe.ext E765 H688 sf_b765
          have Rr766 := Rr688.trans (CHr.ext E765 H688)
          have H766 := CHv.ext E765 H688
          have Ol_767 := Ol_689.ext E765
          have E_r1_768 := E_r1_690.ext E765
          have E_er_769 := E_er_691.ext E765
          have E_r2_770 := E_r2_692.ext E765
          have E_r4_771 := E_r4_693.ext E765
          have E_wn_772 := E_wn_694.ext E765
          have E_r3_773 := E_r3_695.ext E765
          have Fseverity_r1_774 := Fseverity_r1_696.ext E765
          have Fseverity_r2_775 := Fseverity_r2_697.ext E765
          have Fseverity_r4_776 := Fseverity_r4_698.ext E765
          have Fordinal_wn_777 := Fordinal_wn_699.ext E765
          have Fordinal_er_778 := Fordinal_er_700.ext E765
          have Fseverity_r3_779 := Fseverity_r3_701.ext E765
          have V687_780 := V687.ext E765
          have Z_781 := Nat.le_trans Z_702 E765.1
          have Fvalue_b765 : Fld Z h765 b765 "java/lang/String" "value" "[B" .null := D765 (Or.inr (hw _ (List.mem_of_getElem? (i := 27) rfl))) (ty := (.array .byte)) (by decide)
          have Fcoder_b765 : Fld Z h765 b765 "java/lang/String" "coder" "B" (.int (0 : Int32)) := D765 (Or.inr (hw _ (List.mem_of_getElem? (i := 29) rfl))) (ty := .byte) (by decide)
          refine Owe.dup X765.here hx (hb hby at_93) rfl rfl ?_
          refine Owe.aload X765.here hx (hb hby at_94) rfl rfl ?_
          have hp782 : ∀ c ∈ ([(nar .char ((p2 &&& (255 : Int32)).toUInt32.toUInt16.toUInt32.toInt32)), (nar .char ((p3 &&& (255 : Int32)).toUInt32.toUInt16.toUInt32.toInt32))] : List Int32), ¬ c < 0 ∧ ¬ (255 : Int32) < c := by
            intro c hc
            simp only [List.mem_cons, List.not_mem_nil, or_false] at hc
            rcases hc with rfl | rfl
            · exact and255_chars _
            · exact and255_chars _
          refine Owe.special X765 hx (y := (⟨"java/lang/String", "<init>", "([C)V"⟩ : MethodName)) rfl hown1 (mvT hZ (hw _ (List.mem_of_getElem? (i := 72) rfl))) (mvT hZ (hw _ (List.mem_of_getElem? (i := 73) rfl))) (mvT hZ (hw _ (List.mem_of_getElem? (i := 74) rfl))) (by decide) (StrChars.Road.backV (W := 1) hZ hws (kI := 4) (hw _ (List.mem_of_getElem? (i := 14) rfl)) (cs := ([(nar .char ((p2 &&& (255 : Int32)).toUInt32.toUInt16.toUInt32.toInt32)), (nar .char ((p3 &&& (255 : Int32)).toUInt32.toUInt16.toUInt32.toInt32))] : List Int32)) (bs := ([(nar .char ((p2 &&& (255 : Int32)).toUInt32.toUInt16.toUInt32.toInt32)), (nar .char ((p3 &&& (255 : Int32)).toUInt32.toUInt16.toUInt32.toInt32))] : List Int32).map (fun c => c.toInt8.toInt32)) (n := 2) ge_b765 Z_781 A765 Fvalue_b765 Fcoder_b765 V687_780 (S_COMPACT_STRINGS.ext Ol_767.2) cs0 rfl rfl (by decide) (by decide) hp782 rfl (by decide) (by decide)) (by rw [hml]; rfl) (a := b765) (argsL := [(.ref b655)]) (rest := [(.ref b765)]) (lenOf pd_9 rfl) rfl (Nat.le_of_ble_eq_true rfl) (hb hby at_96) rfl e765 (by decide) (by decide) fun T783 v783 L783 X783 hQ783 => ?_
          obtain ⟨rfl, Nq783, K783, Ex783, Fc783, t783, kb783, gt783, ft783, nt783, Fv783, Vt783⟩ := hQ783
          have N783 := Fr.app N687 Nq783
          have ne_r1_t783 : r1 ≠ t783 := Nat.ne_of_lt (Nat.lt_of_lt_of_le E_r1_768.lt ft783)
          have ne_er_t783 : er ≠ t783 := Nat.ne_of_lt (Nat.lt_of_lt_of_le E_er_769.lt ft783)
          have ne_r2_t783 : r2 ≠ t783 := Nat.ne_of_lt (Nat.lt_of_lt_of_le E_r2_770.lt ft783)
          have ne_r4_t783 : r4 ≠ t783 := Nat.ne_of_lt (Nat.lt_of_lt_of_le E_r4_771.lt ft783)
          have ne_wn_t783 : wn ≠ t783 := Nat.ne_of_lt (Nat.lt_of_lt_of_le E_wn_772.lt ft783)
          have ne_r3_t783 : r3 ≠ t783 := Nat.ne_of_lt (Nat.lt_of_lt_of_le E_r3_773.lt ft783)
          have ne_b655_t783 : b655 ≠ t783 := Nat.ne_of_lt (Nat.lt_of_lt_of_le V687_780.lt ft783)
          have ne_b765_t783 : b765 ≠ t783 := Nat.ne_of_lt (Nat.lt_of_lt_of_le A765.lt ft783)
          have hk784 := Nat.le_trans hk766 K783.1
          have sf_b655_784 := Safe.keep K783 (sfS sf_b765_766 sf0) H766 sf_b655_766
          have sf_b765_784 := Safe.keep K783 (sfS sf_b765_766 sf0) H766 sf_b765_766
          have Rr784 := Rr766.trans (CHr.keep K783 (sfS sf_b765_766 sf0) H766)
          have H784 := CHv.keep K783 (sfS sf_b765_766 sf0) H766
          have Ol_785 := Ol_767.keep K783 (allS ge_b765 all0)
          have E_r1_786 := E_r1_768.keep K783
          have E_er_787 := E_er_769.keep K783
          have E_r2_788 := E_r2_770.keep K783
          have E_r4_789 := E_r4_771.keep K783
          have E_wn_790 := E_wn_772.keep K783
          have E_r3_791 := E_r3_773.keep K783
          have Fseverity_r1_792 := Fseverity_r1_774.keep K783 (ninS ne_r1_b765 nin0)
          have Fseverity_r2_793 := Fseverity_r2_775.keep K783 (ninS ne_r2_b765 nin0)
          have Fseverity_r4_794 := Fseverity_r4_776.keep K783 (ninS ne_r4_b765 nin0)
          have Fordinal_wn_795 := Fordinal_wn_777.keep K783 (ninS ne_wn_b765 nin0)
          have Fordinal_er_796 := Fordinal_er_778.keep K783 (ninS ne_er_b765 nin0)
          have Fseverity_r3_797 := Fseverity_r3_779.keep K783 (ninS ne_r3_b765 nin0)
          have V687_798 := V687_780.keep K783 (ninS ne_b655_b765 nin0)
          have A765_799 := A765.keep K783
          have Z_800 := Nat.le_trans Z_781 K783.1
          refine Owe.astore X783.here hx (hb hby at_99) rfl rfl (l' := #[.val (.int p1), .val (.int p2), .val (.int p3), .val (.int (p1 &&& (3 : Int32))), .val (.ref r4), .val (.int (0 : Int32)), .val (.ref b655), .val (.ref b765), .unset]) rfl ?_
          refine Owe.goto X783.here hx (hb hby at_101) (pc' := 113) (by decide) (by decide) ?_
          refine Owe.new X783 hx hZ hown1 (hw _ (List.mem_of_getElem? (i := 30) rfl)) (hw _ (List.mem_of_getElem? (i := 31) rfl)) (hw _ (List.mem_of_getElem? (i := 32) rfl)) rfl (hb hby at_113) (by decide) (by decide) fun T801 h801 b801 g801 X801 e801 E801 A801 D801 => ?_
          have ne_r1_b801 : r1 ≠ b801 := Nat.ne_of_lt (Nat.lt_of_lt_of_le E_r1_786.lt (Nat.le_of_eq g801.symm))
          have ne_er_b801 : er ≠ b801 := Nat.ne_of_lt (Nat.lt_of_lt_of_le E_er_787.lt (Nat.le_of_eq g801.symm))
          have ne_r2_b801 : r2 ≠ b801 := Nat.ne_of_lt (Nat.lt_of_lt_of_le E_r2_788.lt (Nat.le_of_eq g801.symm))
          have ne_r4_b801 : r4 ≠ b801 := Nat.ne_of_lt (Nat.lt_of_lt_of_le E_r4_789.lt (Nat.le_of_eq g801.symm))
          have ne_wn_b801 : wn ≠ b801 := Nat.ne_of_lt (Nat.lt_of_lt_of_le E_wn_790.lt (Nat.le_of_eq g801.symm))
          have ne_r3_b801 : r3 ≠ b801 := Nat.ne_of_lt (Nat.lt_of_lt_of_le E_r3_791.lt (Nat.le_of_eq g801.symm))
          have ne_b655_b801 : b655 ≠ b801 := Nat.ne_of_lt (Nat.lt_of_lt_of_le V687_798.lt (Nat.le_of_eq g801.symm))
          have ne_b765_b801 : b765 ≠ b801 := Nat.ne_of_lt (Nat.lt_of_lt_of_le Ex783.lt (Nat.le_of_eq g801.symm))
          have ne_t783_b801 : t783 ≠ b801 := Nat.ne_of_lt (Nat.lt_of_lt_of_le Vt783.lt (Nat.le_of_eq g801.symm))
          have sf_b801 := (Safe.new (Nat.le_of_eq g801.symm) : Safe Z own_EL s.vm T783.heap b801)
          have ge_b801 := Nat.le_trans Z_800 (Nat.le_of_eq g801.symm)
          have hk802 := Nat.le_trans hk784 E801.1
          have sf_b655_802 := Safe.ext E801 H784 sf_b655_784
          have sf_b765_802 := Safe.ext E801 H784 sf_b765_784
          have sf_b801_802 := Safe.ext E801 H784 sf_b801
          have Rr802 := Rr784.trans (CHr.ext E801 H784)
          have H802 := CHv.ext E801 H784
          have Ol_803 := Ol_785.ext E801
          have E_r1_804 := E_r1_786.ext E801
          have E_er_805 := E_er_787.ext E801
          have E_r2_806 := E_r2_788.ext E801
          have E_r4_807 := E_r4_789.ext E801
          have E_wn_808 := E_wn_790.ext E801
          have E_r3_809 := E_r3_791.ext E801
          have Fseverity_r1_810 := Fseverity_r1_792.ext E801
          have Fseverity_r2_811 := Fseverity_r2_793.ext E801
          have Fseverity_r4_812 := Fseverity_r4_794.ext E801
          have Fordinal_wn_813 := Fordinal_wn_795.ext E801
          have Fordinal_er_814 := Fordinal_er_796.ext E801
          have Fseverity_r3_815 := Fseverity_r3_797.ext E801
          have V687_816 := V687_798.ext E801
          have Ex783_817 := Ex783.ext E801
          have Fc783_818 := Fc783.ext E801
          have Fv783_819 := Fv783.ext E801
          have Vt783_820 := Vt783.ext E801
          have Z_821 := Nat.le_trans Z_800 E801.1
          have Fkind_b801 : Fld Z h801 b801 "com/example/overrule/overrule/model/Finding" "kind" "Lcom/example/overrule/overrule/model/Finding$Kind;" .null := D801 (Or.inr (hw _ (List.mem_of_getElem? (i := 51) rfl))) (ty := (.object "com/example/overrule/overrule/model/Finding$Kind")) (by decide)
          have Fexplanation_b801 : Fld Z h801 b801 "com/example/overrule/overrule/model/Finding" "explanation" "Ljava/lang/String;" .null := D801 (Or.inr (hw _ (List.mem_of_getElem? (i := 53) rfl))) (ty := (.object "java/lang/String")) (by decide)
          refine Owe.dup X801.here hx (hb hby at_116) rfl rfl ?_
          refine Owe.aload X801.here hx (hb hby at_117) rfl rfl ?_
          refine Owe.aload X801.here hx (hb hby at_119) rfl rfl ?_
          refine Owe.specialS X801 hx hZ hS0 hk802 (y := (⟨"com/example/overrule/overrule/model/Finding", "<init>", "(Lcom/example/overrule/overrule/model/Finding$Kind;Ljava/lang/String;)V"⟩ : MethodName)) rfl hown1 (mvT hZ (hw _ (List.mem_of_getElem? (i := 33) rfl))) (mvT hZ (hw _ (List.mem_of_getElem? (i := 34) rfl))) (mvT hZ (hw _ (List.mem_of_getElem? (i := 35) rfl))) (by decide) (backOfSH (W := 1) (rmini l Z a0 hw [] b801 r4 b765 .null .null h801 n0 Z_821 A801 Fkind_b801 Fexplanation_b801 ge_b801) hZ (hw _ (List.mem_of_getElem? (i := 35) rfl)) (hw _ (List.mem_of_getElem? (i := 32) rfl)) (by decide) (by decide) (own_ew hw) H802) (by rw [hml]; rfl) (a := b801) (argsL := [(.ref r4), (.ref b765)]) (rest := [(.ref b801)]) (lenOf pd_7 rfl) rfl (Nat.le_of_ble_eq_true rfl) (hb hby at_121) rfl e801 (by decide) (by decide) fun T822 v822 L822 X822 hS822 hZ822 hown822 hC822 hQ822 => ?_
          obtain ⟨rfl, Nq822, K822, E_a1_822, Fkind_a1_822⟩ := hQ822
          have N822 := Fr.app N783 Nq822
          have hk823 := Nat.le_trans hk802 K822.1
          have Ol_824 := Ol_803.keep K822 (allS ge_b801 all0)
          have E_r1_825 := E_r1_804.keep K822
          have E_er_826 := E_er_805.keep K822
          have E_r2_827 := E_r2_806.keep K822
          have E_r4_828 := E_r4_807.keep K822
          have E_wn_829 := E_wn_808.keep K822
          have E_r3_830 := E_r3_809.keep K822
          have Fseverity_r1_831 := Fseverity_r1_810.keep K822 (ninS ne_r1_b801 nin0)
          have Fseverity_r2_832 := Fseverity_r2_811.keep K822 (ninS ne_r2_b801 nin0)
          have Fseverity_r4_833 := Fseverity_r4_812.keep K822 (ninS ne_r4_b801 nin0)
          have Fordinal_wn_834 := Fordinal_wn_813.keep K822 (ninS ne_wn_b801 nin0)
          have Fordinal_er_835 := Fordinal_er_814.keep K822 (ninS ne_er_b801 nin0)
          have Fseverity_r3_836 := Fseverity_r3_815.keep K822 (ninS ne_r3_b801 nin0)
          have V687_837 := V687_816.keep K822 (ninS ne_b655_b801 nin0)
          have Ex783_838 := Ex783_817.keep K822
          have Fc783_839 := Fc783_818.keep K822 (ninS ne_b765_b801 nin0)
          have Fv783_840 := Fv783_819.keep K822 (ninS ne_b765_b801 nin0)
          have Vt783_841 := Vt783_820.keep K822 (ninS ne_t783_b801 nin0)
          have A801_842 := A801.keep K822
          have Z_843 := Nat.le_trans Z_821 K822.1
          have sf_b655_822 := CHr.safe hC822 V687_816.lt sf_b655_802
          have sf_b765_822 := CHr.safe hC822 Ex783_817.lt sf_b765_802
          have sf_b801_822 := CHr.safe hC822 A801.lt sf_b801_802
          have Rr822 := Rr802.trans hC822
          have H822 := hC822.1
          have hk822 : T822.heap.size ≤ T822.heap.size := Nat.le_refl _
          refine Owe.astore X822.here hx (hb hby at_124) rfl rfl (l' := #[.val (.int p1), .val (.int p2), .val (.int p3), .val (.int (p1 &&& (3 : Int32))), .val (.ref r4), .val (.int (0 : Int32)), .val (.ref b655), .val (.ref b765), .val (.ref b801)]) rfl ?_
          refine Owe.aload X822.here hx (hb hby at_126) rfl rfl ?_
          refine Owe.virt X822 hx hZ822 (y := (⟨"com/example/overrule/overrule/model/Finding", "error", "()Z"⟩ : MethodName)) (z := (⟨"com/example/overrule/overrule/model/Finding", "error", "()Z"⟩ : MethodName)) hown822 (mvT hZ822 (hw _ (List.mem_of_getElem? (i := 54) rfl))) (mvT hZ822 (hw _ (List.mem_of_getElem? (i := 55) rfl))) (mvT hZ822 (hw _ (List.mem_of_getElem? (i := 57) rfl))) (mvT hZ822 (hw _ (List.mem_of_getElem? (i := 56) rfl))) (notFace_of_selects (args := #[]) (mvT hZ822 (hw _ (List.mem_of_getElem? (i := 57) rfl)))) (by decide) (backOf (W := 0) (rmer0 l Z a0 hw [] b801 r4 er wn T822.heap n0 Z_843 Fkind_a1_822 E_r4_828 Fseverity_r4_833 S_ERROR Ol_824 ne_wn_er) hZ822 (hw _ (List.mem_of_getElem? (i := 58) rfl)) (hw _ (List.mem_of_getElem? (i := 32) rfl)) (by decide) (by decide)) (by rw [hml]; rfl) (a := b801) (argsL := []) (rest := []) E_a1_822 (lenOf pd_8 rfl) rfl (Nat.le_of_ble_eq_true rfl) (hb hby at_128) rfl rfl (by decide) (by decide) fun T844 v844 L844 X844 hQ844 => ?_
          obtain ⟨rfl, Nq844, e844⟩ := hQ844
          have N844 := Fr.app N822 Nq844
          refine Owe.iload X844.here hx (hb hby at_131) rfl ?_
          refine Owe.icmpNo X844.here hx (hb hby at_133) rfl (teq (by decide)).2 ?_
          refine Owe.iconst X844.here hx (hb hby at_136) (w := (1 : Int32)) rfl ?_
          refine Owe.goto X844.here hx (hb hby at_137) (pc' := 141) (by decide) (by decide) ?_
          refine Owe.retNW X844 hx hS822 e844 hk822 hlk (t := .boolean) Bd.returns (by simp) (hb hby at_141) rfl fun fs hE => ?_
          rw [hG]
          refine ⟨_, _, rfl, ?_, ?_, coldMono hE (by decide) (by decide)⟩
          rotate_left
          · rw [hh]
            show CHr Z own_EL s.vm h0 T844.vm T844.heap
            rw [e844]
            exact Rr822.trans (CHv.at X844 hZ822 (own_ew hw) H822)
          show Q0 Z p1 p2 p3 G1 r1 er r2 r4 wn r3 h0 n0 _ T844.heap _
          rw [e844]
          exact ⟨rfl, N844⟩
set_option maxRecDepth 65536 in
set_option maxHeartbeats 40000000 in
theorem comes_1 {Post : Tables → Env → Array Value → State → Outcome → State → Prop} (hpost : ∀ tb e args s v u, (limb_1_1.after args s (.returned v) u = true ∧ limb_1_2.after args s (.returned v) u = true ∧ True) → ReturnedEndW s (.returned v) u (Jvm.fieldLocs frame_1_writes args s ++ Jvm.arrayLocs frame_1_arrays args s ++ Jvm.staticLocs frame_1_statics s) 24 2176 → Post tb e args s (.returned v) u) :
    ArmFor flags0 classFile x code maxLocals ret World_1 tables_1 room_1 Calls_1 rest_1 Pre_1 Post := by
  intro l hfl _ _ p e ha hc hk s m args below hf hA hF happ hP
  obtain ⟨hcalls, hrest, hpre⟩ := hP
  obtain ⟨-, -, -, hnamed, -, -, -, hat⟩ := (Spec.applies_iff hf).mp happ
  obtain ⟨hg, hn⟩ := and_e (Cond.before_iff.mp (show (Jvm.Cond.and given_1 narrow_1).before args s = true from hpre))
  obtain ⟨g0, q0⟩ := and_e hg
  obtain ⟨g1, q1⟩ := and_e q0
  obtain ⟨g2, q2⟩ := and_e q1
  obtain ⟨w0, w1, w2, rfl⟩ : ∃ w0 w1 w2 : Value, args = #[w0, w1, w2] := by
    have hs : args.size = 3 := by simpa [Cond.value, given_1] using g0
    obtain ⟨L⟩ := args
    match L, hs with
    | [w0, w1, w2], _ => exact ⟨w0, w1, w2, rfl⟩
  have hw := fun d (hd : d ∈ tables_1) => atoms_spec (ws := Jvm.Cond.code x code maxLocals ret :: tables_1) hat d (List.mem_cons_of_mem _ hd)
  have hfit : Fit s := fun {y c} hc i hi => by
    obtain ⟨ha, rfl⟩ := Array.getElem?_eq_some_iff.mp hc
    have q := List.all_eq_true.mp ((Array.all_eq_true_iff_forall_mem.mp hF) _ (Array.getElem_mem ha)) i (List.mem_range.mpr hi)
    simpa [Array.getElem?_eq_getElem hi] using q
  obtain ⟨hsets, hown0⟩ := atoms_of _ (rest_1_c_eq ▸ (show rest_1_c.before _ s = true from hrest))
  have hr0 := Cond.before_iff.mp hown0
  obtain ⟨i0, ei0⟩ := is_v g1
  obtain rfl : w0 = (.int i0) := Option.some.inj ei0
  obtain ⟨i1, ei1⟩ := is_v g2
  obtain rfl : w1 = (.int i1) := Option.some.inj ei1
  obtain ⟨i2, ei2⟩ := is_v q2
  obtain rfl : w2 = (.int i2) := Option.some.inj ei2
  have n5 := not_v (Cond.before_iff.mp (hsets _ (List.mem_of_getElem? (i := 2) rfl)))
  obtain ⟨ics, ecs⟩ := is_v (Cond.before_iff.mp (hsets _ (List.mem_of_getElem? (i := 1) rfl)))
  have Scs : Sta s s.heap "java/lang/String" "COMPACT_STRINGS" "Z" (.int ics) := Sta.start ecs (Or.inl (hsets _ (List.mem_of_getElem? (i := 0) rfl)))
  have hcs0 : ¬ (ics = (0 : Int32)) := gotF (Cond.eq_ints ecs (Term.int_eval (0))) n5
  obtain ⟨nr0, nx0⟩ := and_e hn
  obtain ⟨nr1, nx1⟩ := and_e nx0
  obtain ⟨nr2, nx2⟩ := and_e nx1
  obtain ⟨nr3, nx3⟩ := and_e nx2
  obtain ⟨nr4, nx4⟩ := and_e nx3
  obtain ⟨nr5, nx5⟩ := and_e nx4
  obtain ⟨nr6, nx6⟩ := and_e nx5
  obtain ⟨nr7, nx7⟩ := and_e nx6
  obtain ⟨nr8, nx8⟩ := and_e nx7
  obtain ⟨nr9, nx9⟩ := and_e nx8
  obtain ⟨nr10, nx10⟩ := and_e nx9
  have nr11 := nx10
  obtain ⟨r1, ev_r1⟩ := exa_v nr0
  have S_r1 : Sta s s.heap "com/example/overrule/overrule/model/Finding$Kind" "REQUIREMENT_1" "Lcom/example/overrule/overrule/model/Finding$Kind;" (.ref r1) := Sta.start ev_r1 (Or.inr ⟨(hw _ (List.mem_of_getElem? (i := 1) rfl)), (hw _ (List.mem_of_getElem? (i := 2) rfl))⟩)
  have E_r1 := Exa.start ev_r1 nr0
  obtain ⟨er, ev_er⟩ := exa_v nr1
  have S_er : Sta s s.heap "com/example/overrule/overrule/model/Finding$Severity" "ERROR" "Lcom/example/overrule/overrule/model/Finding$Severity;" (.ref er) := Sta.start ev_er (Or.inr ⟨(hw _ (List.mem_of_getElem? (i := 66) rfl)), (hw _ (List.mem_of_getElem? (i := 67) rfl))⟩)
  have E_er := Exa.start ev_er nr1
  obtain ⟨r2, ev_r2⟩ := exa_v nr3
  have S_r2 : Sta s s.heap "com/example/overrule/overrule/model/Finding$Kind" "REQUIREMENT_2" "Lcom/example/overrule/overrule/model/Finding$Kind;" (.ref r2) := Sta.start ev_r2 (Or.inr ⟨(hw _ (List.mem_of_getElem? (i := 1) rfl)), (hw _ (List.mem_of_getElem? (i := 70) rfl))⟩)
  have E_r2 := Exa.start ev_r2 nr3
  obtain ⟨r4, ev_r4⟩ := exa_v nr5
  have S_r4 : Sta s s.heap "com/example/overrule/overrule/model/Finding$Kind" "EQUAL_DISTANCE_LEVELS" "Lcom/example/overrule/overrule/model/Finding$Kind;" (.ref r4) := Sta.start ev_r4 (Or.inr ⟨(hw _ (List.mem_of_getElem? (i := 1) rfl)), (hw _ (List.mem_of_getElem? (i := 89) rfl))⟩)
  have E_r4 := Exa.start ev_r4 nr5
  obtain ⟨wn, ev_wn⟩ := exa_v nr6
  have S_wn : Sta s s.heap "com/example/overrule/overrule/model/Finding$Severity" "WARNING" "Lcom/example/overrule/overrule/model/Finding$Severity;" (.ref wn) := Sta.start ev_wn (Or.inr ⟨(hw _ (List.mem_of_getElem? (i := 66) rfl)), (hw _ (List.mem_of_getElem? (i := 90) rfl))⟩)
  have E_wn := Exa.start ev_wn nr6
  obtain ⟨r3, ev_r3⟩ := exa_v nr10
  have S_r3 : Sta s s.heap "com/example/overrule/overrule/model/Finding$Kind" "REGULAR_AND_BREAKABLE" "Lcom/example/overrule/overrule/model/Finding$Kind;" (.ref r3) := Sta.start ev_r3 (Or.inr ⟨(hw _ (List.mem_of_getElem? (i := 1) rfl)), (hw _ (List.mem_of_getElem? (i := 92) rfl))⟩)
  have E_r3 := Exa.start ev_r3 nr10
  have F_severity_r1 := own_fld_ref ev_r1 ev_er nr2
  have F_severity_r2 := own_fld_ref ev_r2 ev_er nr4
  have F_severity_r4 := own_fld_ref ev_r4 ev_wn nr7
  have F_ordinal_wn := own_fld_int ev_wn nr8
  have F_ordinal_er := own_fld_int ev_er nr9
  have F_severity_r3 := own_fld_ref ev_r3 ev_wn nr11
  have ne_wn_er := Fld.ne F_ordinal_wn F_ordinal_er (by decide)
  have H0 : CHv s own_EL s.vm s.heap := fun p hp => by cases hp
  obtain ⟨n, o, h1, h2, h3, _, L, rfl, ⟨rfl, N⟩, _, hq⟩ := rm0 l s _ hw tables_1 i0 i1 i2 ics r1 er r2 r4 wn r3 s.heap s.heap.size (Nat.le_refl _) Scs hcs0 (Old.start s) S_r1 E_r1 S_er E_er S_r2 E_r2 S_r4 E_r4 S_wn E_wn S_r3 E_r3 F_severity_r1 F_severity_r2 F_severity_r4 F_ordinal_wn F_ordinal_er F_severity_r3 ne_wn_er p e ha hc hk s m _ below hf ((Spec.applies_iff_loose hf).mp happ).1 ⟨rfl, State.Warmed39.refl s, rfl, H0⟩ trivial
  refine ⟨n, _, h1, h2, h3, hpost _ _ _ _ _ _ ⟨Cond.after_iff.mpr rfl, Cond.after_iff.mpr (eq_i res_at (Term.int_eval (1)) rfl), trivial⟩ ⟨hq.1, hq.2.1, hq.2.2.1, (hq.2.2.2.sift fun y hy => Or.inr (N y hy)).mono (by decide) (by decide)⟩⟩
theorem main_1_1 : Claimed_1_1 := comes_1 fun _ _ _ _ _ _ h hF => ⟨h.1, hF⟩
theorem main_1_2 : Claimed_1_2 := comes_1 fun _ _ _ _ _ _ h hF => ⟨h.2.1, hF⟩
end Jvm.Pilot.@@N@@
namespace Jvm.Pilot.@@N@@
open Jvm Jvm.ClassFile Sem Op Lib Jvm.Free Jvm.Stand Jvm.Pilot.@@N@@.Jvm.D
/-! MADE BY PROGRAM (witnessworld.py) out of the Statement's table words and the real class files: 25 classes; the members and pool entries that the words name. The judged class is class 1, her method 1. -/
namespace start1
open Jvm.ClassFile
def u (s : String) : CpInfo := .utf8 (stringToUtf16 s)
/-- a pool by its gaps: so many unusable entries, then the entry; so many at the end -/
def gap : Nat → List CpInfo → List CpInfo
  | 0, r => r
  | n + 1, r => .unusable :: gap n r
def poolList (es : List (Nat × CpInfo)) (last : Nat) : List CpInfo := es.foldr (fun e r => gap e.1 (e.2 :: r)) (gap last [])
def pool (es : List (Nat × CpInfo)) (last : Nat) : Array CpInfo := ⟨poolList es last⟩
def fileOf (pool : Array CpInfo) (this : Nat) (attrs : Array Attribute := #[]) (ms : Array MethodInfo := #[]) (fl : Nat := 33) (sup : Nat := 0) (ifs : Array Nat := #[]) (fds : Array FieldInfo := #[]) : ClassFile where
  minorVersion := 0
  majorVersion := 65
  constantPool := pool
  accessFlags := fl
  thisClass := this
  superClass := sup
  interfaces := ifs
  fields := fds
  methods := ms
  attributes := attrs
def plain (name : String) (sup : Option ClassId) : Class where
  name := name
  kind := .ordinary
  loader := none
  accessFlags := 33
  super := sup
  interfaces := #[]
  cf := none
  fields := #[]
  methods := #[]
  instanceTypes := #[]
  staticTypes := #[]
  resolved := #[]
  callSites := []
  init := .initialized
  statics := none
  mirror := none

def pool0 : Array CpInfo := pool [(5, u "<init>"), (0, u "()V"), (1, .class_ 10), (1, u "java/lang/Object")] 113

def k0c0 : Code := { maxStack := 0, maxLocals := 1, code := object_method_1_code, exceptionTable := #[], attributes := #[] }
def k0m0 : Method := { name := "<init>", desc := "()V", sig := { parameters := [], returnType := none }, accessFlags := 1, code := some k0c0 }
/-- java/lang/Object -/
def k0 : Class := { plain "java/lang/Object" none with
  accessFlags := 33
  interfaces := #[]
  cf := some (fileOf pool0 8 #[] #[{ accessFlags := 1, nameIndex := 5, descriptorIndex := 6, attributes := #[] }] 33 0 #[] #[])
  fields := #[]
  methods := #[k0m0]
  instanceTypes := #[]
  staticTypes := #[]
  resolved := Array.replicate 124 none
  statics := none }

def pool1 : Array CpInfo := pool [(2, .class_ 4), (1, u "java/lang/Object"), (0, u "<init>"), (0, u "()V"), (0, .fieldref 8 9), (0, .class_ 10), (0, .nameAndType 11 12), (0, u "com/example/overrule/overrule/model/Finding$Kind"), (0, u "REQUIREMENT_1"), (0, u "Lcom/example/overrule/overrule/model/Finding$Kind;"), (0, .fieldref 8 14), (0, .nameAndType 15 12), (0, u "REQUIREMENT_2"), (0, .fieldref 8 17), (0, .nameAndType 18 12), (0, u "REGULAR_AND_BREAKABLE"), (0, .fieldref 8 20), (0, .nameAndType 21 12), (0, u "EQUAL_DISTANCE_LEVELS"), (0, .class_ 23), (0, u "java/lang/String"), (0, .methodref 22 25), (0, .nameAndType 5 26), (0, u "([C)V"), (0, .methodref 22 28), (0, .nameAndType 29 30), (0, u "valueOf"), (0, u "(C)Ljava/lang/String;"), (0, .class_ 32), (0, u "com/example/overrule/overrule/model/Finding"), (0, .methodref 31 34), (0, .nameAndType 5 35), (0, u "(Lcom/example/overrule/overrule/model/Finding$Kind;Ljava/lang/String;)V"), (0, .methodref 31 37), (0, .nameAndType 38 39), (0, u "error"), (0, u "()Z"), (0, .class_ 41), (0, u "com/example/overrule/overrule/model/FindingErrorPinLaw"), (2, u "law"), (0, u "(III)Z")] 7

def k1m0 : Method := { name := "<init>", desc := "()V", sig := { parameters := [], returnType := none }, accessFlags := 1, code := none }
def k1c1 : Code := { maxStack := 4, maxLocals := 9, code := code, exceptionTable := #[], attributes := #[] }
def k1m1 : Method := { name := "law", desc := "(III)Z", sig := { parameters := [.int, .int, .int], returnType := some .boolean }, accessFlags := 9, code := some k1c1 }
/-- com/example/overrule/overrule/model/FindingErrorPinLaw -/
def k1 : Class := { plain "com/example/overrule/overrule/model/FindingErrorPinLaw" (some 0) with
  accessFlags := 49
  interfaces := #[]
  cf := some (fileOf pool1 40 #[] #[{ accessFlags := 1, nameIndex := 5, descriptorIndex := 6, attributes := #[] }, { accessFlags := 9, nameIndex := 44, descriptorIndex := 45, attributes := #[] }] 49 2 #[] #[])
  fields := #[]
  methods := #[k1m0, k1m1]
  instanceTypes := #[]
  staticTypes := #[]
  resolved := Array.replicate 53 none
  statics := none }

def pool2 : Array CpInfo := pool [(1, .class_ 2), (0, u "java/lang/constant/Constable"), (0, .class_ 4), (0, u "java/lang/Object")] 6

/-- java/lang/constant/Constable -/
def k2 : Class := { plain "java/lang/constant/Constable" (some 0) with
  accessFlags := 1537
  interfaces := #[]
  cf := some (fileOf pool2 1 #[] #[] 1537 3 #[] #[])
  fields := #[]
  methods := #[]
  instanceTypes := #[]
  staticTypes := #[]
  resolved := Array.replicate 11 none
  statics := none }

def pool3 : Array CpInfo := pool [(1, .class_ 2), (0, u "java/lang/Comparable"), (0, .class_ 4), (0, u "java/lang/Object")] 7

/-- java/lang/Comparable -/
def k3 : Class := { plain "java/lang/Comparable" (some 0) with
  accessFlags := 1537
  interfaces := #[]
  cf := some (fileOf pool3 1 #[] #[] 1537 3 #[] #[])
  fields := #[]
  methods := #[]
  instanceTypes := #[]
  staticTypes := #[]
  resolved := Array.replicate 12 none
  statics := none }

def pool4 : Array CpInfo := pool [(1, .class_ 2), (0, u "java/io/Serializable"), (0, .class_ 4), (0, u "java/lang/Object")] 2

/-- java/io/Serializable -/
def k4 : Class := { plain "java/io/Serializable" (some 0) with
  accessFlags := 1537
  interfaces := #[]
  cf := some (fileOf pool4 1 #[] #[] 1537 3 #[] #[])
  fields := #[]
  methods := #[]
  instanceTypes := #[]
  staticTypes := #[]
  resolved := Array.replicate 7 none
  statics := none }

def pool5 : Array CpInfo := pool [(2, .class_ 4), (1, u "java/lang/Enum"), (0, u "name"), (0, u "Ljava/lang/String;"), (2, u "ordinal"), (0, u "I"), (1, .class_ 14), (1, u "java/lang/Object"), (4, u "hash"), (86, .class_ 108), (1, u "java/lang/Enum$EnumDesc"), (2, .class_ 112), (0, u "java/lang/constant/Constable"), (0, .class_ 114), (0, u "java/lang/Comparable"), (0, .class_ 116), (0, u "java/io/Serializable")] 87

/-- java/lang/Enum -/
def k5 : Class := { plain "java/lang/Enum" (some 0) with
  accessFlags := 1057
  interfaces := #[2, 3, 4]
  cf := some (fileOf pool5 2 #[.nestMembers #[106]] #[] 1057 12 #[111, 113, 115] #[{ accessFlags := 18, nameIndex := 5, descriptorIndex := 6, attributes := #[] }, { accessFlags := 18, nameIndex := 9, descriptorIndex := 10, attributes := #[] }, { accessFlags := 2, nameIndex := 19, descriptorIndex := 10, attributes := #[] }])
  fields := #[{ name := "name", type := (.object "java/lang/String"), accessFlags := 18, slot := 0, constantValue := 0 }, { name := "ordinal", type := .int, accessFlags := 18, slot := 1, constantValue := 0 }, { name := "hash", type := .int, accessFlags := 2, slot := 2, constantValue := 0 }]
  methods := #[]
  instanceTypes := #[(.object "java/lang/String"), .int, .int]
  staticTypes := #[]
  resolved := Array.replicate 204 none
  statics := none }

def pool6 : Array CpInfo := pool [(1, .class_ 2), (0, u "com/example/overrule/overrule/model/Finding$Kind"), (2, u "REQUIREMENT_1"), (0, u "Lcom/example/overrule/overrule/model/Finding$Kind;"), (2, u "REQUIREMENT_2"), (2, u "REGULAR_AND_BREAKABLE"), (2, u "EQUAL_DISTANCE_LEVELS"), (2, u "$VALUES"), (0, u "[Lcom/example/overrule/overrule/model/Finding$Kind;"), (6, .class_ 28), (1, u "java/lang/Enum"), (8, u "label"), (0, u "Ljava/lang/String;"), (0, .fieldref 1 40), (0, .nameAndType 41 42), (0, u "severity"), (0, u "Lcom/example/overrule/overrule/model/Finding$Severity;"), (35, u "()Lcom/example/overrule/overrule/model/Finding$Severity;"), (6, .class_ 86), (0, u "com/example/overrule/overrule/model/Finding")] 3

def k6c0 : Code := { maxStack := 1, maxLocals := 1, code := prog_11_method_5_code, exceptionTable := #[], attributes := #[] }
def k6m0 : Method := { name := "severity", desc := "()Lcom/example/overrule/overrule/model/Finding$Severity;", sig := { parameters := [], returnType := some (.object "com/example/overrule/overrule/model/Finding$Severity") }, accessFlags := 1, code := some k6c0 }
/-- com/example/overrule/overrule/model/Finding$Kind -/
def k6 : Class := { plain "com/example/overrule/overrule/model/Finding$Kind" (some 5) with
  accessFlags := 16433
  interfaces := #[]
  cf := some (fileOf pool6 1 #[.nestHost 85] #[{ accessFlags := 1, nameIndex := 41, descriptorIndex := 78, attributes := #[] }] 16433 26 #[] #[{ accessFlags := 16409, nameIndex := 5, descriptorIndex := 6, attributes := #[] }, { accessFlags := 16409, nameIndex := 9, descriptorIndex := 6, attributes := #[] }, { accessFlags := 16409, nameIndex := 12, descriptorIndex := 6, attributes := #[] }, { accessFlags := 16409, nameIndex := 15, descriptorIndex := 6, attributes := #[] }, { accessFlags := 18, nameIndex := 37, descriptorIndex := 38, attributes := #[] }, { accessFlags := 18, nameIndex := 41, descriptorIndex := 42, attributes := #[] }, { accessFlags := 4122, nameIndex := 18, descriptorIndex := 19, attributes := #[] }])
  fields := #[{ name := "REQUIREMENT_1", type := (.object "com/example/overrule/overrule/model/Finding$Kind"), accessFlags := 16409, slot := 0, constantValue := 0 }, { name := "REQUIREMENT_2", type := (.object "com/example/overrule/overrule/model/Finding$Kind"), accessFlags := 16409, slot := 1, constantValue := 0 }, { name := "REGULAR_AND_BREAKABLE", type := (.object "com/example/overrule/overrule/model/Finding$Kind"), accessFlags := 16409, slot := 2, constantValue := 0 }, { name := "EQUAL_DISTANCE_LEVELS", type := (.object "com/example/overrule/overrule/model/Finding$Kind"), accessFlags := 16409, slot := 3, constantValue := 0 }, { name := "label", type := (.object "java/lang/String"), accessFlags := 18, slot := 3, constantValue := 0 }, { name := "severity", type := (.object "com/example/overrule/overrule/model/Finding$Severity"), accessFlags := 18, slot := 4, constantValue := 0 }, { name := "$VALUES", type := (.array (.object "com/example/overrule/overrule/model/Finding$Kind")), accessFlags := 4122, slot := 4, constantValue := 0 }]
  methods := #[k6m0]
  instanceTypes := #[(.object "java/lang/String"), .int, .int, (.object "java/lang/String"), (.object "com/example/overrule/overrule/model/Finding$Severity")]
  staticTypes := #[(.object "com/example/overrule/overrule/model/Finding$Kind"), (.object "com/example/overrule/overrule/model/Finding$Kind"), (.object "com/example/overrule/overrule/model/Finding$Kind"), (.object "com/example/overrule/overrule/model/Finding$Kind"), (.array (.object "com/example/overrule/overrule/model/Finding$Kind"))]
  resolved := Array.replicate 90 none
  statics := some 0 }

def pool7 : Array CpInfo := pool [(2, .class_ 4), (1, u "java/lang/CharSequence"), (42, .class_ 48), (0, u "java/lang/CharSequence$1CodePointIterator"), (10, .class_ 60), (0, u "java/lang/CharSequence$1CharIterator"), (5, .class_ 67), (0, u "java/lang/Object")] 63

/-- java/lang/CharSequence -/
def k7 : Class := { plain "java/lang/CharSequence" (some 0) with
  accessFlags := 1537
  interfaces := #[]
  cf := some (fileOf pool7 2 #[.nestMembers #[47, 59]] #[] 1537 66 #[] #[])
  fields := #[]
  methods := #[]
  instanceTypes := #[]
  staticTypes := #[]
  resolved := Array.replicate 131 none
  statics := none }

def pool8 : Array CpInfo := pool [(1, .class_ 2), (0, u "java/lang/constant/ConstantDesc"), (0, .class_ 4), (0, u "java/lang/Object")] 32

/-- java/lang/constant/ConstantDesc -/
def k8 : Class := { plain "java/lang/constant/ConstantDesc" (some 0) with
  accessFlags := 1537
  interfaces := #[]
  cf := some (fileOf pool8 1 #[] #[] 1537 3 #[] #[])
  fields := #[]
  methods := #[]
  instanceTypes := #[]
  staticTypes := #[]
  resolved := Array.replicate 37 none
  statics := none }

def pool9 : Array CpInfo := pool [(1, .methodref 2 3), (0, .class_ 4), (0, .nameAndType 5 6), (0, u "java/lang/Object"), (0, u "<init>"), (0, u "()V"), (2, .fieldref 10 11), (0, .class_ 12), (0, .nameAndType 13 14), (0, u "java/lang/String"), (0, u "value"), (0, u "[B"), (0, .fieldref 10 16), (0, .nameAndType 17 18), (0, u "coder"), (0, u "B"), (2, u "hash"), (0, u "I"), (2, u "hashIsZero"), (0, u "Z"), (0, .methodref 10 28), (0, .nameAndType 5 29), (0, u "([CIILjava/lang/Void;)V"), (8, .fieldref 10 39), (0, .nameAndType 40 26), (0, u "COMPACT_STRINGS"), (1, .class_ 44), (1, u "java/lang/StringUTF16"), (0, u "compress"), (1, .methodref 42 48), (0, .nameAndType 49 50), (0, u "coderFromArrayLen"), (0, u "([BI)B"), (2, u "toBytes"), (53, .class_ 109), (1, u "java/lang/StringLatin1"), (67, .methodref 42 178), (0, .nameAndType 45 179), (0, u "([CII)[B"), (29, .methodref 10 210), (0, .nameAndType 5 211), (0, u "([BB)V"), (157, u "(C)Z"), (205, .class_ 576), (0, u "java/lang/CharSequence"), (22, u "CASE_INSENSITIVE_ORDER"), (0, u "Ljava/util/Comparator;"), (181, u "valueOf"), (0, u "(C)Ljava/lang/String;"), (226, u "([C)V"), (4, .methodref 107 1016), (0, .nameAndType 1017 369), (0, u "canEncode"), (0, .methodref 107 1019), (0, .nameAndType 53 1020), (0, u "(C)[B"), (80, u "serialPersistentFields"), (0, u "[Ljava/io/ObjectStreamField;"), (0, .class_ 1104), (0, u "java/lang/String$CaseInsensitiveComparator"), (1, .class_ 1107), (0, u "java/io/Serializable"), (0, .class_ 1109), (0, u "java/lang/Comparable"), (0, .class_ 1111), (0, u "java/lang/constant/Constable"), (0, .class_ 1113), (0, u "java/lang/constant/ConstantDesc"), (2, u "serialVersionUID"), (0, u "J"), (3, u "REPL"), (0, u "C"), (2, u "LATIN1"), (1, u "UTF16")] 323

def k9m0 : Method := { name := "<init>", desc := "()V", sig := { parameters := [], returnType := none }, accessFlags := 1, code := none }
def k9c1 : Code := { maxStack := 5, maxLocals := 2, code := jdk_42_method_3_code, exceptionTable := #[], attributes := #[] }
def k9m1 : Method := { name := "<init>", desc := "([C)V", sig := { parameters := [(.array .char)], returnType := none }, accessFlags := 1, code := some k9c1 }
def k9c2 : Code := { maxStack := 4, maxLocals := 1, code := jdk_42_method_139_code, exceptionTable := #[], attributes := #[] }
def k9m2 : Method := { name := "valueOf", desc := "(C)Ljava/lang/String;", sig := { parameters := [.char], returnType := some (.object "java/lang/String") }, accessFlags := 9, code := some k9c2 }
def k9c3 : Code := { maxStack := 4, maxLocals := 6, code := jdk_42_method_149_code, exceptionTable := #[], attributes := #[] }
def k9m3 : Method := { name := "<init>", desc := "([CIILjava/lang/Void;)V", sig := { parameters := [(.array .char), .int, .int, (.object "java/lang/Void")], returnType := none }, accessFlags := 2, code := some k9c3 }
def k9c4 : Code := { maxStack := 2, maxLocals := 3, code := jdk_42_method_151_code, exceptionTable := #[], attributes := #[] }
def k9m4 : Method := { name := "<init>", desc := "([BB)V", sig := { parameters := [(.array .byte), .byte], returnType := none }, accessFlags := 0, code := some k9c4 }
/-- java/lang/String -/
def k9 : Class := { plain "java/lang/String" (some 0) with
  accessFlags := 49
  interfaces := #[4, 3, 7, 2, 8]
  cf := some (fileOf pool9 10 #[.nestMembers #[1103]] #[{ accessFlags := 1, nameIndex := 5, descriptorIndex := 6, attributes := #[] }, { accessFlags := 1, nameIndex := 5, descriptorIndex := 1010, attributes := #[] }, { accessFlags := 9, nameIndex := 782, descriptorIndex := 783, attributes := #[] }, { accessFlags := 2, nameIndex := 5, descriptorIndex := 29, attributes := #[] }, { accessFlags := 0, nameIndex := 5, descriptorIndex := 211, attributes := #[] }] 49 2 #[1106, 1108, 575, 1110, 1112] #[{ accessFlags := 18, nameIndex := 13, descriptorIndex := 14, attributes := #[] }, { accessFlags := 18, nameIndex := 17, descriptorIndex := 18, attributes := #[] }, { accessFlags := 2, nameIndex := 21, descriptorIndex := 22, attributes := #[] }, { accessFlags := 2, nameIndex := 25, descriptorIndex := 26, attributes := #[] }, { accessFlags := 26, nameIndex := 1116, descriptorIndex := 1117, attributes := #[] }, { accessFlags := 24, nameIndex := 40, descriptorIndex := 26, attributes := #[] }, { accessFlags := 26, nameIndex := 1101, descriptorIndex := 1102, attributes := #[] }, { accessFlags := 26, nameIndex := 1121, descriptorIndex := 1122, attributes := #[] }, { accessFlags := 25, nameIndex := 599, descriptorIndex := 600, attributes := #[] }, { accessFlags := 24, nameIndex := 1125, descriptorIndex := 18, attributes := #[] }, { accessFlags := 24, nameIndex := 1127, descriptorIndex := 18, attributes := #[] }])
  fields := #[{ name := "value", type := (.array .byte), accessFlags := 18, slot := 0, constantValue := 0 }, { name := "coder", type := .byte, accessFlags := 18, slot := 1, constantValue := 0 }, { name := "hash", type := .int, accessFlags := 2, slot := 2, constantValue := 0 }, { name := "hashIsZero", type := .boolean, accessFlags := 2, slot := 3, constantValue := 0 }, { name := "serialVersionUID", type := .long, accessFlags := 26, slot := 0, constantValue := 0 }, { name := "COMPACT_STRINGS", type := .boolean, accessFlags := 24, slot := 1, constantValue := 0 }, { name := "serialPersistentFields", type := (.array (.object "java/io/ObjectStreamField")), accessFlags := 26, slot := 2, constantValue := 0 }, { name := "REPL", type := .char, accessFlags := 26, slot := 3, constantValue := 0 }, { name := "CASE_INSENSITIVE_ORDER", type := (.object "java/util/Comparator"), accessFlags := 25, slot := 4, constantValue := 0 }, { name := "LATIN1", type := .byte, accessFlags := 24, slot := 5, constantValue := 0 }, { name := "UTF16", type := .byte, accessFlags := 24, slot := 6, constantValue := 0 }]
  methods := #[k9m0, k9m1, k9m2, k9m3, k9m4]
  instanceTypes := #[(.array .byte), .byte, .int, .boolean]
  staticTypes := #[.long, .boolean, (.array (.object "java/io/ObjectStreamField")), .char, (.object "java/util/Comparator"), .byte, .byte]
  resolved := Array.replicate 1451 none
  statics := some 1 }

def pool10 : Array CpInfo := pool [(4, .class_ 6), (1, u "java/lang/Object"), (0, u "<init>"), (0, u "()V"), (5, .class_ 16), (1, u "java/lang/StringLatin1"), (73, u "canEncode"), (14, u "(C)Z"), (15, u "$assertionsDisabled"), (0, u "Z"), (98, .class_ 223), (1, u "java/lang/StringLatin1$LinesSpliterator"), (156, u "toBytes"), (1, u "(C)[B"), (7, .class_ 391), (0, u "java/lang/StringLatin1$CharsSpliterator")] 3

def k10m0 : Method := { name := "<init>", desc := "()V", sig := { parameters := [], returnType := none }, accessFlags := 0, code := none }
def k10c1 : Code := { maxStack := 2, maxLocals := 1, code := jdk_43_method_3_code, exceptionTable := #[], attributes := #[] }
def k10m1 : Method := { name := "canEncode", desc := "(C)Z", sig := { parameters := [.char], returnType := some .boolean }, accessFlags := 9, code := some k10c1 }
def k10c2 : Code := { maxStack := 4, maxLocals := 1, code := jdk_43_method_46_code, exceptionTable := #[], attributes := #[] }
def k10m2 : Method := { name := "toBytes", desc := "(C)[B", sig := { parameters := [.char], returnType := some (.array .byte) }, accessFlags := 9, code := some k10c2 }
/-- java/lang/StringLatin1 -/
def k10 : Class := { plain "java/lang/StringLatin1" (some 0) with
  accessFlags := 48
  interfaces := #[]
  cf := some (fileOf pool10 14 #[.nestMembers #[390, 221]] #[{ accessFlags := 0, nameIndex := 7, descriptorIndex := 8, attributes := #[] }, { accessFlags := 9, nameIndex := 90, descriptorIndex := 105, attributes := #[] }, { accessFlags := 9, nameIndex := 380, descriptorIndex := 382, attributes := #[] }] 48 4 #[] #[{ accessFlags := 4120, nameIndex := 121, descriptorIndex := 122, attributes := #[] }])
  fields := #[{ name := "$assertionsDisabled", type := .boolean, accessFlags := 4120, slot := 0, constantValue := 0 }]
  methods := #[k10m0, k10m1, k10m2]
  instanceTypes := #[]
  staticTypes := #[.boolean]
  resolved := Array.replicate 395 none
  statics := none }

def pool11 : Array CpInfo := pool [(1, .methodref 2 3), (0, .class_ 4), (0, .nameAndType 5 6), (0, u "java/lang/Object"), (0, u "<init>"), (0, u "()V"), (0, .class_ 8), (0, u "java/lang/Record")] 13

def k11c0 : Code := { maxStack := 1, maxLocals := 1, code := jdk_30_method_1_code, exceptionTable := #[], attributes := #[] }
def k11m0 : Method := { name := "<init>", desc := "()V", sig := { parameters := [], returnType := none }, accessFlags := 4, code := some k11c0 }
/-- java/lang/Record -/
def k11 : Class := { plain "java/lang/Record" (some 0) with
  accessFlags := 1057
  interfaces := #[]
  cf := some (fileOf pool11 7 #[] #[{ accessFlags := 4, nameIndex := 5, descriptorIndex := 6, attributes := #[] }] 1057 2 #[] #[])
  fields := #[]
  methods := #[k11m0]
  instanceTypes := #[]
  staticTypes := #[]
  resolved := Array.replicate 22 none
  statics := none }

def pool12 : Array CpInfo := pool [(1, .methodref 2 3), (0, .class_ 4), (0, .nameAndType 5 6), (0, u "java/lang/Record"), (0, u "<init>"), (0, u "()V"), (0, .string 8), (0, u "kind"), (0, .methodref 10 11), (0, .class_ 12), (0, .nameAndType 13 14), (0, u "java/util/Objects"), (0, u "requireNonNull"), (0, u "(Ljava/lang/Object;Ljava/lang/String;)Ljava/lang/Object;"), (0, .string 16), (0, u "explanation"), (0, .fieldref 18 19), (0, .class_ 20), (0, .nameAndType 8 21), (0, u "com/example/overrule/overrule/model/Finding"), (0, u "Lcom/example/overrule/overrule/model/Finding$Kind;"), (0, .fieldref 18 23), (0, .nameAndType 16 24), (0, u "Ljava/lang/String;"), (0, .methodref 26 27), (0, .class_ 28), (0, .nameAndType 29 30), (0, u "com/example/overrule/overrule/model/Finding$Kind"), (0, u "severity"), (0, u "()Lcom/example/overrule/overrule/model/Finding$Severity;"), (0, .fieldref 32 33), (0, .class_ 34), (0, .nameAndType 35 36), (0, u "com/example/overrule/overrule/model/Finding$Severity"), (0, u "ERROR"), (0, u "Lcom/example/overrule/overrule/model/Finding$Severity;"), (21, u "(Lcom/example/overrule/overrule/model/Finding$Kind;Ljava/lang/String;)V"), (3, u "error"), (0, u "()Z")] 37

def k12c0 : Code := { maxStack := 2, maxLocals := 3, code := prog_10_method_1_code, exceptionTable := #[], attributes := #[] }
def k12m0 : Method := { name := "<init>", desc := "(Lcom/example/overrule/overrule/model/Finding$Kind;Ljava/lang/String;)V", sig := { parameters := [(.object "com/example/overrule/overrule/model/Finding$Kind"), (.object "java/lang/String")], returnType := none }, accessFlags := 1, code := some k12c0 }
def k12c1 : Code := { maxStack := 2, maxLocals := 1, code := prog_10_method_2_code, exceptionTable := #[], attributes := #[] }
def k12m1 : Method := { name := "error", desc := "()Z", sig := { parameters := [], returnType := some .boolean }, accessFlags := 1, code := some k12c1 }
/-- com/example/overrule/overrule/model/Finding -/
def k12 : Class := { plain "com/example/overrule/overrule/model/Finding" (some 11) with
  accessFlags := 49
  interfaces := #[]
  cf := some (fileOf pool12 18 #[.nestMembers #[26, 32]] #[{ accessFlags := 1, nameIndex := 5, descriptorIndex := 58, attributes := #[] }, { accessFlags := 1, nameIndex := 62, descriptorIndex := 63, attributes := #[] }] 49 2 #[] #[{ accessFlags := 18, nameIndex := 8, descriptorIndex := 21, attributes := #[] }, { accessFlags := 18, nameIndex := 16, descriptorIndex := 24, attributes := #[] }])
  fields := #[{ name := "kind", type := (.object "com/example/overrule/overrule/model/Finding$Kind"), accessFlags := 18, slot := 0, constantValue := 0 }, { name := "explanation", type := (.object "java/lang/String"), accessFlags := 18, slot := 1, constantValue := 0 }]
  methods := #[k12m0, k12m1]
  instanceTypes := #[(.object "com/example/overrule/overrule/model/Finding$Kind"), (.object "java/lang/String")]
  staticTypes := #[]
  resolved := Array.replicate 101 none
  statics := none }

def pool13 : Array CpInfo := pool [(2, .class_ 4), (1, u "java/lang/Object"), (0, u "<init>"), (0, u "()V"), (35, .class_ 44), (1, u "java/util/Objects"), (0, u "requireNonNull"), (48, u "(Ljava/lang/Object;Ljava/lang/String;)Ljava/lang/Object;")] 89

def k13m0 : Method := { name := "<init>", desc := "()V", sig := { parameters := [], returnType := none }, accessFlags := 2, code := none }
def k13c1 : Code := { maxStack := 3, maxLocals := 2, code := jdk_31_method_11_code, exceptionTable := #[], attributes := #[] }
def k13m1 : Method := { name := "requireNonNull", desc := "(Ljava/lang/Object;Ljava/lang/String;)Ljava/lang/Object;", sig := { parameters := [(.object "java/lang/Object"), (.object "java/lang/String")], returnType := some (.object "java/lang/Object") }, accessFlags := 9, code := some k13c1 }
/-- java/util/Objects -/
def k13 : Class := { plain "java/util/Objects" (some 0) with
  accessFlags := 49
  interfaces := #[]
  cf := some (fileOf pool13 42 #[] #[{ accessFlags := 2, nameIndex := 5, descriptorIndex := 6, attributes := #[] }, { accessFlags := 9, nameIndex := 45, descriptorIndex := 94, attributes := #[] }] 49 2 #[] #[])
  fields := #[]
  methods := #[k13m0, k13m1]
  instanceTypes := #[]
  staticTypes := #[]
  resolved := Array.replicate 184 none
  statics := none }

def pool14 : Array CpInfo := pool [(1, .class_ 2), (0, u "com/example/overrule/overrule/model/Finding$Severity"), (2, u "ERROR"), (0, u "Lcom/example/overrule/overrule/model/Finding$Severity;"), (2, u "WARNING"), (2, u "$VALUES"), (0, u "[Lcom/example/overrule/overrule/model/Finding$Severity;"), (6, .class_ 22), (1, u "java/lang/Enum"), (8, u "label"), (0, u "Ljava/lang/String;"), (27, .class_ 61), (0, u "com/example/overrule/overrule/model/Finding")] 2

/-- com/example/overrule/overrule/model/Finding$Severity -/
def k14 : Class := { plain "com/example/overrule/overrule/model/Finding$Severity" (some 5) with
  accessFlags := 16433
  interfaces := #[]
  cf := some (fileOf pool14 1 #[.nestHost 60] #[] 16433 20 #[] #[{ accessFlags := 16409, nameIndex := 5, descriptorIndex := 6, attributes := #[] }, { accessFlags := 16409, nameIndex := 9, descriptorIndex := 6, attributes := #[] }, { accessFlags := 18, nameIndex := 31, descriptorIndex := 32, attributes := #[] }, { accessFlags := 4122, nameIndex := 12, descriptorIndex := 13, attributes := #[] }])
  fields := #[{ name := "ERROR", type := (.object "com/example/overrule/overrule/model/Finding$Severity"), accessFlags := 16409, slot := 0, constantValue := 0 }, { name := "WARNING", type := (.object "com/example/overrule/overrule/model/Finding$Severity"), accessFlags := 16409, slot := 1, constantValue := 0 }, { name := "label", type := (.object "java/lang/String"), accessFlags := 18, slot := 3, constantValue := 0 }, { name := "$VALUES", type := (.array (.object "com/example/overrule/overrule/model/Finding$Severity")), accessFlags := 4122, slot := 2, constantValue := 0 }]
  methods := #[]
  instanceTypes := #[(.object "java/lang/String"), .int, .int, (.object "java/lang/String")]
  staticTypes := #[(.object "com/example/overrule/overrule/model/Finding$Severity"), (.object "com/example/overrule/overrule/model/Finding$Severity"), (.array (.object "com/example/overrule/overrule/model/Finding$Severity"))]
  resolved := Array.replicate 64 none
  statics := some 2 }

def pool15 : Array CpInfo := pool [(6, .class_ 8), (1, u "java/lang/Object"), (0, u "<init>"), (0, u "()V"), (1, .class_ 14), (1, u "java/lang/StringUTF16"), (31, u "$assertionsDisabled"), (0, u "Z"), (13, u "HI_BYTE_SHIFT"), (0, u "I"), (2, u "LO_BYTE_SHIFT"), (49, .methodref 12 116), (0, .nameAndType 117 118), (0, u "compress"), (0, u "([CI[BII)I"), (3, u "([CII)[B"), (138, u "coderFromArrayLen"), (0, u "([BI)B"), (106, .class_ 371), (1, u "java/lang/StringUTF16$LinesSpliterator"), (58, u "MAX_LENGTH"), (196, .class_ 628), (0, u "java/lang/StringUTF16$CodePointsSpliterator"), (0, .class_ 630), (0, u "java/lang/StringUTF16$CharsSpliterator")] 4

def k15m0 : Method := { name := "<init>", desc := "()V", sig := { parameters := [], returnType := none }, accessFlags := 0, code := none }
def k15c1 : Code := { maxStack := 2, maxLocals := 2, code := jdk_52_method_15_code, exceptionTable := #[], attributes := #[] }
def k15m1 : Method := { name := "coderFromArrayLen", desc := "([BI)B", sig := { parameters := [(.array .byte), .int], returnType := some .byte }, accessFlags := 8, code := some k15c1 }
def k15c2 : Code := { maxStack := 5, maxLocals := 6, code := jdk_52_method_16_code, exceptionTable := #[], attributes := #[] }
def k15m2 : Method := { name := "compress", desc := "([CII)[B", sig := { parameters := [(.array .char), .int, .int], returnType := some (.array .byte) }, accessFlags := 9, code := some k15c2 }
def k15c3 : Code := { maxStack := 3, maxLocals := 7, code := jdk_52_method_21_code, exceptionTable := #[], attributes := #[] }
def k15m3 : Method := { name := "compress", desc := "([CI[BII)I", sig := { parameters := [(.array .char), .int, (.array .byte), .int, .int], returnType := some .int }, accessFlags := 9, code := some k15c3 }
/-- java/lang/StringUTF16 -/
def k15 : Class := { plain "java/lang/StringUTF16" (some 0) with
  accessFlags := 48
  interfaces := #[]
  cf := some (fileOf pool15 12 #[.nestMembers #[627, 629, 369]] #[{ accessFlags := 0, nameIndex := 9, descriptorIndex := 10, attributes := #[] }, { accessFlags := 8, nameIndex := 261, descriptorIndex := 262, attributes := #[] }, { accessFlags := 9, nameIndex := 117, descriptorIndex := 122, attributes := #[] }, { accessFlags := 9, nameIndex := 117, descriptorIndex := 118, attributes := #[] }] 48 6 #[] #[{ accessFlags := 26, nameIndex := 61, descriptorIndex := 62, attributes := #[] }, { accessFlags := 26, nameIndex := 65, descriptorIndex := 62, attributes := #[] }, { accessFlags := 24, nameIndex := 430, descriptorIndex := 62, attributes := #[] }, { accessFlags := 4120, nameIndex := 46, descriptorIndex := 47, attributes := #[] }])
  fields := #[{ name := "HI_BYTE_SHIFT", type := .int, accessFlags := 26, slot := 0, constantValue := 0 }, { name := "LO_BYTE_SHIFT", type := .int, accessFlags := 26, slot := 1, constantValue := 0 }, { name := "MAX_LENGTH", type := .int, accessFlags := 24, slot := 2, constantValue := 0 }, { name := "$assertionsDisabled", type := .boolean, accessFlags := 4120, slot := 3, constantValue := 0 }]
  methods := #[k15m0, k15m1, k15m2, k15m3]
  instanceTypes := #[]
  staticTypes := #[.int, .int, .int, .boolean]
  resolved := Array.replicate 635 none
  statics := none }

def pool16 : Array CpInfo := pool [(2, .class_ 4), (1, u "java/lang/Object"), (0, u "<init>"), (0, u "()V"), (17, .class_ 26), (1, u "jdk/internal/util/Preconditions"), (28, .class_ 56), (0, u "jdk/internal/util/Preconditions$4"), (57, .class_ 115), (0, u "jdk/internal/util/Preconditions$1"), (7, u "SIOOBE_FORMATTER"), (0, u "Ljava/util/function/BiFunction;"), (0, .class_ 126), (0, u "jdk/internal/util/Preconditions$2"), (3, u "AIOOBE_FORMATTER"), (0, .class_ 132), (0, u "jdk/internal/util/Preconditions$3"), (3, u "IOOBE_FORMATTER")] 57

def k16m0 : Method := { name := "<init>", desc := "()V", sig := { parameters := [], returnType := none }, accessFlags := 1, code := none }
/-- jdk/internal/util/Preconditions -/
def k16 : Class := { plain "jdk/internal/util/Preconditions" (some 0) with
  accessFlags := 33
  interfaces := #[]
  cf := some (fileOf pool16 24 #[.nestMembers #[55, 131, 125, 114]] #[{ accessFlags := 1, nameIndex := 5, descriptorIndex := 6, attributes := #[] }] 33 2 #[] #[{ accessFlags := 25, nameIndex := 123, descriptorIndex := 124, attributes := #[] }, { accessFlags := 25, nameIndex := 130, descriptorIndex := 124, attributes := #[] }, { accessFlags := 25, nameIndex := 136, descriptorIndex := 124, attributes := #[] }])
  fields := #[{ name := "SIOOBE_FORMATTER", type := (.object "java/util/function/BiFunction"), accessFlags := 25, slot := 0, constantValue := 0 }, { name := "AIOOBE_FORMATTER", type := (.object "java/util/function/BiFunction"), accessFlags := 25, slot := 1, constantValue := 0 }, { name := "IOOBE_FORMATTER", type := (.object "java/util/function/BiFunction"), accessFlags := 25, slot := 2, constantValue := 0 }]
  methods := #[k16m0]
  instanceTypes := #[]
  staticTypes := #[(.object "java/util/function/BiFunction"), (.object "java/util/function/BiFunction"), (.object "java/util/function/BiFunction")]
  resolved := Array.replicate 194 none
  statics := some 3 }

def pool17 : Array CpInfo := pool [(9, u "<init>"), (6, .class_ 18), (1, u "java/lang/Object"), (0, u "()V"), (1, .class_ 23), (1, u "jdk/internal/util/ArraysSupport"), (0, u "LOG2_ARRAY_LONG_INDEX_SCALE"), (0, u "I"), (2, u "U"), (0, u "Ljdk/internal/misc/Unsafe;"), (8, u "BIG_ENDIAN"), (0, u "Z"), (8, u "LOG2_BYTE_BIT_SIZE"), (4, u "LOG2_ARRAY_INT_INDEX_SCALE"), (54, u "JLA"), (0, u "Ljdk/internal/access/JavaLangAccess;"), (11, u "LOG2_ARRAY_BOOLEAN_INDEX_SCALE"), (9, u "LOG2_ARRAY_BYTE_INDEX_SCALE"), (5, u "LOG2_ARRAY_CHAR_INDEX_SCALE"), (5, u "LOG2_ARRAY_SHORT_INDEX_SCALE"), (18, u "LOG2_ARRAY_FLOAT_INDEX_SCALE"), (24, u "LOG2_ARRAY_DOUBLE_INDEX_SCALE"), (89, u "T_BOOLEAN"), (2, u "T_CHAR"), (1, u "T_FLOAT"), (1, u "T_DOUBLE"), (1, u "T_BYTE"), (1, u "T_SHORT"), (1, u "T_INT"), (1, u "T_LONG"), (1, u "SOFT_MAX_ARRAY_LENGTH")] 83

def k17m0 : Method := { name := "<init>", desc := "()V", sig := { parameters := [], returnType := none }, accessFlags := 2, code := none }
/-- jdk/internal/util/ArraysSupport -/
def k17 : Class := { plain "jdk/internal/util/ArraysSupport" (some 0) with
  accessFlags := 33
  interfaces := #[]
  cf := some (fileOf pool17 21 #[] #[{ accessFlags := 2, nameIndex := 9, descriptorIndex := 19, attributes := #[] }] 33 16 #[] #[{ accessFlags := 24, nameIndex := 28, descriptorIndex := 29, attributes := #[] }, { accessFlags := 26, nameIndex := 38, descriptorIndex := 39, attributes := #[] }, { accessFlags := 25, nameIndex := 121, descriptorIndex := 25, attributes := #[] }, { accessFlags := 25, nameIndex := 131, descriptorIndex := 25, attributes := #[] }, { accessFlags := 25, nameIndex := 137, descriptorIndex := 25, attributes := #[] }, { accessFlags := 25, nameIndex := 143, descriptorIndex := 25, attributes := #[] }, { accessFlags := 25, nameIndex := 53, descriptorIndex := 25, attributes := #[] }, { accessFlags := 25, nameIndex := 24, descriptorIndex := 25, attributes := #[] }, { accessFlags := 25, nameIndex := 162, descriptorIndex := 25, attributes := #[] }, { accessFlags := 25, nameIndex := 187, descriptorIndex := 25, attributes := #[] }, { accessFlags := 26, nameIndex := 48, descriptorIndex := 25, attributes := #[] }, { accessFlags := 25, nameIndex := 277, descriptorIndex := 25, attributes := #[] }, { accessFlags := 25, nameIndex := 280, descriptorIndex := 25, attributes := #[] }, { accessFlags := 25, nameIndex := 282, descriptorIndex := 25, attributes := #[] }, { accessFlags := 25, nameIndex := 284, descriptorIndex := 25, attributes := #[] }, { accessFlags := 25, nameIndex := 286, descriptorIndex := 25, attributes := #[] }, { accessFlags := 25, nameIndex := 288, descriptorIndex := 25, attributes := #[] }, { accessFlags := 25, nameIndex := 290, descriptorIndex := 25, attributes := #[] }, { accessFlags := 25, nameIndex := 292, descriptorIndex := 25, attributes := #[] }, { accessFlags := 26, nameIndex := 108, descriptorIndex := 109, attributes := #[] }, { accessFlags := 25, nameIndex := 294, descriptorIndex := 25, attributes := #[] }])
  fields := #[{ name := "U", type := (.object "jdk/internal/misc/Unsafe"), accessFlags := 24, slot := 0, constantValue := 0 }, { name := "BIG_ENDIAN", type := .boolean, accessFlags := 26, slot := 1, constantValue := 0 }, { name := "LOG2_ARRAY_BOOLEAN_INDEX_SCALE", type := .int, accessFlags := 25, slot := 2, constantValue := 0 }, { name := "LOG2_ARRAY_BYTE_INDEX_SCALE", type := .int, accessFlags := 25, slot := 3, constantValue := 0 }, { name := "LOG2_ARRAY_CHAR_INDEX_SCALE", type := .int, accessFlags := 25, slot := 4, constantValue := 0 }, { name := "LOG2_ARRAY_SHORT_INDEX_SCALE", type := .int, accessFlags := 25, slot := 5, constantValue := 0 }, { name := "LOG2_ARRAY_INT_INDEX_SCALE", type := .int, accessFlags := 25, slot := 6, constantValue := 0 }, { name := "LOG2_ARRAY_LONG_INDEX_SCALE", type := .int, accessFlags := 25, slot := 7, constantValue := 0 }, { name := "LOG2_ARRAY_FLOAT_INDEX_SCALE", type := .int, accessFlags := 25, slot := 8, constantValue := 0 }, { name := "LOG2_ARRAY_DOUBLE_INDEX_SCALE", type := .int, accessFlags := 25, slot := 9, constantValue := 0 }, { name := "LOG2_BYTE_BIT_SIZE", type := .int, accessFlags := 26, slot := 10, constantValue := 0 }, { name := "T_BOOLEAN", type := .int, accessFlags := 25, slot := 11, constantValue := 0 }, { name := "T_CHAR", type := .int, accessFlags := 25, slot := 12, constantValue := 0 }, { name := "T_FLOAT", type := .int, accessFlags := 25, slot := 13, constantValue := 0 }, { name := "T_DOUBLE", type := .int, accessFlags := 25, slot := 14, constantValue := 0 }, { name := "T_BYTE", type := .int, accessFlags := 25, slot := 15, constantValue := 0 }, { name := "T_SHORT", type := .int, accessFlags := 25, slot := 16, constantValue := 0 }, { name := "T_INT", type := .int, accessFlags := 25, slot := 17, constantValue := 0 }, { name := "T_LONG", type := .int, accessFlags := 25, slot := 18, constantValue := 0 }, { name := "JLA", type := (.object "jdk/internal/access/JavaLangAccess"), accessFlags := 26, slot := 19, constantValue := 0 }, { name := "SOFT_MAX_ARRAY_LENGTH", type := .int, accessFlags := 25, slot := 20, constantValue := 0 }]
  methods := #[k17m0]
  instanceTypes := #[]
  staticTypes := #[(.object "jdk/internal/misc/Unsafe"), .boolean, .int, .int, .int, .int, .int, .int, .int, .int, .int, .int, .int, .int, .int, .int, .int, .int, .int, (.object "jdk/internal/access/JavaLangAccess"), .int]
  resolved := Array.replicate 378 none
  statics := none }

def pool18 : Array CpInfo := pool [(1, u "java/lang/Cloneable"), (0, .class_ 1), (0, u "java/lang/Object"), (0, .class_ 3)] 3

/-- java/lang/Cloneable -/
def k18 : Class := { plain "java/lang/Cloneable" (some 0) with
  accessFlags := 1537
  interfaces := #[]
  cf := some (fileOf pool18 2 #[] #[] 1537 4 #[] #[])
  fields := #[]
  methods := #[]
  instanceTypes := #[]
  staticTypes := #[]
  resolved := Array.replicate 8 none
  statics := none }

/-- the primitive byte -/
def k19 : Class := { plain "byte" none with kind := .primitive 'B', accessFlags := 0x411 }
/-- [B -/
def k20 : Class := { plain "[B" (some 0) with kind := .array 19 .byte, interfaces := #[18, 4], accessFlags := 1041 }

/-- the primitive char -/
def k21 : Class := { plain "char" none with kind := .primitive 'C', accessFlags := 0x411 }
/-- [C -/
def k22 : Class := { plain "[C" (some 0) with kind := .array 21 .char, interfaces := #[18, 4], accessFlags := 1041 }

/-- the primitive int -/
def k23 : Class := { plain "int" none with kind := .primitive 'I', accessFlags := 0x411 }
/-- [I -/
def k24 : Class := { plain "[I" (some 0) with kind := .array 23 .int, interfaces := #[18, 4], accessFlags := 1041 }

def heap : Heap := #[{ cls := 6, slots := #[.ref 6, .ref 7, .ref 8, .ref 9, .null], vm := .statics 6 },
  { cls := 9, slots := #[.long 0, .int 1, .null, .int 0, .null, .int 0, .int 0], vm := .statics 9 },
  { cls := 14, slots := #[.ref 4, .ref 5, .null], vm := .statics 14 },
  { cls := 16, slots := #[.null, .null, .null], vm := .statics 16 },
  { cls := 14, slots := #[.null, .int 0, .int 0, .null], vm := .none },
  { cls := 14, slots := #[.null, .int 1, .int 0, .null], vm := .none },
  { cls := 6, slots := #[.null, .int 0, .int 0, .null, .ref 4], vm := .none },
  { cls := 6, slots := #[.null, .int 1, .int 0, .null, .ref 4], vm := .none },
  { cls := 6, slots := #[.null, .int 2, .int 0, .null, .ref 5], vm := .none },
  { cls := 6, slots := #[.null, .int 3, .int 0, .null, .ref 5], vm := .none }]
def classes : Array Class := #[k0, k1, k2, k3, k4, k5, k6, k7, k8, k9, k10, k11, k12, k13, k14, k15, k16, k17, k18, k19, k20, k21, k22, k23, k24]
def interned : List (Array UInt16 × Addr) := []
def slotsUsed : Nat := 46
def theMethod : MethodId := ⟨1, 1⟩
def args0 : Array Value := #[.int 5, .int 5, .int 5]
def aboutOver (below : List Frame) : State where
  vm := { classes := classes, interned := interned.toArray }
  heap := heap
  slotsUsed := slotsUsed
  threads := #[{ frames := .invoking theMethod args0 :: below }]
def below0 : List Frame := [.native { method := ⟨0, 0⟩, args := #[] }]
def about1 : State := aboutOver below0
def p0 : Program := .bare "" "" ""
def e0 : Env := launch0.env 0 0 0
theorem w_frames : about1.frames = Frame.invoking theMethod args0 :: below0 := rfl
set_option maxRecDepth 65536 in
theorem w_args : argsFit about1.vm theMethod args0 = true := by decide +kernel
set_option maxRecDepth 65536 in
theorem w_heap : heapFits about1 = true := by decide +kernel
set_option maxRecDepth 65536 in
theorem w_runnable : about1.curStatus? = some .runnable := by decide +kernel
set_option maxRecDepth 65536 in
theorem w_alone : about1.alone = true := by decide +kernel
set_option maxRecDepth 65536 in
theorem w_named : about1.methodNamed? x = some theMethod := by decide +kernel
set_option maxRecDepth 65536 in
theorem w_hears : about1.hears theMethod below0 = true := by decide +kernel
set_option maxRecDepth 65536 in
theorem w_ripe : about1.ripe theMethod args0 below0 = true := by decide +kernel
theorem w_running : about1.status = .running := rfl
set_option maxRecDepth 65536 in
theorem w_room : about1.hasRoom e0.platform room_1 = true :=
  launch0.hasRoom_least _ room_1 (by decide +kernel) (by decide +kernel) (by decide +kernel) (by decide +kernel) (by decide +kernel) (by decide +kernel)
theorem allAtoms_all (ts : List Jvm.Cond) (a : Array Jvm.Value) (st : Jvm.State) : (allAtoms ts).before a st = ts.all (fun c => c.before a st) := by
  induction ts with
  | nil => rfl
  | cons c t ih =>
    show (Jvm.Cond.and c (allAtoms t)).before a st = _
    rw [Jvm.Cond.before_and, ih, List.all_cons]
def words1 : List Jvm.Cond := Jvm.Cond.code x code maxLocals ret :: tables_1
/-- a 'code' word, met by the world's own term for the bytes: nothing is compared byte by byte -/
theorem code_word {y : MethodName} {bytes : ByteArray} {mx : Nat} {rt : Option FieldType} {a : Array Value} {s : State} {m : MethodId} {meth : Method} {c : Code} (h1 : s.methodNamed? y = some m) (h2 : s.vm.method? m = some meth) (h3 : meth.code = some c) (h4 : c.code = bytes)
    (h5 : (c.maxLocals == mx && c.exceptionTable.isEmpty && decide (c.maxStack ≤ mostOperands) && decide (meth.sig.returnType = rt) && !meth.locks && decide (parseMethodDescriptor y.desc = some meth.sig)) = true) : (Jvm.Cond.code y bytes mx rt).before a s = true := by
  simp only [Bool.and_eq_true, beq_iff_eq, Bool.not_eq_true', decide_eq_true_eq] at h5
  obtain ⟨⟨⟨⟨⟨g1, g2⟩, g3⟩, g4⟩, g5⟩, g6⟩ := h5
  simp [Cond.before, Cond.holds, Cond.value, h1, h2, h3, h4, g1, g2, g3, g4, g5, g6]
def isCode : Jvm.Cond → Bool
  | .code _ _ _ _ => true
  | _ => false
theorem all_split {L : List Jvm.Cond} {P : Jvm.Cond → Bool} (h1 : L.all (fun c => isCode c || P c) = true) (h2 : ∀ c ∈ L.filter isCode, P c = true) : L.all P = true := by
  refine List.all_eq_true.mpr fun c hc => ?_
  have h := List.all_eq_true.mp h1 c hc
  rcases Bool.eq_false_or_eq_true (isCode c) with hi | hi
  · exact h2 c (List.mem_filter.mpr ⟨hc, hi⟩)
  · simpa [hi] using h
set_option maxRecDepth 65536 in
theorem w_c0 : (Jvm.Cond.code x code maxLocals ret).before args0 about1 = true := code_word (m := ⟨1, 1⟩) (meth := k1m1) (c := k1c1) (by decide +kernel) rfl rfl rfl (by decide +kernel)
set_option maxRecDepth 65536 in
theorem w_c1 : (Jvm.Cond.code ({ cls := "java/lang/String", name := "valueOf", desc := "(C)Ljava/lang/String;" } : Jvm.MethodName) jdk_42_method_139_code (1 : Nat) (Option.some (Jvm.ClassFile.FieldType.object "java/lang/String"))).before args0 about1 = true := code_word (m := ⟨9, 2⟩) (meth := k9m2) (c := k9c2) (by decide +kernel) rfl rfl rfl (by decide +kernel)
set_option maxRecDepth 65536 in
theorem w_c2 : (Jvm.Cond.code ({ cls := "java/lang/StringLatin1", name := "canEncode", desc := "(C)Z" } : Jvm.MethodName) jdk_43_method_3_code (1 : Nat) (Option.some Jvm.ClassFile.FieldType.boolean)).before args0 about1 = true := code_word (m := ⟨10, 1⟩) (meth := k10m1) (c := k10c1) (by decide +kernel) rfl rfl rfl (by decide +kernel)
set_option maxRecDepth 65536 in
theorem w_c3 : (Jvm.Cond.code ({ cls := "java/lang/StringLatin1", name := "toBytes", desc := "(C)[B" } : Jvm.MethodName) jdk_43_method_46_code (1 : Nat) (Option.some (Jvm.ClassFile.FieldType.array Jvm.ClassFile.FieldType.byte))).before args0 about1 = true := code_word (m := ⟨10, 2⟩) (meth := k10m2) (c := k10c2) (by decide +kernel) rfl rfl rfl (by decide +kernel)
set_option maxRecDepth 65536 in
theorem w_c4 : (Jvm.Cond.code ({ cls := "java/lang/String", name := "<init>", desc := "([BB)V" } : Jvm.MethodName) jdk_42_method_151_code (3 : Nat) (Option.none : Option Jvm.ClassFile.FieldType)).before args0 about1 = true := code_word (m := ⟨9, 4⟩) (meth := k9m4) (c := k9c4) (by decide +kernel) rfl rfl rfl (by decide +kernel)
set_option maxRecDepth 65536 in
theorem w_c5 : (Jvm.Cond.code ({ cls := "java/lang/Object", name := "<init>", desc := "()V" } : Jvm.MethodName) object_method_1_code (1 : Nat) (Option.none : Option Jvm.ClassFile.FieldType)).before args0 about1 = true := code_word (m := ⟨0, 0⟩) (meth := k0m0) (c := k0c0) (by decide +kernel) rfl rfl rfl (by decide +kernel)
set_option maxRecDepth 65536 in
theorem w_c6 : (Jvm.Cond.code ({ cls := "com/example/overrule/overrule/model/Finding", name := "<init>", desc := "(Lcom/example/overrule/overrule/model/Finding$Kind;Ljava/lang/String;)V" } : Jvm.MethodName) prog_10_method_1_code (3 : Nat) (Option.none : Option Jvm.ClassFile.FieldType)).before args0 about1 = true := code_word (m := ⟨12, 0⟩) (meth := k12m0) (c := k12c0) (by decide +kernel) rfl rfl rfl (by decide +kernel)
set_option maxRecDepth 65536 in
theorem w_c7 : (Jvm.Cond.code ({ cls := "java/lang/Record", name := "<init>", desc := "()V" } : Jvm.MethodName) jdk_30_method_1_code (1 : Nat) (Option.none : Option Jvm.ClassFile.FieldType)).before args0 about1 = true := code_word (m := ⟨11, 0⟩) (meth := k11m0) (c := k11c0) (by decide +kernel) rfl rfl rfl (by decide +kernel)
set_option maxRecDepth 65536 in
theorem w_c8 : (Jvm.Cond.code ({ cls := "java/util/Objects", name := "requireNonNull", desc := "(Ljava/lang/Object;Ljava/lang/String;)Ljava/lang/Object;" } : Jvm.MethodName) jdk_31_method_11_code (2 : Nat) (Option.some (Jvm.ClassFile.FieldType.object "java/lang/Object"))).before args0 about1 = true := code_word (m := ⟨13, 1⟩) (meth := k13m1) (c := k13c1) (by decide +kernel) rfl rfl rfl (by decide +kernel)
set_option maxRecDepth 65536 in
theorem w_c9 : (Jvm.Cond.code ({ cls := "com/example/overrule/overrule/model/Finding", name := "error", desc := "()Z" } : Jvm.MethodName) prog_10_method_2_code (1 : Nat) (Option.some Jvm.ClassFile.FieldType.boolean)).before args0 about1 = true := code_word (m := ⟨12, 1⟩) (meth := k12m1) (c := k12c1) (by decide +kernel) rfl rfl rfl (by decide +kernel)
set_option maxRecDepth 65536 in
theorem w_c10 : (Jvm.Cond.code ({ cls := "com/example/overrule/overrule/model/Finding$Kind", name := "severity", desc := "()Lcom/example/overrule/overrule/model/Finding$Severity;" } : Jvm.MethodName) prog_11_method_5_code (1 : Nat) (Option.some (Jvm.ClassFile.FieldType.object "com/example/overrule/overrule/model/Finding$Severity"))).before args0 about1 = true := code_word (m := ⟨6, 0⟩) (meth := k6m0) (c := k6c0) (by decide +kernel) rfl rfl rfl (by decide +kernel)
set_option maxRecDepth 65536 in
theorem w_c11 : (Jvm.Cond.code ({ cls := "java/lang/String", name := "<init>", desc := "([C)V" } : Jvm.MethodName) jdk_42_method_3_code (2 : Nat) (Option.none : Option Jvm.ClassFile.FieldType)).before args0 about1 = true := code_word (m := ⟨9, 1⟩) (meth := k9m1) (c := k9c1) (by decide +kernel) rfl rfl rfl (by decide +kernel)
set_option maxRecDepth 65536 in
theorem w_c12 : (Jvm.Cond.code ({ cls := "java/lang/String", name := "<init>", desc := "([CIILjava/lang/Void;)V" } : Jvm.MethodName) jdk_42_method_149_code (6 : Nat) (Option.none : Option Jvm.ClassFile.FieldType)).before args0 about1 = true := code_word (m := ⟨9, 3⟩) (meth := k9m3) (c := k9c3) (by decide +kernel) rfl rfl rfl (by decide +kernel)
set_option maxRecDepth 65536 in
theorem w_c13 : (Jvm.Cond.code ({ cls := "java/lang/StringUTF16", name := "compress", desc := "([CII)[B" } : Jvm.MethodName) jdk_52_method_16_code (6 : Nat) (Option.some (Jvm.ClassFile.FieldType.array Jvm.ClassFile.FieldType.byte))).before args0 about1 = true := code_word (m := ⟨15, 2⟩) (meth := k15m2) (c := k15c2) (by decide +kernel) rfl rfl rfl (by decide +kernel)
set_option maxRecDepth 65536 in
theorem w_c14 : (Jvm.Cond.code ({ cls := "java/lang/StringUTF16", name := "compress", desc := "([CI[BII)I" } : Jvm.MethodName) jdk_52_method_21_code (7 : Nat) (Option.some Jvm.ClassFile.FieldType.int)).before args0 about1 = true := code_word (m := ⟨15, 3⟩) (meth := k15m3) (c := k15c3) (by decide +kernel) rfl rfl rfl (by decide +kernel)
set_option maxRecDepth 65536 in
theorem w_c15 : (Jvm.Cond.code ({ cls := "java/lang/StringUTF16", name := "coderFromArrayLen", desc := "([BI)B" } : Jvm.MethodName) jdk_52_method_15_code (2 : Nat) (Option.some Jvm.ClassFile.FieldType.byte)).before args0 about1 = true := code_word (m := ⟨15, 1⟩) (meth := k15m1) (c := k15c1) (by decide +kernel) rfl rfl rfl (by decide +kernel)
def codes1 : List Jvm.Cond := [Jvm.Cond.code x code maxLocals ret, Jvm.Cond.code ({ cls := "java/lang/String", name := "valueOf", desc := "(C)Ljava/lang/String;" } : Jvm.MethodName) jdk_42_method_139_code (1 : Nat) (Option.some (Jvm.ClassFile.FieldType.object "java/lang/String")), Jvm.Cond.code ({ cls := "java/lang/StringLatin1", name := "canEncode", desc := "(C)Z" } : Jvm.MethodName) jdk_43_method_3_code (1 : Nat) (Option.some Jvm.ClassFile.FieldType.boolean), Jvm.Cond.code ({ cls := "java/lang/StringLatin1", name := "toBytes", desc := "(C)[B" } : Jvm.MethodName) jdk_43_method_46_code (1 : Nat) (Option.some (Jvm.ClassFile.FieldType.array Jvm.ClassFile.FieldType.byte)), Jvm.Cond.code ({ cls := "java/lang/String", name := "<init>", desc := "([BB)V" } : Jvm.MethodName) jdk_42_method_151_code (3 : Nat) (Option.none : Option Jvm.ClassFile.FieldType), Jvm.Cond.code ({ cls := "java/lang/Object", name := "<init>", desc := "()V" } : Jvm.MethodName) object_method_1_code (1 : Nat) (Option.none : Option Jvm.ClassFile.FieldType), Jvm.Cond.code ({ cls := "com/example/overrule/overrule/model/Finding", name := "<init>", desc := "(Lcom/example/overrule/overrule/model/Finding$Kind;Ljava/lang/String;)V" } : Jvm.MethodName) prog_10_method_1_code (3 : Nat) (Option.none : Option Jvm.ClassFile.FieldType), Jvm.Cond.code ({ cls := "java/lang/Record", name := "<init>", desc := "()V" } : Jvm.MethodName) jdk_30_method_1_code (1 : Nat) (Option.none : Option Jvm.ClassFile.FieldType), Jvm.Cond.code ({ cls := "java/util/Objects", name := "requireNonNull", desc := "(Ljava/lang/Object;Ljava/lang/String;)Ljava/lang/Object;" } : Jvm.MethodName) jdk_31_method_11_code (2 : Nat) (Option.some (Jvm.ClassFile.FieldType.object "java/lang/Object")), Jvm.Cond.code ({ cls := "com/example/overrule/overrule/model/Finding", name := "error", desc := "()Z" } : Jvm.MethodName) prog_10_method_2_code (1 : Nat) (Option.some Jvm.ClassFile.FieldType.boolean), Jvm.Cond.code ({ cls := "com/example/overrule/overrule/model/Finding$Kind", name := "severity", desc := "()Lcom/example/overrule/overrule/model/Finding$Severity;" } : Jvm.MethodName) prog_11_method_5_code (1 : Nat) (Option.some (Jvm.ClassFile.FieldType.object "com/example/overrule/overrule/model/Finding$Severity")), Jvm.Cond.code ({ cls := "java/lang/String", name := "<init>", desc := "([C)V" } : Jvm.MethodName) jdk_42_method_3_code (2 : Nat) (Option.none : Option Jvm.ClassFile.FieldType), Jvm.Cond.code ({ cls := "java/lang/String", name := "<init>", desc := "([CIILjava/lang/Void;)V" } : Jvm.MethodName) jdk_42_method_149_code (6 : Nat) (Option.none : Option Jvm.ClassFile.FieldType), Jvm.Cond.code ({ cls := "java/lang/StringUTF16", name := "compress", desc := "([CII)[B" } : Jvm.MethodName) jdk_52_method_16_code (6 : Nat) (Option.some (Jvm.ClassFile.FieldType.array Jvm.ClassFile.FieldType.byte)), Jvm.Cond.code ({ cls := "java/lang/StringUTF16", name := "compress", desc := "([CI[BII)I" } : Jvm.MethodName) jdk_52_method_21_code (7 : Nat) (Option.some Jvm.ClassFile.FieldType.int), Jvm.Cond.code ({ cls := "java/lang/StringUTF16", name := "coderFromArrayLen", desc := "([BI)B" } : Jvm.MethodName) jdk_52_method_15_code (2 : Nat) (Option.some Jvm.ClassFile.FieldType.byte)]
set_option maxRecDepth 65536 in
theorem codes_eq : words1.filter isCode = codes1 := rfl
theorem w_codes : ∀ c ∈ words1.filter isCode, c.before args0 about1 = true := by
  rw [codes_eq]
  intro c hc
  simp only [codes1, List.mem_cons, List.not_mem_nil, or_false] at hc
  rcases hc with rfl | rfl | rfl | rfl | rfl | rfl | rfl | rfl | rfl | rfl | rfl | rfl | rfl | rfl | rfl | rfl
  · exact w_c0
  · exact w_c1
  · exact w_c2
  · exact w_c3
  · exact w_c4
  · exact w_c5
  · exact w_c6
  · exact w_c7
  · exact w_c8
  · exact w_c9
  · exact w_c10
  · exact w_c11
  · exact w_c12
  · exact w_c13
  · exact w_c14
  · exact w_c15
set_option maxRecDepth 65536 in
theorem w_t1 : (words1.take 24).all (fun c => isCode c || c.before args0 about1) = true := by decide +kernel
set_option maxRecDepth 65536 in
theorem w_t2 : ((words1.drop 24).take 24).all (fun c => isCode c || c.before args0 about1) = true := by decide +kernel
set_option maxRecDepth 65536 in
theorem w_t3 : (((words1.drop 24).drop 24).take 24).all (fun c => isCode c || c.before args0 about1) = true := by decide +kernel
set_option maxRecDepth 65536 in
theorem w_t4 : (((words1.drop 24).drop 24).drop 24).all (fun c => isCode c || c.before args0 about1) = true := by decide +kernel
theorem w_tables : (allAtoms (Jvm.Cond.code x code maxLocals ret :: tables_1)).before args0 about1 = true := by
  rw [allAtoms_all]
  show words1.all (fun c => c.before args0 about1) = true
  refine all_split ?_ w_codes
  rw [← List.take_append_drop 24 words1, List.all_append, w_t1, ← List.take_append_drop 24 (words1.drop 24), List.all_append, w_t2, ← List.take_append_drop 24 ((words1.drop 24).drop 24), List.all_append, w_t3, w_t4]
  rfl
set_option maxRecDepth 65536 in
theorem w_rest : rest_1_c.before args0 about1 = true := by decide +kernel
set_option maxRecDepth 65536 in
theorem w_case : (Jvm.Cond.and given_1 narrow_1).before args0 about1 = true := by decide +kernel
theorem w_applies : (headSpec (Jvm.Cond.code x code maxLocals ret :: tables_1) room_1).applies x e0.platform about1 = true :=
  (Spec.applies_iff w_frames).mpr ⟨w_running, w_runnable, w_alone, w_named, w_hears, w_ripe, w_room, w_tables⟩
theorem atStart : AtStart classFile x code maxLocals ret World_1 tables_1 room_1 Calls_1 rest_1 Pre_1 launch0 p0 e0 about1 theMethod args0 below0 :=
  ⟨lists_1, trivial, launch0.admits_env _ _ _, launch0.least_env, fairChoices_fair.cas, fairChoices_fair.clock, w_frames, w_args, w_heap, w_applies, trivial, w_rest, w_case⟩
end start1
theorem witness_1 : WitnessClaimed_1 := ⟨start1.p0, start1.e0, start1.about1, start1.theMethod, start1.args0, start1.below0, start1.atStart⟩
end Jvm.Pilot.@@N@@
